import JvmDerived
import JvmDerived.Pilot.@@N@@Statement
import JvmDerived.Pilot.@@N@@Code
set_option linter.unusedVariables false
set_option linter.unusedSimpArgs false
namespace Jvm.RoadKit
open Sem ClassFile Op Lib Jvm.Stand Jvm.Free Jvm.LawKit
section Own
/-- from here the run comes to an end of which P holds -/
def own_Go (p : Program) (e : Env) (below : List Frame) (P : Outcome → State → Prop) (t : State) : Prop :=
  ∃ s₂ o, Steps p.tables e below t s₂ ∧ s₂.status = .running ∧ Ended s₂ below o ∧ P o s₂
variable {p : Program} {l : Launch} {e : Env} {R : Room} {s : State} {m : MethodId} {args : Array Value} {below : List Frame} {meth : Method} {c : Code} {T : State} {locs : List Loc} {cells slots : Nat}
theorem own_Go.st {P : Outcome → State → Prop} {t t' : State} (h : ∀ target, Steps p.tables e below t' target → Steps p.tables e below t target) (k : own_Go p e below P t') : own_Go p e below P t := by
  obtain ⟨a, b, h1, h2⟩ := k
  exact ⟨a, b, h _ h1, h2⟩
variable {C N : Nat} {Q : Option Value → Heap → List Loc → Prop}
theorem own_ret {v : Option Value} {g : JFrame} (X : Stand p l e R s m args below meth c T locs cells slots) (hlk : meth.locks = false) (hv : meth.sig.returnType = none → v = none)
    (hl : ∀ fs : List Frame, (∀ (f : JFrame) (acts : List Action), f.method = m → f.locked = none → f.entered = [] → (doReturn e (T.setTop f) acts v).1 = T.setFrames fs) → Steps p.tables e below (T.setTop g) (T.setFrames fs))
    (hc : cells ≤ C) (hn : slots ≤ N) (q : Q v T.heap locs) : own_Go p e below (fun o U' => ∃ v L, o = .returned v ∧ Q v U'.heap L ∧ FrameEnd s o U' L C N) (T.setTop g) := by
  obtain ⟨fs, hr, hrun, hended, hW, hsame⟩ := X.leave (v := v) hv hlk
  exact ⟨_, _, hl fs hr, hrun, hended, _, _, rfl, q, ⟨_, rfl⟩, hW, hsame.mono hc hn⟩
theorem own_retI {pc : Nat} {Ls : Array Slot} {z : Int32} {rest : List Value} (X : Stand p l e R s m args below meth c T locs cells slots) (hx : p.tables.exec = Jvm.exec) (hlk : meth.locks = false) (hret : meth.sig.returnType = some .int) (hd : decode c.code pc = .ok (.ireturn, 1))
    (hc : cells ≤ C) (hn : slots ≤ N) (q : Q (some (.int z)) T.heap locs) : own_Go p e below (fun o U' => ∃ v L, o = .returned v ∧ Q v U'.heap L ∧ FrameEnd s o U' L C N) (T.setTop (mkF m pc Ls (.int z :: rest))) :=
  own_ret X hlk (fun h => by rw [hret] at h; cases h) (fun fs hr => retOut X hx hret rfl (Or.inl ⟨rfl, Or.inl rfl, z, rfl⟩) hd hr) hc hn q
theorem own_retN {t : FieldType} {pc : Nat} {Ls : Array Slot} {z : Int32} {rest : List Value} (X : Stand p l e R s m args below meth c T locs cells slots) (hx : p.tables.exec = Jvm.exec) (hlk : meth.locks = false) (hret : meth.sig.returnType = some t) (ht : t = .boolean ∨ t = .byte ∨ t = .char ∨ t = .short) (hz : nar t z = z) (hd : decode c.code pc = .ok (.ireturn, 1))
    (hc : cells ≤ C) (hn : slots ≤ N) (q : Q (some (.int z)) T.heap locs) : own_Go p e below (fun o U' => ∃ v L, o = .returned v ∧ Q v U'.heap L ∧ FrameEnd s o U' L C N) (T.setTop (mkF m pc Ls (.int z :: rest))) :=
  own_ret X hlk (fun h => by rw [hret] at h; cases h) (fun fs hr => retN X hx (z := z) hret ht hd (by rw [hz]; exact hr)) hc hn q
theorem own_retZ {pc : Nat} {Ls : Array Slot} {z : Int32} {rest : List Value} (X : Stand p l e R s m args below meth c T locs cells slots) (hx : p.tables.exec = Jvm.exec) (hlk : meth.locks = false) (hret : meth.sig.returnType = some .boolean) (hz : z = 0 ∨ z = 1) (hd : decode c.code pc = .ok (.ireturn, 1))
    (hc : cells ≤ C) (hn : slots ≤ N) (q : Q (some (.int z)) T.heap locs) : own_Go p e below (fun o U' => ∃ v L, o = .returned v ∧ Q v U'.heap L ∧ FrameEnd s o U' L C N) (T.setTop (mkF m pc Ls (.int z :: rest))) :=
  own_retN X hx hlk hret (Or.inl rfl) (by rcases hz with rfl | rfl <;> rfl) hd hc hn q
theorem own_retJ {pc : Nat} {Ls : Array Slot} {z : Int64} {rest : List Value} (X : Stand p l e R s m args below meth c T locs cells slots) (hx : p.tables.exec = Jvm.exec) (hlk : meth.locks = false) (hret : meth.sig.returnType = some .long) (hd : decode c.code pc = .ok (.lreturn, 1))
    (hc : cells ≤ C) (hn : slots ≤ N) (q : Q (some (.long z)) T.heap locs) : own_Go p e below (fun o U' => ∃ v L, o = .returned v ∧ Q v U'.heap L ∧ FrameEnd s o U' L C N) (T.setTop (mkF m pc Ls (.long z :: rest))) :=
  own_ret X hlk (fun h => by rw [hret] at h; cases h) (fun fs hr => retOut X hx hret rfl (Or.inr (Or.inl ⟨rfl, rfl, z, rfl⟩)) hd hr) hc hn q
theorem own_retD {pc : Nat} {Ls : Array Slot} {z : UInt64} {rest : List Value} (X : Stand p l e R s m args below meth c T locs cells slots) (hx : p.tables.exec = Jvm.exec) (hlk : meth.locks = false) (hret : meth.sig.returnType = some .double) (hd : decode c.code pc = .ok (.dreturn, 1))
    (hc : cells ≤ C) (hn : slots ≤ N) (q : Q (some (.double z)) T.heap locs) : own_Go p e below (fun o U' => ∃ v L, o = .returned v ∧ Q v U'.heap L ∧ FrameEnd s o U' L C N) (T.setTop (mkF m pc Ls (.double z :: rest))) :=
  own_ret X hlk (fun h => by rw [hret] at h; cases h) (fun fs hr => retOut X hx hret rfl (Or.inr (Or.inr (Or.inl ⟨rfl, rfl, z, rfl⟩))) hd hr) hc hn q
theorem own_retA {t : FieldType} {pc : Nat} {Ls : Array Slot} {w : Value} {rest : List Value} (X : Stand p l e R s m args below meth c T locs cells slots) (hx : p.tables.exec = Jvm.exec) (hlk : meth.locks = false) (hret : meth.sig.returnType = some t) (ht : t.isReference = true) (hw : w.isRef = true) (hd : decode c.code pc = .ok (.areturn, 1))
    (hc : cells ≤ C) (hn : slots ≤ N) (q : Q (some w) T.heap locs) : own_Go p e below (fun o U' => ∃ v L, o = .returned v ∧ Q v U'.heap L ∧ FrameEnd s o U' L C N) (T.setTop (mkF m pc Ls (w :: rest))) :=
  own_ret X hlk (fun h => by rw [hret] at h; cases h) (fun fs hr => retOut X hx hret (by rcases ref_cases hw with rfl | ⟨z, rfl⟩ <;> cases t <;> rfl) (Or.inr (Or.inr (Or.inr (Or.inr ⟨rfl, ht, hw⟩)))) hd hr) hc hn q
theorem own_retV {pc : Nat} {Ls : Array Slot} (X : Stand p l e R s m args below meth c T locs cells slots) (hx : p.tables.exec = Jvm.exec) (hlk : meth.locks = false) (hret : meth.sig.returnType = none) (hd : decode c.code pc = .ok (.return_, 1))
    (hc : cells ≤ C) (hn : slots ≤ N) (q : Q none T.heap locs) : own_Go p e below (fun o U' => ∃ v L, o = .returned v ∧ Q v U'.heap L ∧ FrameEnd s o U' L C N) (T.setTop (mkF m pc Ls [])) :=
  own_ret X hlk (fun _ => rfl) (fun fs hr => X.returnOut hx hret hd hr) hc hn q
theorem own_retW {vm0 : Vm} {k0 : Nat} {v : Option Value} {g : JFrame} (X : Stand p l e R (s.setVm vm0) m args below meth c T locs cells slots) (hlk : meth.locks = false) (hv : meth.sig.returnType = none → v = none) (hS : s.Since vm0 k0) (hk : k0 ≤ T.heap.size)
    (hl : ∀ fs : List Frame, (∀ (f : JFrame) (acts : List Action), f.method = m → f.locked = none → f.entered = [] → (doReturn e (T.setTop f) acts v).1 = T.setFrames fs) → Steps p.tables e below (T.setTop g) (T.setFrames fs))
    (hc : cells ≤ C) (hn : slots ≤ N) (q : Q v T.heap locs) : own_Go p e below (fun o U' => ∃ v L, o = .returned v ∧ Q v U'.heap L ∧ ReturnedEndW s o U' L C N) (T.setTop g) := by
  obtain ⟨fs, hr, hrun, hended, h1, h2, h3, h4⟩ := X.leaveW hS hk (v := v) hv hlk
  exact ⟨_, _, hl fs hr, hrun, hended, _, _, rfl, q, h1, h2, h3, h4.mono hc hn⟩
theorem own_retWV {vm0 : Vm} {k0 : Nat} {pc : Nat} {Ls : Array Slot} (X : Stand p l e R (s.setVm vm0) m args below meth c T locs cells slots) (hx : p.tables.exec = Jvm.exec) (hlk : meth.locks = false) (hret : meth.sig.returnType = none) (hS : s.Since vm0 k0) (hk : k0 ≤ T.heap.size) (hd : decode c.code pc = .ok (.return_, 1))
    (hc : cells ≤ C) (hn : slots ≤ N) (q : Q none T.heap locs) : own_Go p e below (fun o U' => ∃ v L, o = .returned v ∧ Q v U'.heap L ∧ ReturnedEndW s o U' L C N) (T.setTop (mkF m pc Ls [])) :=
  own_retW X hlk (fun _ => rfl) hS hk (fun fs hr => X.returnOut hx hret hd hr) hc hn q
theorem own_retWZ {vm0 : Vm} {k0 : Nat} {pc : Nat} {Ls : Array Slot} {z : Int32} {rest : List Value} (X : Stand p l e R (s.setVm vm0) m args below meth c T locs cells slots) (hx : p.tables.exec = Jvm.exec) (hlk : meth.locks = false) (hret : meth.sig.returnType = some .boolean) (hS : s.Since vm0 k0) (hk : k0 ≤ T.heap.size) (hz : z = 0 ∨ z = 1) (hd : decode c.code pc = .ok (.ireturn, 1))
    (hc : cells ≤ C) (hn : slots ≤ N) (q : Q (some (.int z)) T.heap locs) : own_Go p e below (fun o U' => ∃ v L, o = .returned v ∧ Q v U'.heap L ∧ ReturnedEndW s o U' L C N) (T.setTop (mkF m pc Ls (.int z :: rest))) :=
  own_retW X hlk (fun h => by rw [hret] at h; cases h) hS hk (fun fs hr => retN X hx (z := z) (t := .boolean) hret (Or.inl rfl) hd (by rw [show nar .boolean z = z by rcases hz with rfl | rfl <;> rfl]; exact hr)) hc hn q
/-- an array: its length, and what each place holds -/
def own_Ar (Z : State) (h : Heap) (a : Addr) (ty : FieldType) (n : Nat) (f : Nat → Value) : Prop := ∃ c : Cell, Arr Z h a c ty ∧ c.slots.size = n ∧ ∀ j, j < n → c.slots[j]? = some (f j)
section OwnAr
variable {Z : State} {h h' : Heap} {a b : Addr} {ty : FieldType} {n : Nat} {f f' : Nat → Value} {ws : List Addr}
theorem own_Ar.lt (F : own_Ar Z h a ty n f) : a < h.size := by obtain ⟨c, A, -⟩ := F; exact A.lt
theorem own_Ar.ext (F : own_Ar Z h a ty n f) (E : Ext h h') : own_Ar Z h' a ty n f := by obtain ⟨c, A, r⟩ := F; exact ⟨c, A.ext E, r⟩
theorem own_Ar.other {sl : Nat} {v : Value} (F : own_Ar Z h b ty n f) (W : Wr h h' a sl v) (q : b ≠ a) : own_Ar Z h' b ty n f := by obtain ⟨c, A, r⟩ := F; exact ⟨c, A.other W q, r⟩
theorem own_Ar.keep (F : own_Ar Z h a ty n f) (K : Keep h h' ws) (q : a ∉ ws) : own_Ar Z h' a ty n f := by obtain ⟨c, A, r⟩ := F; exact ⟨c, ⟨K.2.1 a c A.1 q, A.2⟩, r⟩
theorem own_Ar.congr (F : own_Ar Z h a ty n f) (q : ∀ j, j < n → f j = f' j) : own_Ar Z h a ty n f' := by obtain ⟨c, A, S, r⟩ := F; exact ⟨c, A, S, fun j hj => by rw [← q j hj]; exact r j hj⟩
theorem own_Ar.new {cA : ClassId} {z : Int32} (A : Arr Z h a (newA cA ty z) ty) (hz : z.toInt = (n : Int)) : own_Ar Z h a ty n (fun _ => defaultValue ty) := by
  have e : z.toNatClampNeg = n := by show z.toInt.toNat = n; omega
  exact ⟨_, A, by rw [sz_new, e], fun j hj => by simp [newA, e, hj]⟩
theorem own_Ar.set {i : Nat} {v : Value} (F : own_Ar Z h a ty n f) (W : Wr h h' a i v) : own_Ar Z h' a ty n (fun j => if j = i then v else f j) := by
  obtain ⟨c, A, S, r⟩ := F
  refine ⟨c.setSlot i v, A.same W, by rw [sz_set, S], fun j hj => ?_⟩
  show (c.slots.setIfInBounds i v)[j]? = _
  by_cases q : j = i
  · subst q; simp [S, hj]
  · rw [Array.getElem?_setIfInBounds_ne (Ne.symm q), r j hj]; simp [q]
theorem own_inb {c : Cell} {j : Int32} {i : Nat} (S : c.slots.size = n) (hj : j.toInt = (i : Int)) (hi : i < n) : ¬ (j < 0 ∨ c.slots.size ≤ j.toNatClampNeg) := by
  have e : j.toNatClampNeg = i := by show j.toInt.toNat = i; omega
  rw [e, S, Int32.lt_iff_toInt_lt, hj, show (0 : Int32).toInt = 0 by decide]
  omega
theorem own_clamp {j : Int32} {i : Nat} (hj : j.toInt = (i : Int)) : j.toNatClampNeg = i := by show j.toInt.toNat = i; omega
theorem own_alen (X : Stand p l e R s m args below meth c T locs cells slots) (hx : p.tables.exec = Jvm.exec) (hZ : Z.Warmed39 s.vm) (eT : T.heap = h) (F : own_Ar Z h a ty n f) {z : Int32} (hz : z.toInt = (n : Int))
    {g : JFrame} (hg : g.method = m) {rest : List Value} (hs : g.stack = .ref a :: rest) (hd : decode c.code g.pc = .ok (.arraylength, 1)) (target : State)
    (hr : Steps p.tables e below (T.setTop { g with pc := g.pc + 1, stack := .int z :: rest }) target) : Steps p.tables e below (T.setTop g) target := by
  obtain ⟨cl, A, S, -⟩ := F
  refine X.arraylength hx (by rw [eT]; exact A.1) (State.isArrayOf_alike hZ.alike A.2.1) hg hs hd target ?_
  have q : cl.slots.size.toInt32 = z := by
    rw [← Int32.toInt_inj, S, hz]
    have := z.toInt_lt
    exact len_toInt (by omega)
  rw [q]; exact hr
theorem own_dld (X : Stand p l e R s m args below meth c T locs cells slots) (hx : p.tables.exec = Jvm.exec) (hZ : Z.Warmed39 s.vm) (eT : T.heap = h) (F : own_Ar Z h a .double n f) {j : Int32} {i : Nat} (hj : j.toInt = (i : Int)) (hi : i < n) {v : Value} (hv : f i = v)
    {g : JFrame} (hg : g.method = m) {rest : List Value} (hs : g.stack = .int j :: .ref a :: rest) (hd : decode c.code g.pc = .ok (.daload, 1)) (target : State)
    (hr : Steps p.tables e below (T.setTop { g with pc := g.pc + 1, stack := v :: rest }) target) : Steps p.tables e below (T.setTop g) target := by
  obtain ⟨cl, A, S, H⟩ := F
  exact X.daload hx (by rw [eT]; exact A.1) (State.isArrayOf_alike hZ.alike A.2.1) A.2.2 (own_inb S hj hi) (by rw [own_clamp hj, H i hi, hv]) hg hs hd target hr
theorem own_lld (X : Stand p l e R s m args below meth c T locs cells slots) (hx : p.tables.exec = Jvm.exec) (hZ : Z.Warmed39 s.vm) (eT : T.heap = h) (F : own_Ar Z h a .long n f) {j : Int32} {i : Nat} (hj : j.toInt = (i : Int)) (hi : i < n) {v : Value} (hv : f i = v)
    {g : JFrame} (hg : g.method = m) {rest : List Value} (hs : g.stack = .int j :: .ref a :: rest) (hd : decode c.code g.pc = .ok (.laload, 1)) (target : State)
    (hr : Steps p.tables e below (T.setTop { g with pc := g.pc + 1, stack := v :: rest }) target) : Steps p.tables e below (T.setTop g) target := by
  obtain ⟨cl, A, S, H⟩ := F
  exact X.laload hx (by rw [eT]; exact A.1) (State.isArrayOf_alike hZ.alike A.2.1) A.2.2 (own_inb S hj hi) (by rw [own_clamp hj, H i hi, hv]) hg hs hd target hr
theorem own_dst (X : Stand p l e R s m args below meth c T locs cells slots) (hx : p.tables.exec = Jvm.exec) (hZ : Z.Warmed39 s.vm) (eT : T.heap = h) (F : own_Ar Z h a .double n f) {j : Int32} {i : Nat} (hj : j.toInt = (i : Int)) (hi : i < n) {x : UInt64}
    {g : JFrame} (hg : g.method = m) {rest : List Value} (hs : g.stack = .double x :: .int j :: .ref a :: rest) (hd : decode c.code g.pc = .ok (.dastore, 1)) :
    ∃ T' h', Stand p l e R s m args below meth c T' (locs ++ [⟨a, i⟩]) cells slots ∧ T'.heap = h' ∧ Wr h h' a i (.double x) ∧ ∀ target, Steps p.tables e below (T'.setTop { g with pc := g.pc + 1, stack := rest }) target → Steps p.tables e below (T.setTop g) target := by
  obtain ⟨cl, A, S, H⟩ := F
  have q := stD X hx hZ eT A (x := x) (own_inb S hj hi) hg hs hd
  rw [own_clamp hj] at q
  exact q
theorem own_lst (X : Stand p l e R s m args below meth c T locs cells slots) (hx : p.tables.exec = Jvm.exec) (hZ : Z.Warmed39 s.vm) (eT : T.heap = h) (F : own_Ar Z h a .long n f) {j : Int32} {i : Nat} (hj : j.toInt = (i : Int)) (hi : i < n) {x : Int64}
    {g : JFrame} (hg : g.method = m) {rest : List Value} (hs : g.stack = .long x :: .int j :: .ref a :: rest) (hd : decode c.code g.pc = .ok (.lastore, 1)) :
    ∃ T' h', Stand p l e R s m args below meth c T' (locs ++ [⟨a, i⟩]) cells slots ∧ T'.heap = h' ∧ Wr h h' a i (.long x) ∧ ∀ target, Steps p.tables e below (T'.setTop { g with pc := g.pc + 1, stack := rest }) target → Steps p.tables e below (T.setTop g) target := by
  obtain ⟨cl, A, S, H⟩ := F
  have q := stJ X hx hZ eT A (x := x) (own_inb S hj hi) hg hs hd
  rw [own_clamp hj] at q
  exact q
end OwnAr
theorem own_stakeep {Z : State} {h h' : Heap} {C n d : String} {v : Value} {ws : List Addr} (F : Sta Z h C n d v) (K : Keep h h' ws) (q : ∀ x ∈ ws, ∀ c : Cell, h[x]? = some c → c.vm.isStatics = false) : Sta Z h' C n d v := by
  obtain ⟨cf, i, k, f, st, cell, h1, h2, h3, h4, h5, h6, h7⟩ := F
  exact ⟨cf, i, k, f, st, cell, h1, h2, h3, h4, K.2.1 st cell h5 (fun hm => by rw [q st hm cell h5] at h6; cases h6), h6, h7⟩
end Own
end Jvm.RoadKit
namespace Jvm.RoadKit
open Sem ClassFile Op Lib Jvm.Stand Jvm.Free Jvm.LawKit
section OwnStr
variable {p : Program} {l : Launch} {e : Env} {R : Room} {s : State} {m : MethodId} {args : Array Value} {below : List Frame} {meth : Method} {c : Code} {T : State} {locs : List Loc} {cells slots : Nat}
variable {Z : State} {h h' : Heap} {a b : Addr} {n : Nat} {f : Nat → Value} {ws : List Addr} {v : Value}
theorem own_cald (X : Stand p l e R s m args below meth c T locs cells slots) (hx : p.tables.exec = Jvm.exec) (hZ : Z.Warmed39 s.vm) (eT : T.heap = h) (F : own_Ar Z h a .char n f) {j : Int32} {i : Nat} (hj : j.toInt = (i : Int)) (hi : i < n) {v : Value} (hv : f i = v)
    {g : JFrame} (hg : g.method = m) {rest : List Value} (hs : g.stack = .int j :: .ref a :: rest) (hd : decode c.code g.pc = .ok (.caload, 1)) (target : State)
    (hr : Steps p.tables e below (T.setTop { g with pc := g.pc + 1, stack := v :: rest }) target) : Steps p.tables e below (T.setTop g) target := by
  obtain ⟨cl, A, S, H⟩ := F
  exact X.caload hx (by rw [eT]; exact A.1) (State.isArrayOf_alike hZ.alike A.2.1) A.2.2 (own_inb S hj hi) (by rw [own_clamp hj, H i hi, hv]) hg hs hd target hr
theorem own_bald (X : Stand p l e R s m args below meth c T locs cells slots) (hx : p.tables.exec = Jvm.exec) (hZ : Z.Warmed39 s.vm) (eT : T.heap = h) (F : own_Ar Z h a .byte n f) {j : Int32} {i : Nat} (hj : j.toInt = (i : Int)) (hi : i < n) {v : Value} (hv : f i = v)
    {g : JFrame} (hg : g.method = m) {rest : List Value} (hs : g.stack = .int j :: .ref a :: rest) (hd : decode c.code g.pc = .ok (.baload, 1)) (target : State)
    (hr : Steps p.tables e below (T.setTop { g with pc := g.pc + 1, stack := v :: rest }) target) : Steps p.tables e below (T.setTop g) target := by
  obtain ⟨cl, A, S, H⟩ := F
  exact X.baloadBytes hx (by rw [eT]; exact A.1) (State.isArrayOf_alike hZ.alike A.2.1) A.2.2 (own_inb S hj hi) (by rw [own_clamp hj, H i hi, hv]) hg hs hd target hr
theorem own_rald {ty : FieldType} (ht : ty.isReference = true) (X : Stand p l e R s m args below meth c T locs cells slots) (hx : p.tables.exec = Jvm.exec) (hZ : Z.Warmed39 s.vm) (eT : T.heap = h) (F : own_Ar Z h a ty n f) {j : Int32} {i : Nat} (hj : j.toInt = (i : Int)) (hi : i < n) {v : Value} (hv : f i = v)
    {g : JFrame} (hg : g.method = m) {rest : List Value} (hs : g.stack = .int j :: .ref a :: rest) (hd : decode c.code g.pc = .ok (.aaload, 1)) (target : State)
    (hr : Steps p.tables e below (T.setTop { g with pc := g.pc + 1, stack := v :: rest }) target) : Steps p.tables e below (T.setTop g) target := by
  obtain ⟨cl, A, S, H⟩ := F
  exact X.aaload hx (by rw [eT]; exact A.1) (State.isArrayOf_alike hZ.alike A.2.1) ht A.2.2 (own_inb S hj hi) (by rw [own_clamp hj, H i hi, hv]) hg hs hd target hr
theorem own_cast (X : Stand p l e R s m args below meth c T locs cells slots) (hx : p.tables.exec = Jvm.exec) (hZ : Z.Warmed39 s.vm) (eT : T.heap = h) (F : own_Ar Z h a .char n f) {j : Int32} {i : Nat} (hj : j.toInt = (i : Int)) (hi : i < n) {x : Int32} (hn : nar .char x = x)
    {g : JFrame} (hg : g.method = m) {rest : List Value} (hs : g.stack = .int x :: .int j :: .ref a :: rest) (hd : decode c.code g.pc = .ok (.castore, 1)) :
    ∃ T' h', Stand p l e R s m args below meth c T' (locs ++ [⟨a, i⟩]) cells slots ∧ T'.heap = h' ∧ Wr h h' a i (.int x) ∧ ∀ target, Steps p.tables e below (T'.setTop { g with pc := g.pc + 1, stack := rest }) target → Steps p.tables e below (T.setTop g) target := by
  obtain ⟨cl, A, S, H⟩ := F
  have q := stC X hx hZ eT A (x := x) (own_inb S hj hi) hg hs hd
  rw [own_clamp hj, hn] at q
  exact q
theorem own_bast (X : Stand p l e R s m args below meth c T locs cells slots) (hx : p.tables.exec = Jvm.exec) (hZ : Z.Warmed39 s.vm) (eT : T.heap = h) (F : own_Ar Z h a .byte n f) {j : Int32} {i : Nat} (hj : j.toInt = (i : Int)) (hi : i < n) {x : Int32} (hn : nar .byte x = x)
    {g : JFrame} (hg : g.method = m) {rest : List Value} (hs : g.stack = .int x :: .int j :: .ref a :: rest) (hd : decode c.code g.pc = .ok (.bastore, 1)) :
    ∃ T' h', Stand p l e R s m args below meth c T' (locs ++ [⟨a, i⟩]) cells slots ∧ T'.heap = h' ∧ Wr h h' a i (.int x) ∧ ∀ target, Steps p.tables e below (T'.setTop { g with pc := g.pc + 1, stack := rest }) target → Steps p.tables e below (T.setTop g) target := by
  obtain ⟨cl, A, S, H⟩ := F
  have q := stB X hx hZ eT A (x := x) (own_inb S hj hi) hg hs hd
  rw [own_clamp hj, hn] at q
  exact q
theorem own_Ar.arv {k : ClassId} {ty : FieldType} {z : Int32} {vs : List Value} {d : Value} (F : Arv Z h a k ty z vs d) (hn : z.toNatClampNeg = n) : own_Ar Z h a ty n (fun j => vs.getD j d) := by
  obtain ⟨c, A, -, S, -, H, -⟩ := F
  exact ⟨c, A, by rw [S, hn], fun j hj => H j (by rw [S, hn]; exact hj)⟩
/-- a char that fits a byte -/
def own_C8 (x : Int32) : Prop := 0 ≤ x.toInt ∧ x.toInt < 256
theorem own_nar_char {x : Int32} (h : own_C8 x) : nar .char x = x := by
  show x.toUInt32.toUInt16.toUInt32.toInt32 = x
  obtain ⟨h1, h2⟩ := h
  apply Int32.toInt_inj.mp
  have e : x.toBitVec.toNat < 256 := by
    have r := BitVec.toInt_eq_toNat_cond x.toBitVec
    have q : x.toInt = x.toBitVec.toInt := rfl
    have t := x.toBitVec.isLt
    split at r <;> omega
  have e2 : x.toUInt32.toUInt16.toUInt32 = x.toUInt32 := by
    apply UInt32.toNat_inj.mp
    rw [UInt16.toNat_toUInt32, UInt32.toNat_toUInt16]
    exact Nat.mod_eq_of_lt (show x.toBitVec.toNat < 2 ^ 16 by omega)
  rw [e2]; rfl
theorem own_nar_byte (x : Int32) : nar .byte x.toInt8.toInt32 = x.toInt8.toInt32 := by
  show x.toInt8.toInt32.toInt8.toInt32 = _
  rw [Int8.toInt8_toInt32]
/-- a String: its bytes' array and their ints -/
def own_Str (Z : State) (h : Heap) (a b : Addr) (n : Nat) (g : Nat → Int32) : Prop :=
  Exa Z h a "java/lang/String" ∧ Fld Z h a "java/lang/String" "coder" "B" (.int 0) ∧ Fld Z h a "java/lang/String" "value" "[B" (.ref b) ∧ own_Ar Z h b .byte n (fun j => .int (g j))
theorem own_Str.ext {g : Nat → Int32} (F : own_Str Z h a b n g) (E : Ext h h') : own_Str Z h' a b n g := ⟨F.1.ext E, F.2.1.ext E, F.2.2.1.ext E, F.2.2.2.ext E⟩
theorem own_Str.keep {g : Nat → Int32} (F : own_Str Z h a b n g) (K : Keep h h' ws) (q1 : a ∉ ws) (q2 : b ∉ ws) : own_Str Z h' a b n g := ⟨F.1.keep K, F.2.1.keep K q1, F.2.2.1.keep K q1, F.2.2.2.keep K q2⟩
theorem own_Str.congr {g g' : Nat → Int32} (F : own_Str Z h a b n g) (q : ∀ j, j < n → g j = g' j) : own_Str Z h a b n g' := ⟨F.1, F.2.1, F.2.2.1, F.2.2.2.congr fun j hj => by rw [q j hj]⟩
theorem own_fld_det {C nm d : String} {v w : Value} (F : Fld Z h a C nm d v) (G : Fld Z h a C nm d w) : v = w := by
  obtain ⟨c1, cf, k, i, fl, h1, h2, -, -, -, -, h3⟩ := F
  obtain ⟨c2, cf2, k2, i2, fl2, g1, g2, -, -, -, -, g3⟩ := G
  cases h1.symm.trans g1
  cases h2.symm.trans g2
  exact Option.some.inj (h3.symm.trans g3)
/-- two texts are the same -/
def own_eqt (n : Nat) (g : Nat → Int32) (n' : Nat) (g' : Nat → Int32) : Prop := n = n' ∧ ∀ j, j < n → g j = g' j
theorem own_Str.det {b' : Addr} {n' : Nat} {g g' : Nat → Int32} (F : own_Str Z h a b n g) (G : own_Str Z h a b' n' g') : own_eqt n g n' g' := by
  have e := own_fld_det F.2.2.1 G.2.2.1
  cases e
  obtain ⟨c1, A, S, H⟩ := F.2.2.2
  obtain ⟨c2, A', S', H'⟩ := G.2.2.2
  cases A.1.symm.trans A'.1
  have e : n = n' := S.symm.trans S'
  subst e
  exact ⟨rfl, fun j hj => by have := (H j hj).symm.trans (H' j hj); simpa using this⟩
def own_B (z : Int32) (P : Prop) : Prop := (z = 1 ∧ P) ∨ (z = 0 ∧ ¬ P)
theorem own_inc {n : Int32} {k : Nat} (h : n.toInt = (k : Int)) (hk : k < 100000) : (n + 1).toInt = ((k + 1 : Nat) : Int) := by
  have h1 := c_iadd n 1
  have h2 := rng32 (n + 1)
  rw [show (1 : Int32).toInt = 1 by decide] at h1
  omega
theorem own_i32 {n z : Int32} (h : n.toInt = z.toInt) : n = z := Int32.toInt_inj.mp h
/-- which texts were interned: over a callee -/
theorem own_IB_at {vm0 : Vm} {Ts : List String} (X : Stand p l e R (s.setVm vm0) m args below meth c T locs cells slots) (I : IB Z vm0 Ts) : IB Z T.vm Ts := by
  obtain ⟨more, h1, h2⟩ := I
  exact ⟨more, by rw [show T.vm.interned = vm0.interned from X.warmed.interned_eq]; exact h1, h2⟩
theorem own_backSI {vm0 : Vm} {Ts Us : List String} {a0 : Array Value} {y : MethodName} {bytes : ByteArray} {maxL : Nat} {ret : Option FieldType} {rm : Room} {len W : Nat} {as' : Array Value} {Q : Option Value → Heap → List Loc → Prop}
    (hM : MetFree l y (head1 [Cond.code y bytes maxL ret] rm) (fun a U => a = as' ∧ Z.Warmed39 U.vm ∧ U.heap = h ∧ IB Z U.vm Ts) (fun _ _ _ _ _ => True) (fun _ U o U' => ∃ v L, o = .returned v ∧ Q v U'.heap L ∧ IB Z U'.vm Us ∧ ReturnedEndW U o U' L rm.cells rm.slots))
    (hZ : Z.Warmed39 vm0) (wc : (Cond.code y bytes maxL ret).before a0 Z = true) (wz : (Cond.initialized y.cls).before a0 Z = true) (hf : rm.frames + 1 ≤ R.frames) (hl : W + (maxL + 11) + rm.locals ≤ R.locals) (I : IB Z vm0 Ts) :
    BackS l R p e below (s.setVm vm0) args y len W (fun A a => a = as' ∧ A.U.heap = h ∧ A.cells + rm.cells ≤ R.cells ∧ A.slots + rm.slots ≤ R.slots)
      (fun A _ v B => ∃ L, Q v B.U.heap L ∧ B.locs = A.locs ++ L ∧ B.cells = A.cells + rm.cells ∧ B.slots = A.slots + rm.slots ∧ IB Z B.U.vm Us) :=
  BackS.of_freeW (bytes := bytes) (maxL := maxL) (ret := ret) (E := fun _ first o t L k n => k = rm.cells ∧ n = rm.slots ∧ (∃ v, o = .returned v ∧ Q v t.heap L) ∧ IB Z t.vm Us) hM hf hl
    (fun m meth c A a Y hp => have hU : Z.Warmed39 A.U.vm := wtrans (s := s.setVm vm0) hZ Y.warmed
      ⟨by show (Cond.and _ .tt).before a A.U = true; rw [Cond.before_and, mv hU wc]; rfl, mv hU wc, mv hU wz, hp.2.2.1, hp.2.2.2⟩)
    (fun m meth c A a g mk Y hp => ⟨hp.1, wtrans (s := s.setVm vm0) hZ Y.warmed, hp.2.1, show IB Z A.U.vm Ts from own_IB_at Y I⟩) (fun _ _ _ _ _ _ _ _ _ => trivial)
    (fun _ _ _ _ ⟨v, L, h1, h2, h3, h4⟩ => ⟨L, _, _, h4, rfl, rfl, ⟨v, h1, h2⟩, h3⟩)
    (fun m meth c A a g mk v t L k n Y hp _ _ ⟨e1, e2, ⟨v', e3, e4⟩, e5⟩ => by
      cases e3; subst e1 e2
      exact ⟨L, e4, rfl, rfl, rfl, e5⟩)
theorem own_getD_map (ls : List Int32) (j : Nat) : (ls.map Value.int).getD j (.int 0) = .int (ls.getD j 0) := by
  induction ls generalizing j with
  | nil => rfl
  | cons x l ih => cases j with
    | zero => rfl
    | succ j => exact ih j
theorem own_retWVI {vm0 : Vm} {k0 C N : Nat} {Q : Option Value → Heap → List Loc → Prop} {Us : List String} {pc : Nat} {Ls : Array Slot} (X : Stand p l e R (s.setVm vm0) m args below meth c T locs cells slots) (hx : p.tables.exec = Jvm.exec) (hlk : meth.locks = false) (hret : meth.sig.returnType = none) (hS : s.Since vm0 k0) (hk : k0 ≤ T.heap.size) (hd : decode c.code pc = .ok (.return_, 1)) (I : IB Z T.vm Us)
    (hc : cells ≤ C) (hn : slots ≤ N) (q : Q none T.heap locs) : own_Go p e below (fun o U' => ∃ v L, o = .returned v ∧ Q v U'.heap L ∧ IB Z U'.vm Us ∧ ReturnedEndW s o U' L C N) (T.setTop (mkF m pc Ls [])) := by
  obtain ⟨fs, hr, hrun, hended, h1, h2, h3, h4⟩ := X.leaveW hS hk (v := none) (fun _ => rfl) hlk
  exact ⟨_, _, X.returnOut hx hret hd hr, hrun, hended, _, _, rfl, q, I, h1, h2, h3, h4.mono hc hn⟩
theorem own_ne0 {ty : FieldType} {C nm d : String} (F : own_Ar Z h b ty 0 f) (G : Fld Z h a C nm d v) : b ≠ a := fun q => by
  subst q
  obtain ⟨c1, A, S, -⟩ := F
  obtain ⟨c2, cf, k, i, fl, h1, -, -, -, -, -, h7⟩ := G
  cases A.1.symm.trans h1
  have : fl.slot < c1.slots.size := (Array.getElem?_eq_some_iff.mp h7).1
  omega
theorem own_fit_keep {ty : FieldType} {h0 : Heap} (F : own_Ar Z h0 a ty n f) (K : Keep h0 h []) (hF : ∀ c : Cell, Arr Z h0 a c ty → FitC Z c) : ∀ c : Cell, Arr Z h a c ty → FitC Z c := fun c A => by
  obtain ⟨c0, A0, -⟩ := F
  have e := K.2.1 a c0 A0.1 (List.not_mem_nil)
  cases A.1.symm.trans e
  exact hF c A0
theorem own_nst {K : String} (E : Exa Z h a K) : ∀ x ∈ [a], ∀ c : Cell, h[x]? = some c → c.vm.isStatics = false := by
  obtain ⟨c1, k1, e1, -, -, e2, -⟩ := E
  intro x hx c hc
  simp only [List.mem_cons, List.not_mem_nil, or_false] at hx
  subst hx
  cases e1.symm.trans hc; exact e2
theorem own_arr_start {t : Term} {ty : FieldType} {N : Int32} (et : t.eval args Z none [] Z = some (.ref a)) (ha : (Cond.arrayOf t ty).value args Z none Z [] = some true) (hl : (Cond.eq (.length t) (.int N)).value args Z none Z [] = some true) (hN : N.toInt = (n : Int)) :
    ∃ fv : Nat → Value, own_Ar Z Z.heap a ty n fv ∧ ∀ k, k < n → ∀ j : Int32, j.toInt = (k : Int) → (Term.elem t (.int j)).eval args Z none [] Z = some (fv k) := by
  obtain ⟨c, A⟩ := Arr.start et ha
  have fin := A.fin (Vm.Alike.refl _)
  have e := eqv_i (Term.int_eval N) hl
  have S : c.slots.size = n := by
    simp only [Term.eval, et, fin, Option.bind_eq_bind, Option.bind_some] at e
    split at e
    · rename_i q
      have e1 : c.slots.size.toInt32 = N := by simpa using e
      have := congrArg Int32.toInt e1
      rw [len_toInt q, hN] at this
      omega
    · cases e
  refine ⟨fun j => (c.slots[j]?).getD .null, ⟨c, A, S, fun j hj => ?_⟩, fun k hk j hj => ?_⟩
  · show c.slots[j]? = some ((c.slots[j]?).getD .null)
    rw [Array.getElem?_eq_getElem (show j < c.slots.size by omega)]; rfl
  · have nn : ¬ j < 0 := by rw [Int32.lt_iff_toInt_lt, hj, show (0 : Int32).toInt = 0 by decide]; omega
    rw [elem_f et (Term.int_eval j) fin nn, own_clamp hj]
    show c.slots[k]? = some ((c.slots[k]?).getD .null)
    rw [Array.getElem?_eq_getElem (show k < c.slots.size by omega)]; rfl
theorem own_Str.start {tn : Term} {N : Int32} (vn : tn.eval args Z none [] Z = some (.ref a)) (hx : (Cond.exactly tn "java/lang/String").value args Z none Z [] = some true) (hc : (Cond.eq (.field tn "java/lang/String" "coder" "B") (.int 0)).value args Z none Z [] = some true) (ha : (Cond.arrayOf (.field tn "java/lang/String" "value" "[B") .byte).value args Z none Z [] = some true) (hl : (Cond.eq (.length (.field tn "java/lang/String" "value" "[B")) (.int N)).value args Z none Z [] = some true) (hN : N.toInt = (n : Int)) (ls : List Int32)
    (he : ∀ k, k < n → ∃ j : Int32, j.toInt = (k : Int) ∧ (Cond.eq (.elem (.field tn "java/lang/String" "value" "[B") (.int j)) (.int (ls.getD k 0))).value args Z none Z [] = some true) : ∃ b, own_Str Z Z.heap a b n (fun j => ls.getD j 0) := by
  obtain ⟨b, vb⟩ := arr_v ha
  obtain ⟨fv, F, H⟩ := own_arr_start vb ha hl hN
  refine ⟨b, Exa.start vn hx, Fld.start ((fld_at vn).symm.trans (eqv_i (Term.int_eval (0)) hc)), Fld.start ((fld_at vn).symm.trans vb), F.congr fun k hk => ?_⟩
  obtain ⟨j, hj, hm⟩ := he k hk
  have e1 := H k hk j hj
  have e2 := eqv_i (Term.int_eval (ls.getD k 0)) hm
  exact Option.some.inj (e1.symm.trans e2)
theorem own_eqref {X F : Term} {y : Value} (hF : F.eval args Z none [] Z = some y) (hy : y.isRef = true) (h : (Cond.eq X F).value args Z none Z [] = some true) : X.eval args Z none [] Z = some y :=
  Cond.eq_refs (by show ((Cond.eq X F).value args Z none Z [] == some true) = true; rw [h]; rfl) hF hy
end OwnStr
end Jvm.RoadKit
namespace Jvm.Pilot.@@N@@
open Jvm Jvm.ClassFile Sem Op Lib Jvm.Free Jvm.Stand Jvm.LawKit Jvm.RoadKit Bundle Jvm.Pilot.@@N@@.Jvm.D
theorem own_strAtoms {Z : State} {a0 : Array Value} (hw : ∀ d ∈ tables_1, d.before a0 Z = true) : ∀ a ∈ Bundle.stringAtoms, a.before a0 Z = true := by
  intro d hd
  simp only [Bundle.stringAtoms, List.mem_cons, List.not_mem_nil, or_false] at hd
  rcases hd with rfl | rfl | rfl | rfl | rfl | rfl | rfl
  all_goals first | exact hw _ (List.mem_of_getElem? (i := 7) rfl) | exact hw _ (List.mem_of_getElem? (i := 8) rfl) | exact hw _ (List.mem_of_getElem? (i := 23) rfl) | exact hw _ (List.mem_of_getElem? (i := 24) rfl) | exact hw _ (List.mem_of_getElem? (i := 25) rfl) | exact hw _ (List.mem_of_getElem? (i := 26) rfl) | exact hw _ (List.mem_of_getElem? (i := 27) rfl)
theorem own_cstep (f : Nat → Int32) (fb : Nat → Value) (i j : Nat) : (if j = i then Value.int ((f i).toInt8.toInt32) else if j < i then Value.int ((f j).toInt8.toInt32) else fb j) = (if j < i + 1 then Value.int ((f j).toInt8.toInt32) else fb j) := by
  by_cases q : j = i
  · subst q; simp
  · by_cases q2 : j < i
    · simp [q, q2, show j < i + 1 by omega]
    · simp [q, q2, show ¬ j < i + 1 by omega]
theorem own_d (w : Int64) (i : Int32) : ∃ x, (((w.toUInt64 >>> (((8 : Int32) * i) &&& 0x3f).toInt64.toUInt64).toInt64 &&& (255 : Int64)).toInt32).toUInt32.toUInt16.toUInt32.toInt32 = x ∧ own_C8 x := by
  refine ⟨_, rfl, ?_⟩
  generalize (w.toUInt64 >>> (((8 : Int32) * i) &&& 0x3f).toInt64.toUInt64).toInt64 = y
  have h := c_maskL y 255 8 (by decide) (by decide)
  have l := c_l2i (y &&& 255)
  have r := rng32 (y &&& 255).toInt32
  have q : own_C8 (y &&& 255).toInt32 := by unfold own_C8; omega
  have e := own_nar_char q
  rw [show nar .char (y &&& 255).toInt32 = (y &&& 255).toInt32.toUInt32.toUInt16.toUInt32.toInt32 from rfl] at e
  rw [e]; exact q
theorem own_c255 (x : Int32) : ∃ z, ((x &&& (255 : Int32)).toUInt32.toUInt16.toUInt32.toInt32) = z ∧ own_C8 z := by
  refine ⟨_, rfl, ?_⟩
  have h := c_mask x 255 8 (by decide) (by decide)
  have q : own_C8 (x &&& 255) := by unfold own_C8; omega
  have e := own_nar_char q
  rw [show nar .char (x &&& 255) = (x &&& 255).toUInt32.toUInt16.toUInt32.toInt32 from rfl] at e
  rw [e]; exact q
theorem own_setc (f : Nat → Int32) (i : Nat) (x : Int32) (j : Nat) : (if j = i then Value.int x else .int (f j)) = .int (if j = i then x else f j) := by split <;> rfl
theorem own_c8set {f : Nat → Int32} {n i : Nat} {x : Int32} (hf : ∀ j, j < n → own_C8 (f j)) (hx : own_C8 x) : ∀ j, j < n → own_C8 (if j = i then x else f j) := fun j hj => by split; exact hx; exact hf j hj
theorem own_c8lit {x : Int32} (h : 0 ≤ x.toInt ∧ x.toInt < 256 := by decide) : own_C8 x := h
theorem own_pn0 : plainName "com/example/marshal/marshal/variables/VariableTypeNamedPinLaw" = true := by first | (simp [plainName, overriddenIn]; done) | decide +kernel
theorem own_ef1 (m : MethodId) (x0 : Int64) (x1 : Int32) : entryFrame m #[(.long x0), (.int x1)] 3 = mkF m 0 #[.val (.long x0), .second, .val (.int x1)] [] := by first | (simp [entryFrame, mkF, argsToLocals, Value.category]; done) | rfl
theorem own_d_method_3_0 : decode method_3_code 0 = .ok (.lload_n 0, 1) := by decide +kernel
theorem own_d_method_3_1 : decode method_3_code 1 = .ok (.bipush 8, 2) := by decide +kernel
theorem own_d_method_3_3 : decode method_3_code 3 = .ok (.iload_n 2, 1) := by decide +kernel
theorem own_d_method_3_4 : decode method_3_code 4 = .ok (.imul, 1) := by decide +kernel
theorem own_d_method_3_5 : decode method_3_code 5 = .ok (.lushr, 1) := by decide +kernel
theorem own_d_method_3_6 : decode method_3_code 6 = .ok (.ldc2_w 53, 3) := by decide +kernel
theorem own_d_method_3_9 : decode method_3_code 9 = .ok (.land, 1) := by decide +kernel
theorem own_d_method_3_10 : decode method_3_code 10 = .ok (.l2i, 1) := by decide +kernel
theorem own_d_method_3_11 : decode method_3_code 11 = .ok (.i2c, 1) := by decide +kernel
theorem own_d_method_3_12 : decode method_3_code 12 = .ok (.ireturn, 1) := by decide +kernel
def own_Q_own_dd (Z : State) (xw : Int64) (xi : Int32) (h0 : Heap) (n0 : Nat) (v : Option Value) (h : Heap) (L : List Loc) : Prop := ∃ x, v = some (.int x) ∧ Fr n0 L ∧ own_C8 x ∧ h = h0
set_option maxRecDepth 65536 in
set_option maxHeartbeats 40000000 in
theorem own_dd (l : Launch) (Z : State) (a0 : Array Value) (hw : ∀ d ∈ tables_1, d.before a0 Z = true) (ws : List Jvm.Cond) (xw : Int64) (xi : Int32) (h0 : Heap) (n0 : Nat) (Z0 : n0 ≤ h0.size)  :
    MetFree l (⟨"com/example/marshal/marshal/variables/VariableTypeNamedPinLaw", "d", "(JI)C"⟩ : MethodName) (head1 (Jvm.Cond.code (⟨"com/example/marshal/marshal/variables/VariableTypeNamedPinLaw", "d", "(JI)C"⟩ : MethodName) method_3_code 3 (some .char) :: ws) ({ frames := 0, cells := 0, slots := 0, locals := 0 } : Room)) (fun av_ U => av_ = #[(.long xw), (.int xi)] ∧ Z.Warmed39 U.vm ∧ U.heap = h0) (fun _ _ _ _ _ => True) (fun _ U o U' => ∃ v L, o = .returned v ∧ own_Q_own_dd Z xw xi h0 n0 v U'.heap L ∧ FrameEnd U o U' L ({ frames := 0, cells := 0, slots := 0, locals := 0 } : Room).cells ({ frames := 0, cells := 0, slots := 0, locals := 0 } : Room).slots) := by
  refine MetFree.of_bodySF (plainFor_of_name own_pn0) hisR ?_
  intro p e s m args below meth c s₁ Bd hml0 hP hK
  obtain ⟨rfl, hZ, hh⟩ := hP
  have hx := Bd.exec
  have hby := Bd.bytes
  have hml : c.maxLocals = 3 := hml0
  have hown : s.vm.findClass "com/example/marshal/marshal/variables/VariableTypeNamedPinLaw" = some m.cls := findClass_of_methodNamed Bd.named
  have hnm := (name_of_methodNamed Bd.named Bd.method).1
  have X0 : Stand p l e ({ frames := 0, cells := 0, slots := 0, locals := 0 } : Room) s m #[(.long xw), (.int xi)] below meth c s₁ [] 0 0 := Stand.of_body Bd
  have e0 : s₁.heap = h0 := by rw [← hh, Bd.state]; rfl
  have N0 := Fr.nil n0
  suffices hgo : own_Go p e below (fun o U' => ∃ v L, o = .returned v ∧ own_Q_own_dd Z xw xi h0 n0 v U'.heap L ∧ FrameEnd s o U' L ({ frames := 0, cells := 0, slots := 0, locals := 0 } : Room).cells ({ frames := 0, cells := 0, slots := 0, locals := 0 } : Room).slots) (s₁.setTop (mkF m 0 #[.val (.long xw), .second, .val (.int xi)] [])) by
    obtain ⟨s₂, o, h1, h2, h3, h4⟩ := hgo
    exact ⟨s₂, o, castTop (own_ef1 m xw xi) h1, h2, h3, h4⟩
  show own_Go p e below _ (s₁.setTop (mkF m 0 #[.val (.long xw), .second, .val (.int xi)] []))
  refine own_Go.st (fun _ kt => XS.lloadN X0.here hx rfl (hb hby own_d_method_3_0) rfl kt) ?_
  show own_Go p e below _ (s₁.setTop (mkF m 1 #[.val (.long xw), .second, .val (.int xi)] [(.long xw)]))
  refine own_Go.st (fun _ kt => XS.bipush X0.here hx rfl (hb hby own_d_method_3_1) kt) ?_
  show own_Go p e below _ (s₁.setTop (mkF m 3 #[.val (.long xw), .second, .val (.int xi)] [(.int (8 : Int32)), (.long xw)]))
  refine own_Go.st (fun _ kt => XS.iloadN X0.here hx rfl (hb hby own_d_method_3_3) rfl kt) ?_
  show own_Go p e below _ (s₁.setTop (mkF m 4 #[.val (.long xw), .second, .val (.int xi)] [(.int xi), (.int (8 : Int32)), (.long xw)]))
  refine own_Go.st (fun _ kt => XS.imul X0.here hx rfl (hb hby own_d_method_3_4) rfl kt) ?_
  show own_Go p e below _ (s₁.setTop (mkF m 5 #[.val (.long xw), .second, .val (.int xi)] [(.int ((8 : Int32) * xi)), (.long xw)]))
  refine own_Go.st (fun _ kt => XS.lushr X0.here hx rfl (hb hby own_d_method_3_5) rfl kt) ?_
  show own_Go p e below _ (s₁.setTop (mkF m 6 #[.val (.long xw), .second, .val (.int xi)] [(.long ((xw.toUInt64 >>> (((8 : Int32) * xi) &&& 0x3f).toInt64.toUInt64).toInt64))]))
  refine own_Go.st (fun _ kt => X0.ldc2J hx hown (mvT hZ (hw _ (List.mem_of_getElem? (i := 5) rfl))) rfl (hb hby own_d_method_3_6) kt) ?_
  show own_Go p e below _ (s₁.setTop (mkF m 9 #[.val (.long xw), .second, .val (.int xi)] [(.long (255 : Int64)), (.long ((xw.toUInt64 >>> (((8 : Int32) * xi) &&& 0x3f).toInt64.toUInt64).toInt64))]))
  refine own_Go.st (fun _ kt => XS.land X0.here hx rfl (hb hby own_d_method_3_9) rfl kt) ?_
  show own_Go p e below _ (s₁.setTop (mkF m 10 #[.val (.long xw), .second, .val (.int xi)] [(.long (((xw.toUInt64 >>> (((8 : Int32) * xi) &&& 0x3f).toInt64.toUInt64).toInt64) &&& (255 : Int64)))]))
  refine own_Go.st (fun _ kt => XS.l2i X0.here hx rfl (hb hby own_d_method_3_10) rfl kt) ?_
  show own_Go p e below _ (s₁.setTop (mkF m 11 #[.val (.long xw), .second, .val (.int xi)] [(.int ((((xw.toUInt64 >>> (((8 : Int32) * xi) &&& 0x3f).toInt64.toUInt64).toInt64) &&& (255 : Int64)).toInt32))]))
  refine own_Go.st (fun _ kt => XS.i2c X0.here hx rfl (hb hby own_d_method_3_11) rfl kt) ?_
  show own_Go p e below _ (s₁.setTop (mkF m 12 #[.val (.long xw), .second, .val (.int xi)] [(.int (((((xw.toUInt64 >>> (((8 : Int32) * xi) &&& 0x3f).toInt64.toUInt64).toInt64) &&& (255 : Int64)).toInt32).toUInt32.toUInt16.toUInt32.toInt32))]))
  obtain ⟨x, hx1, hx2⟩ := own_d xw xi
  rw [show (((((xw.toUInt64 >>> (((8 : Int32) * xi) &&& 0x3f).toInt64.toUInt64).toInt64) &&& (255 : Int64)).toInt32).toUInt32.toUInt16.toUInt32.toInt32) = x from hx1]
  show own_Go p e below _ (s₁.setTop (mkF m 12 #[.val (.long xw), .second, .val (.int xi)] [(.int x)]))
  exact own_retN X0 hx Bd.notSynchronized Bd.returns (t := .char) (by simp) (own_nar_char hx2) (hb hby own_d_method_3_12) (by decide) (by decide) ⟨_, rfl, N0, hx2, e0⟩
theorem own_ef2 (m : MethodId) (x0 : Addr) (x1 : Int32) : entryFrame m #[(.ref x0), (.int x1)] 2 = mkF m 0 #[.val (.ref x0), .val (.int x1)] [] := by first | (simp [entryFrame, mkF, argsToLocals, Value.category]; done) | rfl
theorem own_d_method_4_0 : decode method_4_code 0 = .ok (.iload_n 1, 1) := by decide +kernel
theorem own_d_method_4_1 : decode method_4_code 1 = .ok (.tableswitch 251 0 7 #[47, 51, 61, 77, 99, 127, 161, 202], 47) := by decide +kernel
theorem own_d_method_4_48 : decode method_4_code 48 = .ok (.iconst 0, 1) := by decide +kernel
theorem own_d_method_4_49 : decode method_4_code 49 = .ok (.newarray .char, 2) := by decide +kernel
theorem own_d_method_4_51 : decode method_4_code 51 = .ok (.areturn, 1) := by decide +kernel
theorem own_d_method_4_52 : decode method_4_code 52 = .ok (.iconst 1, 1) := by decide +kernel
theorem own_d_method_4_53 : decode method_4_code 53 = .ok (.newarray .char, 2) := by decide +kernel
theorem own_d_method_4_55 : decode method_4_code 55 = .ok (.dup, 1) := by decide +kernel
theorem own_d_method_4_56 : decode method_4_code 56 = .ok (.iconst 0, 1) := by decide +kernel
theorem own_d_method_4_57 : decode method_4_code 57 = .ok (.aload_n 0, 1) := by decide +kernel
theorem own_d_method_4_58 : decode method_4_code 58 = .ok (.iconst 0, 1) := by decide +kernel
theorem own_d_method_4_59 : decode method_4_code 59 = .ok (.caload, 1) := by decide +kernel
theorem own_d_method_4_60 : decode method_4_code 60 = .ok (.castore, 1) := by decide +kernel
theorem own_d_method_4_61 : decode method_4_code 61 = .ok (.areturn, 1) := by decide +kernel
theorem own_d_method_4_62 : decode method_4_code 62 = .ok (.iconst 2, 1) := by decide +kernel
theorem own_d_method_4_63 : decode method_4_code 63 = .ok (.newarray .char, 2) := by decide +kernel
theorem own_d_method_4_65 : decode method_4_code 65 = .ok (.dup, 1) := by decide +kernel
theorem own_d_method_4_66 : decode method_4_code 66 = .ok (.iconst 0, 1) := by decide +kernel
theorem own_d_method_4_67 : decode method_4_code 67 = .ok (.aload_n 0, 1) := by decide +kernel
theorem own_d_method_4_68 : decode method_4_code 68 = .ok (.iconst 0, 1) := by decide +kernel
theorem own_d_method_4_69 : decode method_4_code 69 = .ok (.caload, 1) := by decide +kernel
theorem own_d_method_4_70 : decode method_4_code 70 = .ok (.castore, 1) := by decide +kernel
theorem own_d_method_4_71 : decode method_4_code 71 = .ok (.dup, 1) := by decide +kernel
theorem own_d_method_4_72 : decode method_4_code 72 = .ok (.iconst 1, 1) := by decide +kernel
theorem own_d_method_4_73 : decode method_4_code 73 = .ok (.aload_n 0, 1) := by decide +kernel
theorem own_d_method_4_74 : decode method_4_code 74 = .ok (.iconst 1, 1) := by decide +kernel
theorem own_d_method_4_75 : decode method_4_code 75 = .ok (.caload, 1) := by decide +kernel
theorem own_d_method_4_76 : decode method_4_code 76 = .ok (.castore, 1) := by decide +kernel
theorem own_d_method_4_77 : decode method_4_code 77 = .ok (.areturn, 1) := by decide +kernel
theorem own_d_method_4_78 : decode method_4_code 78 = .ok (.iconst 3, 1) := by decide +kernel
theorem own_d_method_4_79 : decode method_4_code 79 = .ok (.newarray .char, 2) := by decide +kernel
theorem own_d_method_4_81 : decode method_4_code 81 = .ok (.dup, 1) := by decide +kernel
theorem own_d_method_4_82 : decode method_4_code 82 = .ok (.iconst 0, 1) := by decide +kernel
theorem own_d_method_4_83 : decode method_4_code 83 = .ok (.aload_n 0, 1) := by decide +kernel
theorem own_d_method_4_84 : decode method_4_code 84 = .ok (.iconst 0, 1) := by decide +kernel
theorem own_d_method_4_85 : decode method_4_code 85 = .ok (.caload, 1) := by decide +kernel
theorem own_d_method_4_86 : decode method_4_code 86 = .ok (.castore, 1) := by decide +kernel
theorem own_d_method_4_87 : decode method_4_code 87 = .ok (.dup, 1) := by decide +kernel
theorem own_d_method_4_88 : decode method_4_code 88 = .ok (.iconst 1, 1) := by decide +kernel
theorem own_d_method_4_89 : decode method_4_code 89 = .ok (.aload_n 0, 1) := by decide +kernel
theorem own_d_method_4_90 : decode method_4_code 90 = .ok (.iconst 1, 1) := by decide +kernel
theorem own_d_method_4_91 : decode method_4_code 91 = .ok (.caload, 1) := by decide +kernel
theorem own_d_method_4_92 : decode method_4_code 92 = .ok (.castore, 1) := by decide +kernel
theorem own_d_method_4_93 : decode method_4_code 93 = .ok (.dup, 1) := by decide +kernel
theorem own_d_method_4_94 : decode method_4_code 94 = .ok (.iconst 2, 1) := by decide +kernel
theorem own_d_method_4_95 : decode method_4_code 95 = .ok (.aload_n 0, 1) := by decide +kernel
theorem own_d_method_4_96 : decode method_4_code 96 = .ok (.iconst 2, 1) := by decide +kernel
theorem own_d_method_4_97 : decode method_4_code 97 = .ok (.caload, 1) := by decide +kernel
theorem own_d_method_4_98 : decode method_4_code 98 = .ok (.castore, 1) := by decide +kernel
theorem own_d_method_4_99 : decode method_4_code 99 = .ok (.areturn, 1) := by decide +kernel
theorem own_d_method_4_100 : decode method_4_code 100 = .ok (.iconst 4, 1) := by decide +kernel
theorem own_d_method_4_101 : decode method_4_code 101 = .ok (.newarray .char, 2) := by decide +kernel
theorem own_d_method_4_103 : decode method_4_code 103 = .ok (.dup, 1) := by decide +kernel
theorem own_d_method_4_104 : decode method_4_code 104 = .ok (.iconst 0, 1) := by decide +kernel
theorem own_d_method_4_105 : decode method_4_code 105 = .ok (.aload_n 0, 1) := by decide +kernel
theorem own_d_method_4_106 : decode method_4_code 106 = .ok (.iconst 0, 1) := by decide +kernel
theorem own_d_method_4_107 : decode method_4_code 107 = .ok (.caload, 1) := by decide +kernel
theorem own_d_method_4_108 : decode method_4_code 108 = .ok (.castore, 1) := by decide +kernel
theorem own_d_method_4_109 : decode method_4_code 109 = .ok (.dup, 1) := by decide +kernel
theorem own_d_method_4_110 : decode method_4_code 110 = .ok (.iconst 1, 1) := by decide +kernel
theorem own_d_method_4_111 : decode method_4_code 111 = .ok (.aload_n 0, 1) := by decide +kernel
theorem own_d_method_4_112 : decode method_4_code 112 = .ok (.iconst 1, 1) := by decide +kernel
theorem own_d_method_4_113 : decode method_4_code 113 = .ok (.caload, 1) := by decide +kernel
theorem own_d_method_4_114 : decode method_4_code 114 = .ok (.castore, 1) := by decide +kernel
theorem own_d_method_4_115 : decode method_4_code 115 = .ok (.dup, 1) := by decide +kernel
theorem own_d_method_4_116 : decode method_4_code 116 = .ok (.iconst 2, 1) := by decide +kernel
theorem own_d_method_4_117 : decode method_4_code 117 = .ok (.aload_n 0, 1) := by decide +kernel
theorem own_d_method_4_118 : decode method_4_code 118 = .ok (.iconst 2, 1) := by decide +kernel
theorem own_d_method_4_119 : decode method_4_code 119 = .ok (.caload, 1) := by decide +kernel
theorem own_d_method_4_120 : decode method_4_code 120 = .ok (.castore, 1) := by decide +kernel
theorem own_d_method_4_121 : decode method_4_code 121 = .ok (.dup, 1) := by decide +kernel
theorem own_d_method_4_122 : decode method_4_code 122 = .ok (.iconst 3, 1) := by decide +kernel
theorem own_d_method_4_123 : decode method_4_code 123 = .ok (.aload_n 0, 1) := by decide +kernel
theorem own_d_method_4_124 : decode method_4_code 124 = .ok (.iconst 3, 1) := by decide +kernel
theorem own_d_method_4_125 : decode method_4_code 125 = .ok (.caload, 1) := by decide +kernel
theorem own_d_method_4_126 : decode method_4_code 126 = .ok (.castore, 1) := by decide +kernel
theorem own_d_method_4_127 : decode method_4_code 127 = .ok (.areturn, 1) := by decide +kernel
theorem own_d_method_4_128 : decode method_4_code 128 = .ok (.iconst 5, 1) := by decide +kernel
theorem own_d_method_4_129 : decode method_4_code 129 = .ok (.newarray .char, 2) := by decide +kernel
theorem own_d_method_4_131 : decode method_4_code 131 = .ok (.dup, 1) := by decide +kernel
theorem own_d_method_4_132 : decode method_4_code 132 = .ok (.iconst 0, 1) := by decide +kernel
theorem own_d_method_4_133 : decode method_4_code 133 = .ok (.aload_n 0, 1) := by decide +kernel
theorem own_d_method_4_134 : decode method_4_code 134 = .ok (.iconst 0, 1) := by decide +kernel
theorem own_d_method_4_135 : decode method_4_code 135 = .ok (.caload, 1) := by decide +kernel
theorem own_d_method_4_136 : decode method_4_code 136 = .ok (.castore, 1) := by decide +kernel
theorem own_d_method_4_137 : decode method_4_code 137 = .ok (.dup, 1) := by decide +kernel
theorem own_d_method_4_138 : decode method_4_code 138 = .ok (.iconst 1, 1) := by decide +kernel
theorem own_d_method_4_139 : decode method_4_code 139 = .ok (.aload_n 0, 1) := by decide +kernel
theorem own_d_method_4_140 : decode method_4_code 140 = .ok (.iconst 1, 1) := by decide +kernel
theorem own_d_method_4_141 : decode method_4_code 141 = .ok (.caload, 1) := by decide +kernel
theorem own_d_method_4_142 : decode method_4_code 142 = .ok (.castore, 1) := by decide +kernel
theorem own_d_method_4_143 : decode method_4_code 143 = .ok (.dup, 1) := by decide +kernel
theorem own_d_method_4_144 : decode method_4_code 144 = .ok (.iconst 2, 1) := by decide +kernel
theorem own_d_method_4_145 : decode method_4_code 145 = .ok (.aload_n 0, 1) := by decide +kernel
theorem own_d_method_4_146 : decode method_4_code 146 = .ok (.iconst 2, 1) := by decide +kernel
theorem own_d_method_4_147 : decode method_4_code 147 = .ok (.caload, 1) := by decide +kernel
theorem own_d_method_4_148 : decode method_4_code 148 = .ok (.castore, 1) := by decide +kernel
theorem own_d_method_4_149 : decode method_4_code 149 = .ok (.dup, 1) := by decide +kernel
theorem own_d_method_4_150 : decode method_4_code 150 = .ok (.iconst 3, 1) := by decide +kernel
theorem own_d_method_4_151 : decode method_4_code 151 = .ok (.aload_n 0, 1) := by decide +kernel
theorem own_d_method_4_152 : decode method_4_code 152 = .ok (.iconst 3, 1) := by decide +kernel
theorem own_d_method_4_153 : decode method_4_code 153 = .ok (.caload, 1) := by decide +kernel
theorem own_d_method_4_154 : decode method_4_code 154 = .ok (.castore, 1) := by decide +kernel
theorem own_d_method_4_155 : decode method_4_code 155 = .ok (.dup, 1) := by decide +kernel
theorem own_d_method_4_156 : decode method_4_code 156 = .ok (.iconst 4, 1) := by decide +kernel
theorem own_d_method_4_157 : decode method_4_code 157 = .ok (.aload_n 0, 1) := by decide +kernel
theorem own_d_method_4_158 : decode method_4_code 158 = .ok (.iconst 4, 1) := by decide +kernel
theorem own_d_method_4_159 : decode method_4_code 159 = .ok (.caload, 1) := by decide +kernel
theorem own_d_method_4_160 : decode method_4_code 160 = .ok (.castore, 1) := by decide +kernel
theorem own_d_method_4_161 : decode method_4_code 161 = .ok (.areturn, 1) := by decide +kernel
theorem own_d_method_4_162 : decode method_4_code 162 = .ok (.bipush 6, 2) := by decide +kernel
theorem own_d_method_4_164 : decode method_4_code 164 = .ok (.newarray .char, 2) := by decide +kernel
theorem own_d_method_4_166 : decode method_4_code 166 = .ok (.dup, 1) := by decide +kernel
theorem own_d_method_4_167 : decode method_4_code 167 = .ok (.iconst 0, 1) := by decide +kernel
theorem own_d_method_4_168 : decode method_4_code 168 = .ok (.aload_n 0, 1) := by decide +kernel
theorem own_d_method_4_169 : decode method_4_code 169 = .ok (.iconst 0, 1) := by decide +kernel
theorem own_d_method_4_170 : decode method_4_code 170 = .ok (.caload, 1) := by decide +kernel
theorem own_d_method_4_171 : decode method_4_code 171 = .ok (.castore, 1) := by decide +kernel
theorem own_d_method_4_172 : decode method_4_code 172 = .ok (.dup, 1) := by decide +kernel
theorem own_d_method_4_173 : decode method_4_code 173 = .ok (.iconst 1, 1) := by decide +kernel
theorem own_d_method_4_174 : decode method_4_code 174 = .ok (.aload_n 0, 1) := by decide +kernel
theorem own_d_method_4_175 : decode method_4_code 175 = .ok (.iconst 1, 1) := by decide +kernel
theorem own_d_method_4_176 : decode method_4_code 176 = .ok (.caload, 1) := by decide +kernel
theorem own_d_method_4_177 : decode method_4_code 177 = .ok (.castore, 1) := by decide +kernel
theorem own_d_method_4_178 : decode method_4_code 178 = .ok (.dup, 1) := by decide +kernel
theorem own_d_method_4_179 : decode method_4_code 179 = .ok (.iconst 2, 1) := by decide +kernel
theorem own_d_method_4_180 : decode method_4_code 180 = .ok (.aload_n 0, 1) := by decide +kernel
theorem own_d_method_4_181 : decode method_4_code 181 = .ok (.iconst 2, 1) := by decide +kernel
theorem own_d_method_4_182 : decode method_4_code 182 = .ok (.caload, 1) := by decide +kernel
theorem own_d_method_4_183 : decode method_4_code 183 = .ok (.castore, 1) := by decide +kernel
theorem own_d_method_4_184 : decode method_4_code 184 = .ok (.dup, 1) := by decide +kernel
theorem own_d_method_4_185 : decode method_4_code 185 = .ok (.iconst 3, 1) := by decide +kernel
theorem own_d_method_4_186 : decode method_4_code 186 = .ok (.aload_n 0, 1) := by decide +kernel
theorem own_d_method_4_187 : decode method_4_code 187 = .ok (.iconst 3, 1) := by decide +kernel
theorem own_d_method_4_188 : decode method_4_code 188 = .ok (.caload, 1) := by decide +kernel
theorem own_d_method_4_189 : decode method_4_code 189 = .ok (.castore, 1) := by decide +kernel
theorem own_d_method_4_190 : decode method_4_code 190 = .ok (.dup, 1) := by decide +kernel
theorem own_d_method_4_191 : decode method_4_code 191 = .ok (.iconst 4, 1) := by decide +kernel
theorem own_d_method_4_192 : decode method_4_code 192 = .ok (.aload_n 0, 1) := by decide +kernel
theorem own_d_method_4_193 : decode method_4_code 193 = .ok (.iconst 4, 1) := by decide +kernel
theorem own_d_method_4_194 : decode method_4_code 194 = .ok (.caload, 1) := by decide +kernel
theorem own_d_method_4_195 : decode method_4_code 195 = .ok (.castore, 1) := by decide +kernel
theorem own_d_method_4_196 : decode method_4_code 196 = .ok (.dup, 1) := by decide +kernel
theorem own_d_method_4_197 : decode method_4_code 197 = .ok (.iconst 5, 1) := by decide +kernel
theorem own_d_method_4_198 : decode method_4_code 198 = .ok (.aload_n 0, 1) := by decide +kernel
theorem own_d_method_4_199 : decode method_4_code 199 = .ok (.iconst 5, 1) := by decide +kernel
theorem own_d_method_4_200 : decode method_4_code 200 = .ok (.caload, 1) := by decide +kernel
theorem own_d_method_4_201 : decode method_4_code 201 = .ok (.castore, 1) := by decide +kernel
theorem own_d_method_4_202 : decode method_4_code 202 = .ok (.areturn, 1) := by decide +kernel
theorem own_d_method_4_203 : decode method_4_code 203 = .ok (.bipush 7, 2) := by decide +kernel
theorem own_d_method_4_205 : decode method_4_code 205 = .ok (.newarray .char, 2) := by decide +kernel
theorem own_d_method_4_207 : decode method_4_code 207 = .ok (.dup, 1) := by decide +kernel
theorem own_d_method_4_208 : decode method_4_code 208 = .ok (.iconst 0, 1) := by decide +kernel
theorem own_d_method_4_209 : decode method_4_code 209 = .ok (.aload_n 0, 1) := by decide +kernel
theorem own_d_method_4_210 : decode method_4_code 210 = .ok (.iconst 0, 1) := by decide +kernel
theorem own_d_method_4_211 : decode method_4_code 211 = .ok (.caload, 1) := by decide +kernel
theorem own_d_method_4_212 : decode method_4_code 212 = .ok (.castore, 1) := by decide +kernel
theorem own_d_method_4_213 : decode method_4_code 213 = .ok (.dup, 1) := by decide +kernel
theorem own_d_method_4_214 : decode method_4_code 214 = .ok (.iconst 1, 1) := by decide +kernel
theorem own_d_method_4_215 : decode method_4_code 215 = .ok (.aload_n 0, 1) := by decide +kernel
theorem own_d_method_4_216 : decode method_4_code 216 = .ok (.iconst 1, 1) := by decide +kernel
theorem own_d_method_4_217 : decode method_4_code 217 = .ok (.caload, 1) := by decide +kernel
theorem own_d_method_4_218 : decode method_4_code 218 = .ok (.castore, 1) := by decide +kernel
theorem own_d_method_4_219 : decode method_4_code 219 = .ok (.dup, 1) := by decide +kernel
theorem own_d_method_4_220 : decode method_4_code 220 = .ok (.iconst 2, 1) := by decide +kernel
theorem own_d_method_4_221 : decode method_4_code 221 = .ok (.aload_n 0, 1) := by decide +kernel
theorem own_d_method_4_222 : decode method_4_code 222 = .ok (.iconst 2, 1) := by decide +kernel
theorem own_d_method_4_223 : decode method_4_code 223 = .ok (.caload, 1) := by decide +kernel
theorem own_d_method_4_224 : decode method_4_code 224 = .ok (.castore, 1) := by decide +kernel
theorem own_d_method_4_225 : decode method_4_code 225 = .ok (.dup, 1) := by decide +kernel
theorem own_d_method_4_226 : decode method_4_code 226 = .ok (.iconst 3, 1) := by decide +kernel
theorem own_d_method_4_227 : decode method_4_code 227 = .ok (.aload_n 0, 1) := by decide +kernel
theorem own_d_method_4_228 : decode method_4_code 228 = .ok (.iconst 3, 1) := by decide +kernel
theorem own_d_method_4_229 : decode method_4_code 229 = .ok (.caload, 1) := by decide +kernel
theorem own_d_method_4_230 : decode method_4_code 230 = .ok (.castore, 1) := by decide +kernel
theorem own_d_method_4_231 : decode method_4_code 231 = .ok (.dup, 1) := by decide +kernel
theorem own_d_method_4_232 : decode method_4_code 232 = .ok (.iconst 4, 1) := by decide +kernel
theorem own_d_method_4_233 : decode method_4_code 233 = .ok (.aload_n 0, 1) := by decide +kernel
theorem own_d_method_4_234 : decode method_4_code 234 = .ok (.iconst 4, 1) := by decide +kernel
theorem own_d_method_4_235 : decode method_4_code 235 = .ok (.caload, 1) := by decide +kernel
theorem own_d_method_4_236 : decode method_4_code 236 = .ok (.castore, 1) := by decide +kernel
theorem own_d_method_4_237 : decode method_4_code 237 = .ok (.dup, 1) := by decide +kernel
theorem own_d_method_4_238 : decode method_4_code 238 = .ok (.iconst 5, 1) := by decide +kernel
theorem own_d_method_4_239 : decode method_4_code 239 = .ok (.aload_n 0, 1) := by decide +kernel
theorem own_d_method_4_240 : decode method_4_code 240 = .ok (.iconst 5, 1) := by decide +kernel
theorem own_d_method_4_241 : decode method_4_code 241 = .ok (.caload, 1) := by decide +kernel
theorem own_d_method_4_242 : decode method_4_code 242 = .ok (.castore, 1) := by decide +kernel
theorem own_d_method_4_243 : decode method_4_code 243 = .ok (.dup, 1) := by decide +kernel
theorem own_d_method_4_244 : decode method_4_code 244 = .ok (.bipush 6, 2) := by decide +kernel
theorem own_d_method_4_246 : decode method_4_code 246 = .ok (.aload_n 0, 1) := by decide +kernel
theorem own_d_method_4_247 : decode method_4_code 247 = .ok (.bipush 6, 2) := by decide +kernel
theorem own_d_method_4_249 : decode method_4_code 249 = .ok (.caload, 1) := by decide +kernel
theorem own_d_method_4_250 : decode method_4_code 250 = .ok (.castore, 1) := by decide +kernel
theorem own_d_method_4_251 : decode method_4_code 251 = .ok (.areturn, 1) := by decide +kernel
theorem own_d_method_4_252 : decode method_4_code 252 = .ok (.bipush 8, 2) := by decide +kernel
theorem own_d_method_4_254 : decode method_4_code 254 = .ok (.newarray .char, 2) := by decide +kernel
theorem own_d_method_4_256 : decode method_4_code 256 = .ok (.dup, 1) := by decide +kernel
theorem own_d_method_4_257 : decode method_4_code 257 = .ok (.iconst 0, 1) := by decide +kernel
theorem own_d_method_4_258 : decode method_4_code 258 = .ok (.aload_n 0, 1) := by decide +kernel
theorem own_d_method_4_259 : decode method_4_code 259 = .ok (.iconst 0, 1) := by decide +kernel
theorem own_d_method_4_260 : decode method_4_code 260 = .ok (.caload, 1) := by decide +kernel
theorem own_d_method_4_261 : decode method_4_code 261 = .ok (.castore, 1) := by decide +kernel
theorem own_d_method_4_262 : decode method_4_code 262 = .ok (.dup, 1) := by decide +kernel
theorem own_d_method_4_263 : decode method_4_code 263 = .ok (.iconst 1, 1) := by decide +kernel
theorem own_d_method_4_264 : decode method_4_code 264 = .ok (.aload_n 0, 1) := by decide +kernel
theorem own_d_method_4_265 : decode method_4_code 265 = .ok (.iconst 1, 1) := by decide +kernel
theorem own_d_method_4_266 : decode method_4_code 266 = .ok (.caload, 1) := by decide +kernel
theorem own_d_method_4_267 : decode method_4_code 267 = .ok (.castore, 1) := by decide +kernel
theorem own_d_method_4_268 : decode method_4_code 268 = .ok (.dup, 1) := by decide +kernel
theorem own_d_method_4_269 : decode method_4_code 269 = .ok (.iconst 2, 1) := by decide +kernel
theorem own_d_method_4_270 : decode method_4_code 270 = .ok (.aload_n 0, 1) := by decide +kernel
theorem own_d_method_4_271 : decode method_4_code 271 = .ok (.iconst 2, 1) := by decide +kernel
theorem own_d_method_4_272 : decode method_4_code 272 = .ok (.caload, 1) := by decide +kernel
theorem own_d_method_4_273 : decode method_4_code 273 = .ok (.castore, 1) := by decide +kernel
theorem own_d_method_4_274 : decode method_4_code 274 = .ok (.dup, 1) := by decide +kernel
theorem own_d_method_4_275 : decode method_4_code 275 = .ok (.iconst 3, 1) := by decide +kernel
theorem own_d_method_4_276 : decode method_4_code 276 = .ok (.aload_n 0, 1) := by decide +kernel
theorem own_d_method_4_277 : decode method_4_code 277 = .ok (.iconst 3, 1) := by decide +kernel
theorem own_d_method_4_278 : decode method_4_code 278 = .ok (.caload, 1) := by decide +kernel
theorem own_d_method_4_279 : decode method_4_code 279 = .ok (.castore, 1) := by decide +kernel
theorem own_d_method_4_280 : decode method_4_code 280 = .ok (.dup, 1) := by decide +kernel
theorem own_d_method_4_281 : decode method_4_code 281 = .ok (.iconst 4, 1) := by decide +kernel
theorem own_d_method_4_282 : decode method_4_code 282 = .ok (.aload_n 0, 1) := by decide +kernel
theorem own_d_method_4_283 : decode method_4_code 283 = .ok (.iconst 4, 1) := by decide +kernel
theorem own_d_method_4_284 : decode method_4_code 284 = .ok (.caload, 1) := by decide +kernel
theorem own_d_method_4_285 : decode method_4_code 285 = .ok (.castore, 1) := by decide +kernel
theorem own_d_method_4_286 : decode method_4_code 286 = .ok (.dup, 1) := by decide +kernel
theorem own_d_method_4_287 : decode method_4_code 287 = .ok (.iconst 5, 1) := by decide +kernel
theorem own_d_method_4_288 : decode method_4_code 288 = .ok (.aload_n 0, 1) := by decide +kernel
theorem own_d_method_4_289 : decode method_4_code 289 = .ok (.iconst 5, 1) := by decide +kernel
theorem own_d_method_4_290 : decode method_4_code 290 = .ok (.caload, 1) := by decide +kernel
theorem own_d_method_4_291 : decode method_4_code 291 = .ok (.castore, 1) := by decide +kernel
theorem own_d_method_4_292 : decode method_4_code 292 = .ok (.dup, 1) := by decide +kernel
theorem own_d_method_4_293 : decode method_4_code 293 = .ok (.bipush 6, 2) := by decide +kernel
theorem own_d_method_4_295 : decode method_4_code 295 = .ok (.aload_n 0, 1) := by decide +kernel
theorem own_d_method_4_296 : decode method_4_code 296 = .ok (.bipush 6, 2) := by decide +kernel
theorem own_d_method_4_298 : decode method_4_code 298 = .ok (.caload, 1) := by decide +kernel
theorem own_d_method_4_299 : decode method_4_code 299 = .ok (.castore, 1) := by decide +kernel
theorem own_d_method_4_300 : decode method_4_code 300 = .ok (.dup, 1) := by decide +kernel
theorem own_d_method_4_301 : decode method_4_code 301 = .ok (.bipush 7, 2) := by decide +kernel
theorem own_d_method_4_303 : decode method_4_code 303 = .ok (.aload_n 0, 1) := by decide +kernel
theorem own_d_method_4_304 : decode method_4_code 304 = .ok (.bipush 7, 2) := by decide +kernel
theorem own_d_method_4_306 : decode method_4_code 306 = .ok (.caload, 1) := by decide +kernel
theorem own_d_method_4_307 : decode method_4_code 307 = .ok (.castore, 1) := by decide +kernel
theorem own_d_method_4_308 : decode method_4_code 308 = .ok (.areturn, 1) := by decide +kernel
def own_Q_own_take (Z : State) (ra : Addr) (xn : Int32) (n : Nat) (f : Nat → Int32) (h0 : Heap) (n0 : Nat) (v : Option Value) (h : Heap) (L : List Loc) : Prop := ∃ rt, v = some (.ref rt) ∧ Fr n0 L ∧ own_Ar Z h rt .char n (fun j => .int (f j)) ∧ n0 ≤ rt ∧ Array.size h0 ≤ rt ∧ Keep h0 h []
set_option maxRecDepth 65536 in
set_option maxHeartbeats 40000000 in
theorem own_take (l : Launch) (Z : State) (a0 : Array Value) (hw : ∀ d ∈ tables_1, d.before a0 Z = true) (ws : List Jvm.Cond) (ra : Addr) (xn : Int32) (n : Nat) (f : Nat → Int32) (h0 : Heap) (n0 : Nat) (Z0 : n0 ≤ h0.size) (aa : own_Ar Z h0 ra .char 8 (fun j => .int (f j))) (hn : xn.toInt = (n : Int)) (hl : n ≤ 8) (hf : ∀ j, j < 8 → own_C8 (f j)) :
    MetFree l (⟨"com/example/marshal/marshal/variables/VariableTypeNamedPinLaw", "take", "([CI)[C"⟩ : MethodName) (head1 (Jvm.Cond.code (⟨"com/example/marshal/marshal/variables/VariableTypeNamedPinLaw", "take", "([CI)[C"⟩ : MethodName) method_4_code 2 (some (.array .char)) :: ws) ({ frames := 0, cells := 1, slots := 8, locals := 0 } : Room)) (fun av_ U => av_ = #[(.ref ra), (.int xn)] ∧ Z.Warmed39 U.vm ∧ U.heap = h0) (fun _ _ _ _ _ => True) (fun _ U o U' => ∃ v L, o = .returned v ∧ own_Q_own_take Z ra xn n f h0 n0 v U'.heap L ∧ FrameEnd U o U' L ({ frames := 0, cells := 1, slots := 8, locals := 0 } : Room).cells ({ frames := 0, cells := 1, slots := 8, locals := 0 } : Room).slots) := by
  refine MetFree.of_bodySF (plainFor_of_name own_pn0) hisR ?_
  intro p e s m args below meth c s₁ Bd hml0 hP hK
  obtain ⟨rfl, hZ, hh⟩ := hP
  have hx := Bd.exec
  have hby := Bd.bytes
  have hml : c.maxLocals = 2 := hml0
  have hown : s.vm.findClass "com/example/marshal/marshal/variables/VariableTypeNamedPinLaw" = some m.cls := findClass_of_methodNamed Bd.named
  have hnm := (name_of_methodNamed Bd.named Bd.method).1
  have X0 : Stand p l e ({ frames := 0, cells := 1, slots := 8, locals := 0 } : Room) s m #[(.ref ra), (.int xn)] below meth c s₁ [] 0 0 := Stand.of_body Bd
  have e0 : s₁.heap = h0 := by rw [← hh, Bd.state]; rfl
  have N0 := Fr.nil n0
  suffices hgo : own_Go p e below (fun o U' => ∃ v L, o = .returned v ∧ own_Q_own_take Z ra xn n f h0 n0 v U'.heap L ∧ FrameEnd s o U' L ({ frames := 0, cells := 1, slots := 8, locals := 0 } : Room).cells ({ frames := 0, cells := 1, slots := 8, locals := 0 } : Room).slots) (s₁.setTop (mkF m 0 #[.val (.ref ra), .val (.int xn)] [])) by
    obtain ⟨s₂, o, h1, h2, h3, h4⟩ := hgo
    exact ⟨s₂, o, castTop (own_ef2 m ra xn) h1, h2, h3, h4⟩
  have kk0 : Keep h0 h0 [] := Keep.refl _ _
  show own_Go p e below _ (s₁.setTop (mkF m 0 #[.val (.ref ra), .val (.int xn)] []))
  have hcs : n = 0 ∨ n = 1 ∨ n = 2 ∨ n = 3 ∨ n = 4 ∨ n = 5 ∨ n = 6 ∨ n = 7 ∨ n = 8 := by omega
  rcases hcs with rfl | rfl | rfl | rfl | rfl | rfl | rfl | rfl | rfl
  · obtain rfl : xn = 0 := own_i32 hn
    show own_Go p e below _ (s₁.setTop (mkF m 0 #[.val (.ref ra), .val (.int (0 : Int32))] []))
    refine own_Go.st (fun _ kt => XS.iloadN X0.here hx rfl (hb hby own_d_method_4_0) rfl kt) ?_
    show own_Go p e below _ (s₁.setTop (mkF m 1 #[.val (.ref ra), .val (.int (0 : Int32))] [(.int (0 : Int32))]))
    refine own_Go.st (fun _ kt => XS.tswIn X0.here hx rfl (pc0 := 1) (pc' := 48) rfl (hb hby own_d_method_4_1) rfl (by decide) (o := 47) rfl (by decide) (by decide) kt) ?_
    show own_Go p e below _ (s₁.setTop (mkF m 48 #[.val (.ref ra), .val (.int (0 : Int32))] []))
    refine own_Go.st (fun _ kt => XS.iconst X0.here hx rfl (hb hby own_d_method_4_48) kt) ?_
    show own_Go p e below _ (s₁.setTop (mkF m 49 #[.val (.ref ra), .val (.int (0 : Int32))] [(.int (0 : Int32))]))
    obtain ⟨T1, h1, k1, X1, e1, E1, A1, st1⟩ := newP X0 hx hZ (hw _ (List.mem_of_getElem? (i := 0) rfl)) e0 (g := (mkF m 49 #[.val (.ref ra), .val (.int (0 : Int32))] [(.int (0 : Int32))])) rfl (hb hby own_d_method_4_49) rfl (by decide) (cap := 8) (by decide) (by decide) (by decide) (by decide)
    obtain ⟨rt, g1⟩ : ∃ z, z = Array.size h0 := ⟨_, rfl⟩
    rw [← g1] at A1 st1
    refine own_Go.st st1 ?_
    have ne_ra_rt : ra ≠ rt := Nat.ne_of_lt (Nat.lt_of_lt_of_le (aa).lt (Nat.le_of_eq g1.symm))
    have n0_rt : n0 ≤ rt := Nat.le_trans Z0 (Nat.le_of_eq g1.symm)
    have b_rt : Array.size h0 ≤ rt := Nat.le_trans kk0.1 (Nat.le_of_eq g1.symm)
    have zz2 : n0 ≤ Array.size h1 := Nat.le_trans Z0 E1.1
    have kk2 : Keep h0 h1 [] := kk0.ext E1
    show own_Go p e below _ (T1.setTop (mkF m 51 #[.val (.ref ra), .val (.int (0 : Int32))] [(.ref rt)]))
    have at0 := own_Ar.new A1 (n := 0) (by decide)
    have fin : own_Ar Z h1 rt .char 0 (fun j => .int (f j)) := at0.congr fun j hj => by omega
    have kk := kk2
    rw [← e1] at fin kk
    exact own_retA X1 hx Bd.notSynchronized Bd.returns rfl rfl (hb hby own_d_method_4_51) (by decide) (by decide) ⟨rt, rfl, N0, fin, n0_rt, b_rt, kk⟩
  · obtain rfl : xn = 1 := own_i32 hn
    show own_Go p e below _ (s₁.setTop (mkF m 0 #[.val (.ref ra), .val (.int (1 : Int32))] []))
    refine own_Go.st (fun _ kt => XS.iloadN X0.here hx rfl (hb hby own_d_method_4_0) rfl kt) ?_
    show own_Go p e below _ (s₁.setTop (mkF m 1 #[.val (.ref ra), .val (.int (1 : Int32))] [(.int (1 : Int32))]))
    refine own_Go.st (fun _ kt => XS.tswIn X0.here hx rfl (pc0 := 1) (pc' := 52) rfl (hb hby own_d_method_4_1) rfl (by decide) (o := 51) rfl (by decide) (by decide) kt) ?_
    show own_Go p e below _ (s₁.setTop (mkF m 52 #[.val (.ref ra), .val (.int (1 : Int32))] []))
    refine own_Go.st (fun _ kt => XS.iconst X0.here hx rfl (hb hby own_d_method_4_52) kt) ?_
    show own_Go p e below _ (s₁.setTop (mkF m 53 #[.val (.ref ra), .val (.int (1 : Int32))] [(.int (1 : Int32))]))
    obtain ⟨T3, h3, k3, X3, e3, E3, A3, st3⟩ := newP X0 hx hZ (hw _ (List.mem_of_getElem? (i := 0) rfl)) e0 (g := (mkF m 53 #[.val (.ref ra), .val (.int (1 : Int32))] [(.int (1 : Int32))])) rfl (hb hby own_d_method_4_53) rfl (by decide) (cap := 8) (by decide) (by decide) (by decide) (by decide)
    obtain ⟨rt, g3⟩ : ∃ z, z = Array.size h0 := ⟨_, rfl⟩
    rw [← g3] at A3 st3
    refine own_Go.st st3 ?_
    have ne_ra_rt : ra ≠ rt := Nat.ne_of_lt (Nat.lt_of_lt_of_le (aa).lt (Nat.le_of_eq g3.symm))
    have n0_rt : n0 ≤ rt := Nat.le_trans Z0 (Nat.le_of_eq g3.symm)
    have b_rt : Array.size h0 ≤ rt := Nat.le_trans kk0.1 (Nat.le_of_eq g3.symm)
    have zz4 : n0 ≤ Array.size h3 := Nat.le_trans Z0 E3.1
    have kk4 : Keep h0 h3 [] := kk0.ext E3
    show own_Go p e below _ (T3.setTop (mkF m 55 #[.val (.ref ra), .val (.int (1 : Int32))] [(.ref rt)]))
    have at0 := own_Ar.new A3 (n := 1) (by decide)
    refine own_Go.st (fun _ kt => XS.dup X3.here hx rfl (hb hby own_d_method_4_55) rfl rfl kt) ?_
    show own_Go p e below _ (T3.setTop (mkF m 56 #[.val (.ref ra), .val (.int (1 : Int32))] [(.ref rt), (.ref rt)]))
    refine own_Go.st (fun _ kt => XS.iconst X3.here hx rfl (hb hby own_d_method_4_56) kt) ?_
    show own_Go p e below _ (T3.setTop (mkF m 57 #[.val (.ref ra), .val (.int (1 : Int32))] [(.int (0 : Int32)), (.ref rt), (.ref rt)]))
    refine own_Go.st (fun _ kt => XS.aloadN X3.here hx rfl (hb hby own_d_method_4_57) rfl rfl kt) ?_
    show own_Go p e below _ (T3.setTop (mkF m 58 #[.val (.ref ra), .val (.int (1 : Int32))] [(.ref ra), (.int (0 : Int32)), (.ref rt), (.ref rt)]))
    refine own_Go.st (fun _ kt => XS.iconst X3.here hx rfl (hb hby own_d_method_4_58) kt) ?_
    show own_Go p e below _ (T3.setTop (mkF m 59 #[.val (.ref ra), .val (.int (1 : Int32))] [(.int (0 : Int32)), (.ref ra), (.int (0 : Int32)), (.ref rt), (.ref rt)]))
    have f5 := (aa.ext E3)
    refine own_Go.st (fun _ kt => own_cald X3 hx hZ e3 f5 (i := 0) (by decide) (by decide) (v := (.int (f 0))) rfl (g := (mkF m 59 #[.val (.ref ra), .val (.int (1 : Int32))] [(.int (0 : Int32)), (.ref ra), (.int (0 : Int32)), (.ref rt), (.ref rt)])) rfl rfl (hb hby own_d_method_4_59) _ kt) ?_
    show own_Go p e below _ (T3.setTop (mkF m 60 #[.val (.ref ra), .val (.int (1 : Int32))] [(.int (f 0)), (.int (0 : Int32)), (.ref rt), (.ref rt)]))
    obtain ⟨T6, h6, X6, e6, W6, st6⟩ := own_cast X3 hx hZ e3 at0 (i := 0) (by decide) (by decide) (own_nar_char (hf 0 (by decide))) (g := (mkF m 60 #[.val (.ref ra), .val (.int (1 : Int32))] [(.int (f 0)), (.int (0 : Int32)), (.ref rt), (.ref rt)])) rfl rfl (hb hby own_d_method_4_60)
    refine own_Go.st st6 ?_
    have N6 := Fr.snoc X6 N0 n0_rt
    have a6 := own_Ar.set at0 W6
    have zz7 : n0 ≤ Array.size h6 := Nat.le_trans zz4 (Nat.le_of_eq (Wr.size W6).symm)
    have kk7 : Keep h0 h6 [] := kk4.wr W6 (Or.inr b_rt)
    show own_Go p e below _ (T6.setTop (mkF m 61 #[.val (.ref ra), .val (.int (1 : Int32))] [(.ref rt)]))
    have fin : own_Ar Z h6 rt .char 1 (fun j => .int (f j)) := a6.congr fun j hj => by
      obtain rfl : j = 0 := by omega
      rfl
    have kk := kk7
    rw [← e6] at fin kk
    exact own_retA X6 hx Bd.notSynchronized Bd.returns rfl rfl (hb hby own_d_method_4_61) (by decide) (by decide) ⟨rt, rfl, N6, fin, n0_rt, b_rt, kk⟩
  · obtain rfl : xn = 2 := own_i32 hn
    show own_Go p e below _ (s₁.setTop (mkF m 0 #[.val (.ref ra), .val (.int (2 : Int32))] []))
    refine own_Go.st (fun _ kt => XS.iloadN X0.here hx rfl (hb hby own_d_method_4_0) rfl kt) ?_
    show own_Go p e below _ (s₁.setTop (mkF m 1 #[.val (.ref ra), .val (.int (2 : Int32))] [(.int (2 : Int32))]))
    refine own_Go.st (fun _ kt => XS.tswIn X0.here hx rfl (pc0 := 1) (pc' := 62) rfl (hb hby own_d_method_4_1) rfl (by decide) (o := 61) rfl (by decide) (by decide) kt) ?_
    show own_Go p e below _ (s₁.setTop (mkF m 62 #[.val (.ref ra), .val (.int (2 : Int32))] []))
    refine own_Go.st (fun _ kt => XS.iconst X0.here hx rfl (hb hby own_d_method_4_62) kt) ?_
    show own_Go p e below _ (s₁.setTop (mkF m 63 #[.val (.ref ra), .val (.int (2 : Int32))] [(.int (2 : Int32))]))
    obtain ⟨T8, h8, k8, X8, e8, E8, A8, st8⟩ := newP X0 hx hZ (hw _ (List.mem_of_getElem? (i := 0) rfl)) e0 (g := (mkF m 63 #[.val (.ref ra), .val (.int (2 : Int32))] [(.int (2 : Int32))])) rfl (hb hby own_d_method_4_63) rfl (by decide) (cap := 8) (by decide) (by decide) (by decide) (by decide)
    obtain ⟨rt, g8⟩ : ∃ z, z = Array.size h0 := ⟨_, rfl⟩
    rw [← g8] at A8 st8
    refine own_Go.st st8 ?_
    have ne_ra_rt : ra ≠ rt := Nat.ne_of_lt (Nat.lt_of_lt_of_le (aa).lt (Nat.le_of_eq g8.symm))
    have n0_rt : n0 ≤ rt := Nat.le_trans Z0 (Nat.le_of_eq g8.symm)
    have b_rt : Array.size h0 ≤ rt := Nat.le_trans kk0.1 (Nat.le_of_eq g8.symm)
    have zz9 : n0 ≤ Array.size h8 := Nat.le_trans Z0 E8.1
    have kk9 : Keep h0 h8 [] := kk0.ext E8
    show own_Go p e below _ (T8.setTop (mkF m 65 #[.val (.ref ra), .val (.int (2 : Int32))] [(.ref rt)]))
    have at0 := own_Ar.new A8 (n := 2) (by decide)
    refine own_Go.st (fun _ kt => XS.dup X8.here hx rfl (hb hby own_d_method_4_65) rfl rfl kt) ?_
    show own_Go p e below _ (T8.setTop (mkF m 66 #[.val (.ref ra), .val (.int (2 : Int32))] [(.ref rt), (.ref rt)]))
    refine own_Go.st (fun _ kt => XS.iconst X8.here hx rfl (hb hby own_d_method_4_66) kt) ?_
    show own_Go p e below _ (T8.setTop (mkF m 67 #[.val (.ref ra), .val (.int (2 : Int32))] [(.int (0 : Int32)), (.ref rt), (.ref rt)]))
    refine own_Go.st (fun _ kt => XS.aloadN X8.here hx rfl (hb hby own_d_method_4_67) rfl rfl kt) ?_
    show own_Go p e below _ (T8.setTop (mkF m 68 #[.val (.ref ra), .val (.int (2 : Int32))] [(.ref ra), (.int (0 : Int32)), (.ref rt), (.ref rt)]))
    refine own_Go.st (fun _ kt => XS.iconst X8.here hx rfl (hb hby own_d_method_4_68) kt) ?_
    show own_Go p e below _ (T8.setTop (mkF m 69 #[.val (.ref ra), .val (.int (2 : Int32))] [(.int (0 : Int32)), (.ref ra), (.int (0 : Int32)), (.ref rt), (.ref rt)]))
    have f10 := (aa.ext E8)
    refine own_Go.st (fun _ kt => own_cald X8 hx hZ e8 f10 (i := 0) (by decide) (by decide) (v := (.int (f 0))) rfl (g := (mkF m 69 #[.val (.ref ra), .val (.int (2 : Int32))] [(.int (0 : Int32)), (.ref ra), (.int (0 : Int32)), (.ref rt), (.ref rt)])) rfl rfl (hb hby own_d_method_4_69) _ kt) ?_
    show own_Go p e below _ (T8.setTop (mkF m 70 #[.val (.ref ra), .val (.int (2 : Int32))] [(.int (f 0)), (.int (0 : Int32)), (.ref rt), (.ref rt)]))
    obtain ⟨T11, h11, X11, e11, W11, st11⟩ := own_cast X8 hx hZ e8 at0 (i := 0) (by decide) (by decide) (own_nar_char (hf 0 (by decide))) (g := (mkF m 70 #[.val (.ref ra), .val (.int (2 : Int32))] [(.int (f 0)), (.int (0 : Int32)), (.ref rt), (.ref rt)])) rfl rfl (hb hby own_d_method_4_70)
    refine own_Go.st st11 ?_
    have N11 := Fr.snoc X11 N0 n0_rt
    have a11 := own_Ar.set at0 W11
    have zz12 : n0 ≤ Array.size h11 := Nat.le_trans zz9 (Nat.le_of_eq (Wr.size W11).symm)
    have kk12 : Keep h0 h11 [] := kk9.wr W11 (Or.inr b_rt)
    show own_Go p e below _ (T11.setTop (mkF m 71 #[.val (.ref ra), .val (.int (2 : Int32))] [(.ref rt)]))
    refine own_Go.st (fun _ kt => XS.dup X11.here hx rfl (hb hby own_d_method_4_71) rfl rfl kt) ?_
    show own_Go p e below _ (T11.setTop (mkF m 72 #[.val (.ref ra), .val (.int (2 : Int32))] [(.ref rt), (.ref rt)]))
    refine own_Go.st (fun _ kt => XS.iconst X11.here hx rfl (hb hby own_d_method_4_72) kt) ?_
    show own_Go p e below _ (T11.setTop (mkF m 73 #[.val (.ref ra), .val (.int (2 : Int32))] [(.int (1 : Int32)), (.ref rt), (.ref rt)]))
    refine own_Go.st (fun _ kt => XS.aloadN X11.here hx rfl (hb hby own_d_method_4_73) rfl rfl kt) ?_
    show own_Go p e below _ (T11.setTop (mkF m 74 #[.val (.ref ra), .val (.int (2 : Int32))] [(.ref ra), (.int (1 : Int32)), (.ref rt), (.ref rt)]))
    refine own_Go.st (fun _ kt => XS.iconst X11.here hx rfl (hb hby own_d_method_4_74) kt) ?_
    show own_Go p e below _ (T11.setTop (mkF m 75 #[.val (.ref ra), .val (.int (2 : Int32))] [(.int (1 : Int32)), (.ref ra), (.int (1 : Int32)), (.ref rt), (.ref rt)]))
    have f13 := (f10.other W11 ne_ra_rt)
    refine own_Go.st (fun _ kt => own_cald X11 hx hZ e11 f13 (i := 1) (by decide) (by decide) (v := (.int (f 1))) rfl (g := (mkF m 75 #[.val (.ref ra), .val (.int (2 : Int32))] [(.int (1 : Int32)), (.ref ra), (.int (1 : Int32)), (.ref rt), (.ref rt)])) rfl rfl (hb hby own_d_method_4_75) _ kt) ?_
    show own_Go p e below _ (T11.setTop (mkF m 76 #[.val (.ref ra), .val (.int (2 : Int32))] [(.int (f 1)), (.int (1 : Int32)), (.ref rt), (.ref rt)]))
    obtain ⟨T14, h14, X14, e14, W14, st14⟩ := own_cast X11 hx hZ e11 a11 (i := 1) (by decide) (by decide) (own_nar_char (hf 1 (by decide))) (g := (mkF m 76 #[.val (.ref ra), .val (.int (2 : Int32))] [(.int (f 1)), (.int (1 : Int32)), (.ref rt), (.ref rt)])) rfl rfl (hb hby own_d_method_4_76)
    refine own_Go.st st14 ?_
    have N14 := Fr.snoc X14 N11 n0_rt
    have a14 := own_Ar.set a11 W14
    have zz15 : n0 ≤ Array.size h14 := Nat.le_trans zz12 (Nat.le_of_eq (Wr.size W14).symm)
    have kk15 : Keep h0 h14 [] := kk12.wr W14 (Or.inr b_rt)
    show own_Go p e below _ (T14.setTop (mkF m 77 #[.val (.ref ra), .val (.int (2 : Int32))] [(.ref rt)]))
    have fin : own_Ar Z h14 rt .char 2 (fun j => .int (f j)) := a14.congr fun j hj => by
      have : j = 0 ∨ j = 1 := by omega
      rcases this with rfl | rfl <;> rfl
    have kk := kk15
    rw [← e14] at fin kk
    exact own_retA X14 hx Bd.notSynchronized Bd.returns rfl rfl (hb hby own_d_method_4_77) (by decide) (by decide) ⟨rt, rfl, N14, fin, n0_rt, b_rt, kk⟩
  · obtain rfl : xn = 3 := own_i32 hn
    show own_Go p e below _ (s₁.setTop (mkF m 0 #[.val (.ref ra), .val (.int (3 : Int32))] []))
    refine own_Go.st (fun _ kt => XS.iloadN X0.here hx rfl (hb hby own_d_method_4_0) rfl kt) ?_
    show own_Go p e below _ (s₁.setTop (mkF m 1 #[.val (.ref ra), .val (.int (3 : Int32))] [(.int (3 : Int32))]))
    refine own_Go.st (fun _ kt => XS.tswIn X0.here hx rfl (pc0 := 1) (pc' := 78) rfl (hb hby own_d_method_4_1) rfl (by decide) (o := 77) rfl (by decide) (by decide) kt) ?_
    show own_Go p e below _ (s₁.setTop (mkF m 78 #[.val (.ref ra), .val (.int (3 : Int32))] []))
    refine own_Go.st (fun _ kt => XS.iconst X0.here hx rfl (hb hby own_d_method_4_78) kt) ?_
    show own_Go p e below _ (s₁.setTop (mkF m 79 #[.val (.ref ra), .val (.int (3 : Int32))] [(.int (3 : Int32))]))
    obtain ⟨T16, h16, k16, X16, e16, E16, A16, st16⟩ := newP X0 hx hZ (hw _ (List.mem_of_getElem? (i := 0) rfl)) e0 (g := (mkF m 79 #[.val (.ref ra), .val (.int (3 : Int32))] [(.int (3 : Int32))])) rfl (hb hby own_d_method_4_79) rfl (by decide) (cap := 8) (by decide) (by decide) (by decide) (by decide)
    obtain ⟨rt, g16⟩ : ∃ z, z = Array.size h0 := ⟨_, rfl⟩
    rw [← g16] at A16 st16
    refine own_Go.st st16 ?_
    have ne_ra_rt : ra ≠ rt := Nat.ne_of_lt (Nat.lt_of_lt_of_le (aa).lt (Nat.le_of_eq g16.symm))
    have n0_rt : n0 ≤ rt := Nat.le_trans Z0 (Nat.le_of_eq g16.symm)
    have b_rt : Array.size h0 ≤ rt := Nat.le_trans kk0.1 (Nat.le_of_eq g16.symm)
    have zz17 : n0 ≤ Array.size h16 := Nat.le_trans Z0 E16.1
    have kk17 : Keep h0 h16 [] := kk0.ext E16
    show own_Go p e below _ (T16.setTop (mkF m 81 #[.val (.ref ra), .val (.int (3 : Int32))] [(.ref rt)]))
    have at0 := own_Ar.new A16 (n := 3) (by decide)
    refine own_Go.st (fun _ kt => XS.dup X16.here hx rfl (hb hby own_d_method_4_81) rfl rfl kt) ?_
    show own_Go p e below _ (T16.setTop (mkF m 82 #[.val (.ref ra), .val (.int (3 : Int32))] [(.ref rt), (.ref rt)]))
    refine own_Go.st (fun _ kt => XS.iconst X16.here hx rfl (hb hby own_d_method_4_82) kt) ?_
    show own_Go p e below _ (T16.setTop (mkF m 83 #[.val (.ref ra), .val (.int (3 : Int32))] [(.int (0 : Int32)), (.ref rt), (.ref rt)]))
    refine own_Go.st (fun _ kt => XS.aloadN X16.here hx rfl (hb hby own_d_method_4_83) rfl rfl kt) ?_
    show own_Go p e below _ (T16.setTop (mkF m 84 #[.val (.ref ra), .val (.int (3 : Int32))] [(.ref ra), (.int (0 : Int32)), (.ref rt), (.ref rt)]))
    refine own_Go.st (fun _ kt => XS.iconst X16.here hx rfl (hb hby own_d_method_4_84) kt) ?_
    show own_Go p e below _ (T16.setTop (mkF m 85 #[.val (.ref ra), .val (.int (3 : Int32))] [(.int (0 : Int32)), (.ref ra), (.int (0 : Int32)), (.ref rt), (.ref rt)]))
    have f18 := (aa.ext E16)
    refine own_Go.st (fun _ kt => own_cald X16 hx hZ e16 f18 (i := 0) (by decide) (by decide) (v := (.int (f 0))) rfl (g := (mkF m 85 #[.val (.ref ra), .val (.int (3 : Int32))] [(.int (0 : Int32)), (.ref ra), (.int (0 : Int32)), (.ref rt), (.ref rt)])) rfl rfl (hb hby own_d_method_4_85) _ kt) ?_
    show own_Go p e below _ (T16.setTop (mkF m 86 #[.val (.ref ra), .val (.int (3 : Int32))] [(.int (f 0)), (.int (0 : Int32)), (.ref rt), (.ref rt)]))
    obtain ⟨T19, h19, X19, e19, W19, st19⟩ := own_cast X16 hx hZ e16 at0 (i := 0) (by decide) (by decide) (own_nar_char (hf 0 (by decide))) (g := (mkF m 86 #[.val (.ref ra), .val (.int (3 : Int32))] [(.int (f 0)), (.int (0 : Int32)), (.ref rt), (.ref rt)])) rfl rfl (hb hby own_d_method_4_86)
    refine own_Go.st st19 ?_
    have N19 := Fr.snoc X19 N0 n0_rt
    have a19 := own_Ar.set at0 W19
    have zz20 : n0 ≤ Array.size h19 := Nat.le_trans zz17 (Nat.le_of_eq (Wr.size W19).symm)
    have kk20 : Keep h0 h19 [] := kk17.wr W19 (Or.inr b_rt)
    show own_Go p e below _ (T19.setTop (mkF m 87 #[.val (.ref ra), .val (.int (3 : Int32))] [(.ref rt)]))
    refine own_Go.st (fun _ kt => XS.dup X19.here hx rfl (hb hby own_d_method_4_87) rfl rfl kt) ?_
    show own_Go p e below _ (T19.setTop (mkF m 88 #[.val (.ref ra), .val (.int (3 : Int32))] [(.ref rt), (.ref rt)]))
    refine own_Go.st (fun _ kt => XS.iconst X19.here hx rfl (hb hby own_d_method_4_88) kt) ?_
    show own_Go p e below _ (T19.setTop (mkF m 89 #[.val (.ref ra), .val (.int (3 : Int32))] [(.int (1 : Int32)), (.ref rt), (.ref rt)]))
    refine own_Go.st (fun _ kt => XS.aloadN X19.here hx rfl (hb hby own_d_method_4_89) rfl rfl kt) ?_
    show own_Go p e below _ (T19.setTop (mkF m 90 #[.val (.ref ra), .val (.int (3 : Int32))] [(.ref ra), (.int (1 : Int32)), (.ref rt), (.ref rt)]))
    refine own_Go.st (fun _ kt => XS.iconst X19.here hx rfl (hb hby own_d_method_4_90) kt) ?_
    show own_Go p e below _ (T19.setTop (mkF m 91 #[.val (.ref ra), .val (.int (3 : Int32))] [(.int (1 : Int32)), (.ref ra), (.int (1 : Int32)), (.ref rt), (.ref rt)]))
    have f21 := (f18.other W19 ne_ra_rt)
    refine own_Go.st (fun _ kt => own_cald X19 hx hZ e19 f21 (i := 1) (by decide) (by decide) (v := (.int (f 1))) rfl (g := (mkF m 91 #[.val (.ref ra), .val (.int (3 : Int32))] [(.int (1 : Int32)), (.ref ra), (.int (1 : Int32)), (.ref rt), (.ref rt)])) rfl rfl (hb hby own_d_method_4_91) _ kt) ?_
    show own_Go p e below _ (T19.setTop (mkF m 92 #[.val (.ref ra), .val (.int (3 : Int32))] [(.int (f 1)), (.int (1 : Int32)), (.ref rt), (.ref rt)]))
    obtain ⟨T22, h22, X22, e22, W22, st22⟩ := own_cast X19 hx hZ e19 a19 (i := 1) (by decide) (by decide) (own_nar_char (hf 1 (by decide))) (g := (mkF m 92 #[.val (.ref ra), .val (.int (3 : Int32))] [(.int (f 1)), (.int (1 : Int32)), (.ref rt), (.ref rt)])) rfl rfl (hb hby own_d_method_4_92)
    refine own_Go.st st22 ?_
    have N22 := Fr.snoc X22 N19 n0_rt
    have a22 := own_Ar.set a19 W22
    have zz23 : n0 ≤ Array.size h22 := Nat.le_trans zz20 (Nat.le_of_eq (Wr.size W22).symm)
    have kk23 : Keep h0 h22 [] := kk20.wr W22 (Or.inr b_rt)
    show own_Go p e below _ (T22.setTop (mkF m 93 #[.val (.ref ra), .val (.int (3 : Int32))] [(.ref rt)]))
    refine own_Go.st (fun _ kt => XS.dup X22.here hx rfl (hb hby own_d_method_4_93) rfl rfl kt) ?_
    show own_Go p e below _ (T22.setTop (mkF m 94 #[.val (.ref ra), .val (.int (3 : Int32))] [(.ref rt), (.ref rt)]))
    refine own_Go.st (fun _ kt => XS.iconst X22.here hx rfl (hb hby own_d_method_4_94) kt) ?_
    show own_Go p e below _ (T22.setTop (mkF m 95 #[.val (.ref ra), .val (.int (3 : Int32))] [(.int (2 : Int32)), (.ref rt), (.ref rt)]))
    refine own_Go.st (fun _ kt => XS.aloadN X22.here hx rfl (hb hby own_d_method_4_95) rfl rfl kt) ?_
    show own_Go p e below _ (T22.setTop (mkF m 96 #[.val (.ref ra), .val (.int (3 : Int32))] [(.ref ra), (.int (2 : Int32)), (.ref rt), (.ref rt)]))
    refine own_Go.st (fun _ kt => XS.iconst X22.here hx rfl (hb hby own_d_method_4_96) kt) ?_
    show own_Go p e below _ (T22.setTop (mkF m 97 #[.val (.ref ra), .val (.int (3 : Int32))] [(.int (2 : Int32)), (.ref ra), (.int (2 : Int32)), (.ref rt), (.ref rt)]))
    have f24 := (f21.other W22 ne_ra_rt)
    refine own_Go.st (fun _ kt => own_cald X22 hx hZ e22 f24 (i := 2) (by decide) (by decide) (v := (.int (f 2))) rfl (g := (mkF m 97 #[.val (.ref ra), .val (.int (3 : Int32))] [(.int (2 : Int32)), (.ref ra), (.int (2 : Int32)), (.ref rt), (.ref rt)])) rfl rfl (hb hby own_d_method_4_97) _ kt) ?_
    show own_Go p e below _ (T22.setTop (mkF m 98 #[.val (.ref ra), .val (.int (3 : Int32))] [(.int (f 2)), (.int (2 : Int32)), (.ref rt), (.ref rt)]))
    obtain ⟨T25, h25, X25, e25, W25, st25⟩ := own_cast X22 hx hZ e22 a22 (i := 2) (by decide) (by decide) (own_nar_char (hf 2 (by decide))) (g := (mkF m 98 #[.val (.ref ra), .val (.int (3 : Int32))] [(.int (f 2)), (.int (2 : Int32)), (.ref rt), (.ref rt)])) rfl rfl (hb hby own_d_method_4_98)
    refine own_Go.st st25 ?_
    have N25 := Fr.snoc X25 N22 n0_rt
    have a25 := own_Ar.set a22 W25
    have zz26 : n0 ≤ Array.size h25 := Nat.le_trans zz23 (Nat.le_of_eq (Wr.size W25).symm)
    have kk26 : Keep h0 h25 [] := kk23.wr W25 (Or.inr b_rt)
    show own_Go p e below _ (T25.setTop (mkF m 99 #[.val (.ref ra), .val (.int (3 : Int32))] [(.ref rt)]))
    have fin : own_Ar Z h25 rt .char 3 (fun j => .int (f j)) := a25.congr fun j hj => by
      have : j = 0 ∨ j = 1 ∨ j = 2 := by omega
      rcases this with rfl | rfl | rfl <;> rfl
    have kk := kk26
    rw [← e25] at fin kk
    exact own_retA X25 hx Bd.notSynchronized Bd.returns rfl rfl (hb hby own_d_method_4_99) (by decide) (by decide) ⟨rt, rfl, N25, fin, n0_rt, b_rt, kk⟩
  · obtain rfl : xn = 4 := own_i32 hn
    show own_Go p e below _ (s₁.setTop (mkF m 0 #[.val (.ref ra), .val (.int (4 : Int32))] []))
    refine own_Go.st (fun _ kt => XS.iloadN X0.here hx rfl (hb hby own_d_method_4_0) rfl kt) ?_
    show own_Go p e below _ (s₁.setTop (mkF m 1 #[.val (.ref ra), .val (.int (4 : Int32))] [(.int (4 : Int32))]))
    refine own_Go.st (fun _ kt => XS.tswIn X0.here hx rfl (pc0 := 1) (pc' := 100) rfl (hb hby own_d_method_4_1) rfl (by decide) (o := 99) rfl (by decide) (by decide) kt) ?_
    show own_Go p e below _ (s₁.setTop (mkF m 100 #[.val (.ref ra), .val (.int (4 : Int32))] []))
    refine own_Go.st (fun _ kt => XS.iconst X0.here hx rfl (hb hby own_d_method_4_100) kt) ?_
    show own_Go p e below _ (s₁.setTop (mkF m 101 #[.val (.ref ra), .val (.int (4 : Int32))] [(.int (4 : Int32))]))
    obtain ⟨T27, h27, k27, X27, e27, E27, A27, st27⟩ := newP X0 hx hZ (hw _ (List.mem_of_getElem? (i := 0) rfl)) e0 (g := (mkF m 101 #[.val (.ref ra), .val (.int (4 : Int32))] [(.int (4 : Int32))])) rfl (hb hby own_d_method_4_101) rfl (by decide) (cap := 8) (by decide) (by decide) (by decide) (by decide)
    obtain ⟨rt, g27⟩ : ∃ z, z = Array.size h0 := ⟨_, rfl⟩
    rw [← g27] at A27 st27
    refine own_Go.st st27 ?_
    have ne_ra_rt : ra ≠ rt := Nat.ne_of_lt (Nat.lt_of_lt_of_le (aa).lt (Nat.le_of_eq g27.symm))
    have n0_rt : n0 ≤ rt := Nat.le_trans Z0 (Nat.le_of_eq g27.symm)
    have b_rt : Array.size h0 ≤ rt := Nat.le_trans kk0.1 (Nat.le_of_eq g27.symm)
    have zz28 : n0 ≤ Array.size h27 := Nat.le_trans Z0 E27.1
    have kk28 : Keep h0 h27 [] := kk0.ext E27
    show own_Go p e below _ (T27.setTop (mkF m 103 #[.val (.ref ra), .val (.int (4 : Int32))] [(.ref rt)]))
    have at0 := own_Ar.new A27 (n := 4) (by decide)
    refine own_Go.st (fun _ kt => XS.dup X27.here hx rfl (hb hby own_d_method_4_103) rfl rfl kt) ?_
    show own_Go p e below _ (T27.setTop (mkF m 104 #[.val (.ref ra), .val (.int (4 : Int32))] [(.ref rt), (.ref rt)]))
    refine own_Go.st (fun _ kt => XS.iconst X27.here hx rfl (hb hby own_d_method_4_104) kt) ?_
    show own_Go p e below _ (T27.setTop (mkF m 105 #[.val (.ref ra), .val (.int (4 : Int32))] [(.int (0 : Int32)), (.ref rt), (.ref rt)]))
    refine own_Go.st (fun _ kt => XS.aloadN X27.here hx rfl (hb hby own_d_method_4_105) rfl rfl kt) ?_
    show own_Go p e below _ (T27.setTop (mkF m 106 #[.val (.ref ra), .val (.int (4 : Int32))] [(.ref ra), (.int (0 : Int32)), (.ref rt), (.ref rt)]))
    refine own_Go.st (fun _ kt => XS.iconst X27.here hx rfl (hb hby own_d_method_4_106) kt) ?_
    show own_Go p e below _ (T27.setTop (mkF m 107 #[.val (.ref ra), .val (.int (4 : Int32))] [(.int (0 : Int32)), (.ref ra), (.int (0 : Int32)), (.ref rt), (.ref rt)]))
    have f29 := (aa.ext E27)
    refine own_Go.st (fun _ kt => own_cald X27 hx hZ e27 f29 (i := 0) (by decide) (by decide) (v := (.int (f 0))) rfl (g := (mkF m 107 #[.val (.ref ra), .val (.int (4 : Int32))] [(.int (0 : Int32)), (.ref ra), (.int (0 : Int32)), (.ref rt), (.ref rt)])) rfl rfl (hb hby own_d_method_4_107) _ kt) ?_
    show own_Go p e below _ (T27.setTop (mkF m 108 #[.val (.ref ra), .val (.int (4 : Int32))] [(.int (f 0)), (.int (0 : Int32)), (.ref rt), (.ref rt)]))
    obtain ⟨T30, h30, X30, e30, W30, st30⟩ := own_cast X27 hx hZ e27 at0 (i := 0) (by decide) (by decide) (own_nar_char (hf 0 (by decide))) (g := (mkF m 108 #[.val (.ref ra), .val (.int (4 : Int32))] [(.int (f 0)), (.int (0 : Int32)), (.ref rt), (.ref rt)])) rfl rfl (hb hby own_d_method_4_108)
    refine own_Go.st st30 ?_
    have N30 := Fr.snoc X30 N0 n0_rt
    have a30 := own_Ar.set at0 W30
    have zz31 : n0 ≤ Array.size h30 := Nat.le_trans zz28 (Nat.le_of_eq (Wr.size W30).symm)
    have kk31 : Keep h0 h30 [] := kk28.wr W30 (Or.inr b_rt)
    show own_Go p e below _ (T30.setTop (mkF m 109 #[.val (.ref ra), .val (.int (4 : Int32))] [(.ref rt)]))
    refine own_Go.st (fun _ kt => XS.dup X30.here hx rfl (hb hby own_d_method_4_109) rfl rfl kt) ?_
    show own_Go p e below _ (T30.setTop (mkF m 110 #[.val (.ref ra), .val (.int (4 : Int32))] [(.ref rt), (.ref rt)]))
    refine own_Go.st (fun _ kt => XS.iconst X30.here hx rfl (hb hby own_d_method_4_110) kt) ?_
    show own_Go p e below _ (T30.setTop (mkF m 111 #[.val (.ref ra), .val (.int (4 : Int32))] [(.int (1 : Int32)), (.ref rt), (.ref rt)]))
    refine own_Go.st (fun _ kt => XS.aloadN X30.here hx rfl (hb hby own_d_method_4_111) rfl rfl kt) ?_
    show own_Go p e below _ (T30.setTop (mkF m 112 #[.val (.ref ra), .val (.int (4 : Int32))] [(.ref ra), (.int (1 : Int32)), (.ref rt), (.ref rt)]))
    refine own_Go.st (fun _ kt => XS.iconst X30.here hx rfl (hb hby own_d_method_4_112) kt) ?_
    show own_Go p e below _ (T30.setTop (mkF m 113 #[.val (.ref ra), .val (.int (4 : Int32))] [(.int (1 : Int32)), (.ref ra), (.int (1 : Int32)), (.ref rt), (.ref rt)]))
    have f32 := (f29.other W30 ne_ra_rt)
    refine own_Go.st (fun _ kt => own_cald X30 hx hZ e30 f32 (i := 1) (by decide) (by decide) (v := (.int (f 1))) rfl (g := (mkF m 113 #[.val (.ref ra), .val (.int (4 : Int32))] [(.int (1 : Int32)), (.ref ra), (.int (1 : Int32)), (.ref rt), (.ref rt)])) rfl rfl (hb hby own_d_method_4_113) _ kt) ?_
    show own_Go p e below _ (T30.setTop (mkF m 114 #[.val (.ref ra), .val (.int (4 : Int32))] [(.int (f 1)), (.int (1 : Int32)), (.ref rt), (.ref rt)]))
    obtain ⟨T33, h33, X33, e33, W33, st33⟩ := own_cast X30 hx hZ e30 a30 (i := 1) (by decide) (by decide) (own_nar_char (hf 1 (by decide))) (g := (mkF m 114 #[.val (.ref ra), .val (.int (4 : Int32))] [(.int (f 1)), (.int (1 : Int32)), (.ref rt), (.ref rt)])) rfl rfl (hb hby own_d_method_4_114)
    refine own_Go.st st33 ?_
    have N33 := Fr.snoc X33 N30 n0_rt
    have a33 := own_Ar.set a30 W33
    have zz34 : n0 ≤ Array.size h33 := Nat.le_trans zz31 (Nat.le_of_eq (Wr.size W33).symm)
    have kk34 : Keep h0 h33 [] := kk31.wr W33 (Or.inr b_rt)
    show own_Go p e below _ (T33.setTop (mkF m 115 #[.val (.ref ra), .val (.int (4 : Int32))] [(.ref rt)]))
    refine own_Go.st (fun _ kt => XS.dup X33.here hx rfl (hb hby own_d_method_4_115) rfl rfl kt) ?_
    show own_Go p e below _ (T33.setTop (mkF m 116 #[.val (.ref ra), .val (.int (4 : Int32))] [(.ref rt), (.ref rt)]))
    refine own_Go.st (fun _ kt => XS.iconst X33.here hx rfl (hb hby own_d_method_4_116) kt) ?_
    show own_Go p e below _ (T33.setTop (mkF m 117 #[.val (.ref ra), .val (.int (4 : Int32))] [(.int (2 : Int32)), (.ref rt), (.ref rt)]))
    refine own_Go.st (fun _ kt => XS.aloadN X33.here hx rfl (hb hby own_d_method_4_117) rfl rfl kt) ?_
    show own_Go p e below _ (T33.setTop (mkF m 118 #[.val (.ref ra), .val (.int (4 : Int32))] [(.ref ra), (.int (2 : Int32)), (.ref rt), (.ref rt)]))
    refine own_Go.st (fun _ kt => XS.iconst X33.here hx rfl (hb hby own_d_method_4_118) kt) ?_
    show own_Go p e below _ (T33.setTop (mkF m 119 #[.val (.ref ra), .val (.int (4 : Int32))] [(.int (2 : Int32)), (.ref ra), (.int (2 : Int32)), (.ref rt), (.ref rt)]))
    have f35 := (f32.other W33 ne_ra_rt)
    refine own_Go.st (fun _ kt => own_cald X33 hx hZ e33 f35 (i := 2) (by decide) (by decide) (v := (.int (f 2))) rfl (g := (mkF m 119 #[.val (.ref ra), .val (.int (4 : Int32))] [(.int (2 : Int32)), (.ref ra), (.int (2 : Int32)), (.ref rt), (.ref rt)])) rfl rfl (hb hby own_d_method_4_119) _ kt) ?_
    show own_Go p e below _ (T33.setTop (mkF m 120 #[.val (.ref ra), .val (.int (4 : Int32))] [(.int (f 2)), (.int (2 : Int32)), (.ref rt), (.ref rt)]))
    obtain ⟨T36, h36, X36, e36, W36, st36⟩ := own_cast X33 hx hZ e33 a33 (i := 2) (by decide) (by decide) (own_nar_char (hf 2 (by decide))) (g := (mkF m 120 #[.val (.ref ra), .val (.int (4 : Int32))] [(.int (f 2)), (.int (2 : Int32)), (.ref rt), (.ref rt)])) rfl rfl (hb hby own_d_method_4_120)
    refine own_Go.st st36 ?_
    have N36 := Fr.snoc X36 N33 n0_rt
    have a36 := own_Ar.set a33 W36
    have zz37 : n0 ≤ Array.size h36 := Nat.le_trans zz34 (Nat.le_of_eq (Wr.size W36).symm)
    have kk37 : Keep h0 h36 [] := kk34.wr W36 (Or.inr b_rt)
    show own_Go p e below _ (T36.setTop (mkF m 121 #[.val (.ref ra), .val (.int (4 : Int32))] [(.ref rt)]))
    refine own_Go.st (fun _ kt => XS.dup X36.here hx rfl (hb hby own_d_method_4_121) rfl rfl kt) ?_
    show own_Go p e below _ (T36.setTop (mkF m 122 #[.val (.ref ra), .val (.int (4 : Int32))] [(.ref rt), (.ref rt)]))
    refine own_Go.st (fun _ kt => XS.iconst X36.here hx rfl (hb hby own_d_method_4_122) kt) ?_
    show own_Go p e below _ (T36.setTop (mkF m 123 #[.val (.ref ra), .val (.int (4 : Int32))] [(.int (3 : Int32)), (.ref rt), (.ref rt)]))
    refine own_Go.st (fun _ kt => XS.aloadN X36.here hx rfl (hb hby own_d_method_4_123) rfl rfl kt) ?_
    show own_Go p e below _ (T36.setTop (mkF m 124 #[.val (.ref ra), .val (.int (4 : Int32))] [(.ref ra), (.int (3 : Int32)), (.ref rt), (.ref rt)]))
    refine own_Go.st (fun _ kt => XS.iconst X36.here hx rfl (hb hby own_d_method_4_124) kt) ?_
    show own_Go p e below _ (T36.setTop (mkF m 125 #[.val (.ref ra), .val (.int (4 : Int32))] [(.int (3 : Int32)), (.ref ra), (.int (3 : Int32)), (.ref rt), (.ref rt)]))
    have f38 := (f35.other W36 ne_ra_rt)
    refine own_Go.st (fun _ kt => own_cald X36 hx hZ e36 f38 (i := 3) (by decide) (by decide) (v := (.int (f 3))) rfl (g := (mkF m 125 #[.val (.ref ra), .val (.int (4 : Int32))] [(.int (3 : Int32)), (.ref ra), (.int (3 : Int32)), (.ref rt), (.ref rt)])) rfl rfl (hb hby own_d_method_4_125) _ kt) ?_
    show own_Go p e below _ (T36.setTop (mkF m 126 #[.val (.ref ra), .val (.int (4 : Int32))] [(.int (f 3)), (.int (3 : Int32)), (.ref rt), (.ref rt)]))
    obtain ⟨T39, h39, X39, e39, W39, st39⟩ := own_cast X36 hx hZ e36 a36 (i := 3) (by decide) (by decide) (own_nar_char (hf 3 (by decide))) (g := (mkF m 126 #[.val (.ref ra), .val (.int (4 : Int32))] [(.int (f 3)), (.int (3 : Int32)), (.ref rt), (.ref rt)])) rfl rfl (hb hby own_d_method_4_126)
    refine own_Go.st st39 ?_
    have N39 := Fr.snoc X39 N36 n0_rt
    have a39 := own_Ar.set a36 W39
    have zz40 : n0 ≤ Array.size h39 := Nat.le_trans zz37 (Nat.le_of_eq (Wr.size W39).symm)
    have kk40 : Keep h0 h39 [] := kk37.wr W39 (Or.inr b_rt)
    show own_Go p e below _ (T39.setTop (mkF m 127 #[.val (.ref ra), .val (.int (4 : Int32))] [(.ref rt)]))
    have fin : own_Ar Z h39 rt .char 4 (fun j => .int (f j)) := a39.congr fun j hj => by
      have : j = 0 ∨ j = 1 ∨ j = 2 ∨ j = 3 := by omega
      rcases this with rfl | rfl | rfl | rfl <;> rfl
    have kk := kk40
    rw [← e39] at fin kk
    exact own_retA X39 hx Bd.notSynchronized Bd.returns rfl rfl (hb hby own_d_method_4_127) (by decide) (by decide) ⟨rt, rfl, N39, fin, n0_rt, b_rt, kk⟩
  · obtain rfl : xn = 5 := own_i32 hn
    show own_Go p e below _ (s₁.setTop (mkF m 0 #[.val (.ref ra), .val (.int (5 : Int32))] []))
    refine own_Go.st (fun _ kt => XS.iloadN X0.here hx rfl (hb hby own_d_method_4_0) rfl kt) ?_
    show own_Go p e below _ (s₁.setTop (mkF m 1 #[.val (.ref ra), .val (.int (5 : Int32))] [(.int (5 : Int32))]))
    refine own_Go.st (fun _ kt => XS.tswIn X0.here hx rfl (pc0 := 1) (pc' := 128) rfl (hb hby own_d_method_4_1) rfl (by decide) (o := 127) rfl (by decide) (by decide) kt) ?_
    show own_Go p e below _ (s₁.setTop (mkF m 128 #[.val (.ref ra), .val (.int (5 : Int32))] []))
    refine own_Go.st (fun _ kt => XS.iconst X0.here hx rfl (hb hby own_d_method_4_128) kt) ?_
    show own_Go p e below _ (s₁.setTop (mkF m 129 #[.val (.ref ra), .val (.int (5 : Int32))] [(.int (5 : Int32))]))
    obtain ⟨T41, h41, k41, X41, e41, E41, A41, st41⟩ := newP X0 hx hZ (hw _ (List.mem_of_getElem? (i := 0) rfl)) e0 (g := (mkF m 129 #[.val (.ref ra), .val (.int (5 : Int32))] [(.int (5 : Int32))])) rfl (hb hby own_d_method_4_129) rfl (by decide) (cap := 8) (by decide) (by decide) (by decide) (by decide)
    obtain ⟨rt, g41⟩ : ∃ z, z = Array.size h0 := ⟨_, rfl⟩
    rw [← g41] at A41 st41
    refine own_Go.st st41 ?_
    have ne_ra_rt : ra ≠ rt := Nat.ne_of_lt (Nat.lt_of_lt_of_le (aa).lt (Nat.le_of_eq g41.symm))
    have n0_rt : n0 ≤ rt := Nat.le_trans Z0 (Nat.le_of_eq g41.symm)
    have b_rt : Array.size h0 ≤ rt := Nat.le_trans kk0.1 (Nat.le_of_eq g41.symm)
    have zz42 : n0 ≤ Array.size h41 := Nat.le_trans Z0 E41.1
    have kk42 : Keep h0 h41 [] := kk0.ext E41
    show own_Go p e below _ (T41.setTop (mkF m 131 #[.val (.ref ra), .val (.int (5 : Int32))] [(.ref rt)]))
    have at0 := own_Ar.new A41 (n := 5) (by decide)
    refine own_Go.st (fun _ kt => XS.dup X41.here hx rfl (hb hby own_d_method_4_131) rfl rfl kt) ?_
    show own_Go p e below _ (T41.setTop (mkF m 132 #[.val (.ref ra), .val (.int (5 : Int32))] [(.ref rt), (.ref rt)]))
    refine own_Go.st (fun _ kt => XS.iconst X41.here hx rfl (hb hby own_d_method_4_132) kt) ?_
    show own_Go p e below _ (T41.setTop (mkF m 133 #[.val (.ref ra), .val (.int (5 : Int32))] [(.int (0 : Int32)), (.ref rt), (.ref rt)]))
    refine own_Go.st (fun _ kt => XS.aloadN X41.here hx rfl (hb hby own_d_method_4_133) rfl rfl kt) ?_
    show own_Go p e below _ (T41.setTop (mkF m 134 #[.val (.ref ra), .val (.int (5 : Int32))] [(.ref ra), (.int (0 : Int32)), (.ref rt), (.ref rt)]))
    refine own_Go.st (fun _ kt => XS.iconst X41.here hx rfl (hb hby own_d_method_4_134) kt) ?_
    show own_Go p e below _ (T41.setTop (mkF m 135 #[.val (.ref ra), .val (.int (5 : Int32))] [(.int (0 : Int32)), (.ref ra), (.int (0 : Int32)), (.ref rt), (.ref rt)]))
    have f43 := (aa.ext E41)
    refine own_Go.st (fun _ kt => own_cald X41 hx hZ e41 f43 (i := 0) (by decide) (by decide) (v := (.int (f 0))) rfl (g := (mkF m 135 #[.val (.ref ra), .val (.int (5 : Int32))] [(.int (0 : Int32)), (.ref ra), (.int (0 : Int32)), (.ref rt), (.ref rt)])) rfl rfl (hb hby own_d_method_4_135) _ kt) ?_
    show own_Go p e below _ (T41.setTop (mkF m 136 #[.val (.ref ra), .val (.int (5 : Int32))] [(.int (f 0)), (.int (0 : Int32)), (.ref rt), (.ref rt)]))
    obtain ⟨T44, h44, X44, e44, W44, st44⟩ := own_cast X41 hx hZ e41 at0 (i := 0) (by decide) (by decide) (own_nar_char (hf 0 (by decide))) (g := (mkF m 136 #[.val (.ref ra), .val (.int (5 : Int32))] [(.int (f 0)), (.int (0 : Int32)), (.ref rt), (.ref rt)])) rfl rfl (hb hby own_d_method_4_136)
    refine own_Go.st st44 ?_
    have N44 := Fr.snoc X44 N0 n0_rt
    have a44 := own_Ar.set at0 W44
    have zz45 : n0 ≤ Array.size h44 := Nat.le_trans zz42 (Nat.le_of_eq (Wr.size W44).symm)
    have kk45 : Keep h0 h44 [] := kk42.wr W44 (Or.inr b_rt)
    show own_Go p e below _ (T44.setTop (mkF m 137 #[.val (.ref ra), .val (.int (5 : Int32))] [(.ref rt)]))
    refine own_Go.st (fun _ kt => XS.dup X44.here hx rfl (hb hby own_d_method_4_137) rfl rfl kt) ?_
    show own_Go p e below _ (T44.setTop (mkF m 138 #[.val (.ref ra), .val (.int (5 : Int32))] [(.ref rt), (.ref rt)]))
    refine own_Go.st (fun _ kt => XS.iconst X44.here hx rfl (hb hby own_d_method_4_138) kt) ?_
    show own_Go p e below _ (T44.setTop (mkF m 139 #[.val (.ref ra), .val (.int (5 : Int32))] [(.int (1 : Int32)), (.ref rt), (.ref rt)]))
    refine own_Go.st (fun _ kt => XS.aloadN X44.here hx rfl (hb hby own_d_method_4_139) rfl rfl kt) ?_
    show own_Go p e below _ (T44.setTop (mkF m 140 #[.val (.ref ra), .val (.int (5 : Int32))] [(.ref ra), (.int (1 : Int32)), (.ref rt), (.ref rt)]))
    refine own_Go.st (fun _ kt => XS.iconst X44.here hx rfl (hb hby own_d_method_4_140) kt) ?_
    show own_Go p e below _ (T44.setTop (mkF m 141 #[.val (.ref ra), .val (.int (5 : Int32))] [(.int (1 : Int32)), (.ref ra), (.int (1 : Int32)), (.ref rt), (.ref rt)]))
    have f46 := (f43.other W44 ne_ra_rt)
    refine own_Go.st (fun _ kt => own_cald X44 hx hZ e44 f46 (i := 1) (by decide) (by decide) (v := (.int (f 1))) rfl (g := (mkF m 141 #[.val (.ref ra), .val (.int (5 : Int32))] [(.int (1 : Int32)), (.ref ra), (.int (1 : Int32)), (.ref rt), (.ref rt)])) rfl rfl (hb hby own_d_method_4_141) _ kt) ?_
    show own_Go p e below _ (T44.setTop (mkF m 142 #[.val (.ref ra), .val (.int (5 : Int32))] [(.int (f 1)), (.int (1 : Int32)), (.ref rt), (.ref rt)]))
    obtain ⟨T47, h47, X47, e47, W47, st47⟩ := own_cast X44 hx hZ e44 a44 (i := 1) (by decide) (by decide) (own_nar_char (hf 1 (by decide))) (g := (mkF m 142 #[.val (.ref ra), .val (.int (5 : Int32))] [(.int (f 1)), (.int (1 : Int32)), (.ref rt), (.ref rt)])) rfl rfl (hb hby own_d_method_4_142)
    refine own_Go.st st47 ?_
    have N47 := Fr.snoc X47 N44 n0_rt
    have a47 := own_Ar.set a44 W47
    have zz48 : n0 ≤ Array.size h47 := Nat.le_trans zz45 (Nat.le_of_eq (Wr.size W47).symm)
    have kk48 : Keep h0 h47 [] := kk45.wr W47 (Or.inr b_rt)
    show own_Go p e below _ (T47.setTop (mkF m 143 #[.val (.ref ra), .val (.int (5 : Int32))] [(.ref rt)]))
    refine own_Go.st (fun _ kt => XS.dup X47.here hx rfl (hb hby own_d_method_4_143) rfl rfl kt) ?_
    show own_Go p e below _ (T47.setTop (mkF m 144 #[.val (.ref ra), .val (.int (5 : Int32))] [(.ref rt), (.ref rt)]))
    refine own_Go.st (fun _ kt => XS.iconst X47.here hx rfl (hb hby own_d_method_4_144) kt) ?_
    show own_Go p e below _ (T47.setTop (mkF m 145 #[.val (.ref ra), .val (.int (5 : Int32))] [(.int (2 : Int32)), (.ref rt), (.ref rt)]))
    refine own_Go.st (fun _ kt => XS.aloadN X47.here hx rfl (hb hby own_d_method_4_145) rfl rfl kt) ?_
    show own_Go p e below _ (T47.setTop (mkF m 146 #[.val (.ref ra), .val (.int (5 : Int32))] [(.ref ra), (.int (2 : Int32)), (.ref rt), (.ref rt)]))
    refine own_Go.st (fun _ kt => XS.iconst X47.here hx rfl (hb hby own_d_method_4_146) kt) ?_
    show own_Go p e below _ (T47.setTop (mkF m 147 #[.val (.ref ra), .val (.int (5 : Int32))] [(.int (2 : Int32)), (.ref ra), (.int (2 : Int32)), (.ref rt), (.ref rt)]))
    have f49 := (f46.other W47 ne_ra_rt)
    refine own_Go.st (fun _ kt => own_cald X47 hx hZ e47 f49 (i := 2) (by decide) (by decide) (v := (.int (f 2))) rfl (g := (mkF m 147 #[.val (.ref ra), .val (.int (5 : Int32))] [(.int (2 : Int32)), (.ref ra), (.int (2 : Int32)), (.ref rt), (.ref rt)])) rfl rfl (hb hby own_d_method_4_147) _ kt) ?_
    show own_Go p e below _ (T47.setTop (mkF m 148 #[.val (.ref ra), .val (.int (5 : Int32))] [(.int (f 2)), (.int (2 : Int32)), (.ref rt), (.ref rt)]))
    obtain ⟨T50, h50, X50, e50, W50, st50⟩ := own_cast X47 hx hZ e47 a47 (i := 2) (by decide) (by decide) (own_nar_char (hf 2 (by decide))) (g := (mkF m 148 #[.val (.ref ra), .val (.int (5 : Int32))] [(.int (f 2)), (.int (2 : Int32)), (.ref rt), (.ref rt)])) rfl rfl (hb hby own_d_method_4_148)
    refine own_Go.st st50 ?_
    have N50 := Fr.snoc X50 N47 n0_rt
    have a50 := own_Ar.set a47 W50
    have zz51 : n0 ≤ Array.size h50 := Nat.le_trans zz48 (Nat.le_of_eq (Wr.size W50).symm)
    have kk51 : Keep h0 h50 [] := kk48.wr W50 (Or.inr b_rt)
    show own_Go p e below _ (T50.setTop (mkF m 149 #[.val (.ref ra), .val (.int (5 : Int32))] [(.ref rt)]))
    refine own_Go.st (fun _ kt => XS.dup X50.here hx rfl (hb hby own_d_method_4_149) rfl rfl kt) ?_
    show own_Go p e below _ (T50.setTop (mkF m 150 #[.val (.ref ra), .val (.int (5 : Int32))] [(.ref rt), (.ref rt)]))
    refine own_Go.st (fun _ kt => XS.iconst X50.here hx rfl (hb hby own_d_method_4_150) kt) ?_
    show own_Go p e below _ (T50.setTop (mkF m 151 #[.val (.ref ra), .val (.int (5 : Int32))] [(.int (3 : Int32)), (.ref rt), (.ref rt)]))
    refine own_Go.st (fun _ kt => XS.aloadN X50.here hx rfl (hb hby own_d_method_4_151) rfl rfl kt) ?_
    show own_Go p e below _ (T50.setTop (mkF m 152 #[.val (.ref ra), .val (.int (5 : Int32))] [(.ref ra), (.int (3 : Int32)), (.ref rt), (.ref rt)]))
    refine own_Go.st (fun _ kt => XS.iconst X50.here hx rfl (hb hby own_d_method_4_152) kt) ?_
    show own_Go p e below _ (T50.setTop (mkF m 153 #[.val (.ref ra), .val (.int (5 : Int32))] [(.int (3 : Int32)), (.ref ra), (.int (3 : Int32)), (.ref rt), (.ref rt)]))
    have f52 := (f49.other W50 ne_ra_rt)
    refine own_Go.st (fun _ kt => own_cald X50 hx hZ e50 f52 (i := 3) (by decide) (by decide) (v := (.int (f 3))) rfl (g := (mkF m 153 #[.val (.ref ra), .val (.int (5 : Int32))] [(.int (3 : Int32)), (.ref ra), (.int (3 : Int32)), (.ref rt), (.ref rt)])) rfl rfl (hb hby own_d_method_4_153) _ kt) ?_
    show own_Go p e below _ (T50.setTop (mkF m 154 #[.val (.ref ra), .val (.int (5 : Int32))] [(.int (f 3)), (.int (3 : Int32)), (.ref rt), (.ref rt)]))
    obtain ⟨T53, h53, X53, e53, W53, st53⟩ := own_cast X50 hx hZ e50 a50 (i := 3) (by decide) (by decide) (own_nar_char (hf 3 (by decide))) (g := (mkF m 154 #[.val (.ref ra), .val (.int (5 : Int32))] [(.int (f 3)), (.int (3 : Int32)), (.ref rt), (.ref rt)])) rfl rfl (hb hby own_d_method_4_154)
    refine own_Go.st st53 ?_
    have N53 := Fr.snoc X53 N50 n0_rt
    have a53 := own_Ar.set a50 W53
    have zz54 : n0 ≤ Array.size h53 := Nat.le_trans zz51 (Nat.le_of_eq (Wr.size W53).symm)
    have kk54 : Keep h0 h53 [] := kk51.wr W53 (Or.inr b_rt)
    show own_Go p e below _ (T53.setTop (mkF m 155 #[.val (.ref ra), .val (.int (5 : Int32))] [(.ref rt)]))
    refine own_Go.st (fun _ kt => XS.dup X53.here hx rfl (hb hby own_d_method_4_155) rfl rfl kt) ?_
    show own_Go p e below _ (T53.setTop (mkF m 156 #[.val (.ref ra), .val (.int (5 : Int32))] [(.ref rt), (.ref rt)]))
    refine own_Go.st (fun _ kt => XS.iconst X53.here hx rfl (hb hby own_d_method_4_156) kt) ?_
    show own_Go p e below _ (T53.setTop (mkF m 157 #[.val (.ref ra), .val (.int (5 : Int32))] [(.int (4 : Int32)), (.ref rt), (.ref rt)]))
    refine own_Go.st (fun _ kt => XS.aloadN X53.here hx rfl (hb hby own_d_method_4_157) rfl rfl kt) ?_
    show own_Go p e below _ (T53.setTop (mkF m 158 #[.val (.ref ra), .val (.int (5 : Int32))] [(.ref ra), (.int (4 : Int32)), (.ref rt), (.ref rt)]))
    refine own_Go.st (fun _ kt => XS.iconst X53.here hx rfl (hb hby own_d_method_4_158) kt) ?_
    show own_Go p e below _ (T53.setTop (mkF m 159 #[.val (.ref ra), .val (.int (5 : Int32))] [(.int (4 : Int32)), (.ref ra), (.int (4 : Int32)), (.ref rt), (.ref rt)]))
    have f55 := (f52.other W53 ne_ra_rt)
    refine own_Go.st (fun _ kt => own_cald X53 hx hZ e53 f55 (i := 4) (by decide) (by decide) (v := (.int (f 4))) rfl (g := (mkF m 159 #[.val (.ref ra), .val (.int (5 : Int32))] [(.int (4 : Int32)), (.ref ra), (.int (4 : Int32)), (.ref rt), (.ref rt)])) rfl rfl (hb hby own_d_method_4_159) _ kt) ?_
    show own_Go p e below _ (T53.setTop (mkF m 160 #[.val (.ref ra), .val (.int (5 : Int32))] [(.int (f 4)), (.int (4 : Int32)), (.ref rt), (.ref rt)]))
    obtain ⟨T56, h56, X56, e56, W56, st56⟩ := own_cast X53 hx hZ e53 a53 (i := 4) (by decide) (by decide) (own_nar_char (hf 4 (by decide))) (g := (mkF m 160 #[.val (.ref ra), .val (.int (5 : Int32))] [(.int (f 4)), (.int (4 : Int32)), (.ref rt), (.ref rt)])) rfl rfl (hb hby own_d_method_4_160)
    refine own_Go.st st56 ?_
    have N56 := Fr.snoc X56 N53 n0_rt
    have a56 := own_Ar.set a53 W56
    have zz57 : n0 ≤ Array.size h56 := Nat.le_trans zz54 (Nat.le_of_eq (Wr.size W56).symm)
    have kk57 : Keep h0 h56 [] := kk54.wr W56 (Or.inr b_rt)
    show own_Go p e below _ (T56.setTop (mkF m 161 #[.val (.ref ra), .val (.int (5 : Int32))] [(.ref rt)]))
    have fin : own_Ar Z h56 rt .char 5 (fun j => .int (f j)) := a56.congr fun j hj => by
      have : j = 0 ∨ j = 1 ∨ j = 2 ∨ j = 3 ∨ j = 4 := by omega
      rcases this with rfl | rfl | rfl | rfl | rfl <;> rfl
    have kk := kk57
    rw [← e56] at fin kk
    exact own_retA X56 hx Bd.notSynchronized Bd.returns rfl rfl (hb hby own_d_method_4_161) (by decide) (by decide) ⟨rt, rfl, N56, fin, n0_rt, b_rt, kk⟩
  · obtain rfl : xn = 6 := own_i32 hn
    show own_Go p e below _ (s₁.setTop (mkF m 0 #[.val (.ref ra), .val (.int (6 : Int32))] []))
    refine own_Go.st (fun _ kt => XS.iloadN X0.here hx rfl (hb hby own_d_method_4_0) rfl kt) ?_
    show own_Go p e below _ (s₁.setTop (mkF m 1 #[.val (.ref ra), .val (.int (6 : Int32))] [(.int (6 : Int32))]))
    refine own_Go.st (fun _ kt => XS.tswIn X0.here hx rfl (pc0 := 1) (pc' := 162) rfl (hb hby own_d_method_4_1) rfl (by decide) (o := 161) rfl (by decide) (by decide) kt) ?_
    show own_Go p e below _ (s₁.setTop (mkF m 162 #[.val (.ref ra), .val (.int (6 : Int32))] []))
    refine own_Go.st (fun _ kt => XS.bipush X0.here hx rfl (hb hby own_d_method_4_162) kt) ?_
    show own_Go p e below _ (s₁.setTop (mkF m 164 #[.val (.ref ra), .val (.int (6 : Int32))] [(.int (6 : Int32))]))
    obtain ⟨T58, h58, k58, X58, e58, E58, A58, st58⟩ := newP X0 hx hZ (hw _ (List.mem_of_getElem? (i := 0) rfl)) e0 (g := (mkF m 164 #[.val (.ref ra), .val (.int (6 : Int32))] [(.int (6 : Int32))])) rfl (hb hby own_d_method_4_164) rfl (by decide) (cap := 8) (by decide) (by decide) (by decide) (by decide)
    obtain ⟨rt, g58⟩ : ∃ z, z = Array.size h0 := ⟨_, rfl⟩
    rw [← g58] at A58 st58
    refine own_Go.st st58 ?_
    have ne_ra_rt : ra ≠ rt := Nat.ne_of_lt (Nat.lt_of_lt_of_le (aa).lt (Nat.le_of_eq g58.symm))
    have n0_rt : n0 ≤ rt := Nat.le_trans Z0 (Nat.le_of_eq g58.symm)
    have b_rt : Array.size h0 ≤ rt := Nat.le_trans kk0.1 (Nat.le_of_eq g58.symm)
    have zz59 : n0 ≤ Array.size h58 := Nat.le_trans Z0 E58.1
    have kk59 : Keep h0 h58 [] := kk0.ext E58
    show own_Go p e below _ (T58.setTop (mkF m 166 #[.val (.ref ra), .val (.int (6 : Int32))] [(.ref rt)]))
    have at0 := own_Ar.new A58 (n := 6) (by decide)
    refine own_Go.st (fun _ kt => XS.dup X58.here hx rfl (hb hby own_d_method_4_166) rfl rfl kt) ?_
    show own_Go p e below _ (T58.setTop (mkF m 167 #[.val (.ref ra), .val (.int (6 : Int32))] [(.ref rt), (.ref rt)]))
    refine own_Go.st (fun _ kt => XS.iconst X58.here hx rfl (hb hby own_d_method_4_167) kt) ?_
    show own_Go p e below _ (T58.setTop (mkF m 168 #[.val (.ref ra), .val (.int (6 : Int32))] [(.int (0 : Int32)), (.ref rt), (.ref rt)]))
    refine own_Go.st (fun _ kt => XS.aloadN X58.here hx rfl (hb hby own_d_method_4_168) rfl rfl kt) ?_
    show own_Go p e below _ (T58.setTop (mkF m 169 #[.val (.ref ra), .val (.int (6 : Int32))] [(.ref ra), (.int (0 : Int32)), (.ref rt), (.ref rt)]))
    refine own_Go.st (fun _ kt => XS.iconst X58.here hx rfl (hb hby own_d_method_4_169) kt) ?_
    show own_Go p e below _ (T58.setTop (mkF m 170 #[.val (.ref ra), .val (.int (6 : Int32))] [(.int (0 : Int32)), (.ref ra), (.int (0 : Int32)), (.ref rt), (.ref rt)]))
    have f60 := (aa.ext E58)
    refine own_Go.st (fun _ kt => own_cald X58 hx hZ e58 f60 (i := 0) (by decide) (by decide) (v := (.int (f 0))) rfl (g := (mkF m 170 #[.val (.ref ra), .val (.int (6 : Int32))] [(.int (0 : Int32)), (.ref ra), (.int (0 : Int32)), (.ref rt), (.ref rt)])) rfl rfl (hb hby own_d_method_4_170) _ kt) ?_
    show own_Go p e below _ (T58.setTop (mkF m 171 #[.val (.ref ra), .val (.int (6 : Int32))] [(.int (f 0)), (.int (0 : Int32)), (.ref rt), (.ref rt)]))
    obtain ⟨T61, h61, X61, e61, W61, st61⟩ := own_cast X58 hx hZ e58 at0 (i := 0) (by decide) (by decide) (own_nar_char (hf 0 (by decide))) (g := (mkF m 171 #[.val (.ref ra), .val (.int (6 : Int32))] [(.int (f 0)), (.int (0 : Int32)), (.ref rt), (.ref rt)])) rfl rfl (hb hby own_d_method_4_171)
    refine own_Go.st st61 ?_
    have N61 := Fr.snoc X61 N0 n0_rt
    have a61 := own_Ar.set at0 W61
    have zz62 : n0 ≤ Array.size h61 := Nat.le_trans zz59 (Nat.le_of_eq (Wr.size W61).symm)
    have kk62 : Keep h0 h61 [] := kk59.wr W61 (Or.inr b_rt)
    show own_Go p e below _ (T61.setTop (mkF m 172 #[.val (.ref ra), .val (.int (6 : Int32))] [(.ref rt)]))
    refine own_Go.st (fun _ kt => XS.dup X61.here hx rfl (hb hby own_d_method_4_172) rfl rfl kt) ?_
    show own_Go p e below _ (T61.setTop (mkF m 173 #[.val (.ref ra), .val (.int (6 : Int32))] [(.ref rt), (.ref rt)]))
    refine own_Go.st (fun _ kt => XS.iconst X61.here hx rfl (hb hby own_d_method_4_173) kt) ?_
    show own_Go p e below _ (T61.setTop (mkF m 174 #[.val (.ref ra), .val (.int (6 : Int32))] [(.int (1 : Int32)), (.ref rt), (.ref rt)]))
    refine own_Go.st (fun _ kt => XS.aloadN X61.here hx rfl (hb hby own_d_method_4_174) rfl rfl kt) ?_
    show own_Go p e below _ (T61.setTop (mkF m 175 #[.val (.ref ra), .val (.int (6 : Int32))] [(.ref ra), (.int (1 : Int32)), (.ref rt), (.ref rt)]))
    refine own_Go.st (fun _ kt => XS.iconst X61.here hx rfl (hb hby own_d_method_4_175) kt) ?_
    show own_Go p e below _ (T61.setTop (mkF m 176 #[.val (.ref ra), .val (.int (6 : Int32))] [(.int (1 : Int32)), (.ref ra), (.int (1 : Int32)), (.ref rt), (.ref rt)]))
    have f63 := (f60.other W61 ne_ra_rt)
    refine own_Go.st (fun _ kt => own_cald X61 hx hZ e61 f63 (i := 1) (by decide) (by decide) (v := (.int (f 1))) rfl (g := (mkF m 176 #[.val (.ref ra), .val (.int (6 : Int32))] [(.int (1 : Int32)), (.ref ra), (.int (1 : Int32)), (.ref rt), (.ref rt)])) rfl rfl (hb hby own_d_method_4_176) _ kt) ?_
    show own_Go p e below _ (T61.setTop (mkF m 177 #[.val (.ref ra), .val (.int (6 : Int32))] [(.int (f 1)), (.int (1 : Int32)), (.ref rt), (.ref rt)]))
    obtain ⟨T64, h64, X64, e64, W64, st64⟩ := own_cast X61 hx hZ e61 a61 (i := 1) (by decide) (by decide) (own_nar_char (hf 1 (by decide))) (g := (mkF m 177 #[.val (.ref ra), .val (.int (6 : Int32))] [(.int (f 1)), (.int (1 : Int32)), (.ref rt), (.ref rt)])) rfl rfl (hb hby own_d_method_4_177)
    refine own_Go.st st64 ?_
    have N64 := Fr.snoc X64 N61 n0_rt
    have a64 := own_Ar.set a61 W64
    have zz65 : n0 ≤ Array.size h64 := Nat.le_trans zz62 (Nat.le_of_eq (Wr.size W64).symm)
    have kk65 : Keep h0 h64 [] := kk62.wr W64 (Or.inr b_rt)
    show own_Go p e below _ (T64.setTop (mkF m 178 #[.val (.ref ra), .val (.int (6 : Int32))] [(.ref rt)]))
    refine own_Go.st (fun _ kt => XS.dup X64.here hx rfl (hb hby own_d_method_4_178) rfl rfl kt) ?_
    show own_Go p e below _ (T64.setTop (mkF m 179 #[.val (.ref ra), .val (.int (6 : Int32))] [(.ref rt), (.ref rt)]))
    refine own_Go.st (fun _ kt => XS.iconst X64.here hx rfl (hb hby own_d_method_4_179) kt) ?_
    show own_Go p e below _ (T64.setTop (mkF m 180 #[.val (.ref ra), .val (.int (6 : Int32))] [(.int (2 : Int32)), (.ref rt), (.ref rt)]))
    refine own_Go.st (fun _ kt => XS.aloadN X64.here hx rfl (hb hby own_d_method_4_180) rfl rfl kt) ?_
    show own_Go p e below _ (T64.setTop (mkF m 181 #[.val (.ref ra), .val (.int (6 : Int32))] [(.ref ra), (.int (2 : Int32)), (.ref rt), (.ref rt)]))
    refine own_Go.st (fun _ kt => XS.iconst X64.here hx rfl (hb hby own_d_method_4_181) kt) ?_
    show own_Go p e below _ (T64.setTop (mkF m 182 #[.val (.ref ra), .val (.int (6 : Int32))] [(.int (2 : Int32)), (.ref ra), (.int (2 : Int32)), (.ref rt), (.ref rt)]))
    have f66 := (f63.other W64 ne_ra_rt)
    refine own_Go.st (fun _ kt => own_cald X64 hx hZ e64 f66 (i := 2) (by decide) (by decide) (v := (.int (f 2))) rfl (g := (mkF m 182 #[.val (.ref ra), .val (.int (6 : Int32))] [(.int (2 : Int32)), (.ref ra), (.int (2 : Int32)), (.ref rt), (.ref rt)])) rfl rfl (hb hby own_d_method_4_182) _ kt) ?_
    show own_Go p e below _ (T64.setTop (mkF m 183 #[.val (.ref ra), .val (.int (6 : Int32))] [(.int (f 2)), (.int (2 : Int32)), (.ref rt), (.ref rt)]))
    obtain ⟨T67, h67, X67, e67, W67, st67⟩ := own_cast X64 hx hZ e64 a64 (i := 2) (by decide) (by decide) (own_nar_char (hf 2 (by decide))) (g := (mkF m 183 #[.val (.ref ra), .val (.int (6 : Int32))] [(.int (f 2)), (.int (2 : Int32)), (.ref rt), (.ref rt)])) rfl rfl (hb hby own_d_method_4_183)
    refine own_Go.st st67 ?_
    have N67 := Fr.snoc X67 N64 n0_rt
    have a67 := own_Ar.set a64 W67
    have zz68 : n0 ≤ Array.size h67 := Nat.le_trans zz65 (Nat.le_of_eq (Wr.size W67).symm)
    have kk68 : Keep h0 h67 [] := kk65.wr W67 (Or.inr b_rt)
    show own_Go p e below _ (T67.setTop (mkF m 184 #[.val (.ref ra), .val (.int (6 : Int32))] [(.ref rt)]))
    refine own_Go.st (fun _ kt => XS.dup X67.here hx rfl (hb hby own_d_method_4_184) rfl rfl kt) ?_
    show own_Go p e below _ (T67.setTop (mkF m 185 #[.val (.ref ra), .val (.int (6 : Int32))] [(.ref rt), (.ref rt)]))
    refine own_Go.st (fun _ kt => XS.iconst X67.here hx rfl (hb hby own_d_method_4_185) kt) ?_
    show own_Go p e below _ (T67.setTop (mkF m 186 #[.val (.ref ra), .val (.int (6 : Int32))] [(.int (3 : Int32)), (.ref rt), (.ref rt)]))
    refine own_Go.st (fun _ kt => XS.aloadN X67.here hx rfl (hb hby own_d_method_4_186) rfl rfl kt) ?_
    show own_Go p e below _ (T67.setTop (mkF m 187 #[.val (.ref ra), .val (.int (6 : Int32))] [(.ref ra), (.int (3 : Int32)), (.ref rt), (.ref rt)]))
    refine own_Go.st (fun _ kt => XS.iconst X67.here hx rfl (hb hby own_d_method_4_187) kt) ?_
    show own_Go p e below _ (T67.setTop (mkF m 188 #[.val (.ref ra), .val (.int (6 : Int32))] [(.int (3 : Int32)), (.ref ra), (.int (3 : Int32)), (.ref rt), (.ref rt)]))
    have f69 := (f66.other W67 ne_ra_rt)
    refine own_Go.st (fun _ kt => own_cald X67 hx hZ e67 f69 (i := 3) (by decide) (by decide) (v := (.int (f 3))) rfl (g := (mkF m 188 #[.val (.ref ra), .val (.int (6 : Int32))] [(.int (3 : Int32)), (.ref ra), (.int (3 : Int32)), (.ref rt), (.ref rt)])) rfl rfl (hb hby own_d_method_4_188) _ kt) ?_
    show own_Go p e below _ (T67.setTop (mkF m 189 #[.val (.ref ra), .val (.int (6 : Int32))] [(.int (f 3)), (.int (3 : Int32)), (.ref rt), (.ref rt)]))
    obtain ⟨T70, h70, X70, e70, W70, st70⟩ := own_cast X67 hx hZ e67 a67 (i := 3) (by decide) (by decide) (own_nar_char (hf 3 (by decide))) (g := (mkF m 189 #[.val (.ref ra), .val (.int (6 : Int32))] [(.int (f 3)), (.int (3 : Int32)), (.ref rt), (.ref rt)])) rfl rfl (hb hby own_d_method_4_189)
    refine own_Go.st st70 ?_
    have N70 := Fr.snoc X70 N67 n0_rt
    have a70 := own_Ar.set a67 W70
    have zz71 : n0 ≤ Array.size h70 := Nat.le_trans zz68 (Nat.le_of_eq (Wr.size W70).symm)
    have kk71 : Keep h0 h70 [] := kk68.wr W70 (Or.inr b_rt)
    show own_Go p e below _ (T70.setTop (mkF m 190 #[.val (.ref ra), .val (.int (6 : Int32))] [(.ref rt)]))
    refine own_Go.st (fun _ kt => XS.dup X70.here hx rfl (hb hby own_d_method_4_190) rfl rfl kt) ?_
    show own_Go p e below _ (T70.setTop (mkF m 191 #[.val (.ref ra), .val (.int (6 : Int32))] [(.ref rt), (.ref rt)]))
    refine own_Go.st (fun _ kt => XS.iconst X70.here hx rfl (hb hby own_d_method_4_191) kt) ?_
    show own_Go p e below _ (T70.setTop (mkF m 192 #[.val (.ref ra), .val (.int (6 : Int32))] [(.int (4 : Int32)), (.ref rt), (.ref rt)]))
    refine own_Go.st (fun _ kt => XS.aloadN X70.here hx rfl (hb hby own_d_method_4_192) rfl rfl kt) ?_
    show own_Go p e below _ (T70.setTop (mkF m 193 #[.val (.ref ra), .val (.int (6 : Int32))] [(.ref ra), (.int (4 : Int32)), (.ref rt), (.ref rt)]))
    refine own_Go.st (fun _ kt => XS.iconst X70.here hx rfl (hb hby own_d_method_4_193) kt) ?_
    show own_Go p e below _ (T70.setTop (mkF m 194 #[.val (.ref ra), .val (.int (6 : Int32))] [(.int (4 : Int32)), (.ref ra), (.int (4 : Int32)), (.ref rt), (.ref rt)]))
    have f72 := (f69.other W70 ne_ra_rt)
    refine own_Go.st (fun _ kt => own_cald X70 hx hZ e70 f72 (i := 4) (by decide) (by decide) (v := (.int (f 4))) rfl (g := (mkF m 194 #[.val (.ref ra), .val (.int (6 : Int32))] [(.int (4 : Int32)), (.ref ra), (.int (4 : Int32)), (.ref rt), (.ref rt)])) rfl rfl (hb hby own_d_method_4_194) _ kt) ?_
    show own_Go p e below _ (T70.setTop (mkF m 195 #[.val (.ref ra), .val (.int (6 : Int32))] [(.int (f 4)), (.int (4 : Int32)), (.ref rt), (.ref rt)]))
    obtain ⟨T73, h73, X73, e73, W73, st73⟩ := own_cast X70 hx hZ e70 a70 (i := 4) (by decide) (by decide) (own_nar_char (hf 4 (by decide))) (g := (mkF m 195 #[.val (.ref ra), .val (.int (6 : Int32))] [(.int (f 4)), (.int (4 : Int32)), (.ref rt), (.ref rt)])) rfl rfl (hb hby own_d_method_4_195)
    refine own_Go.st st73 ?_
    have N73 := Fr.snoc X73 N70 n0_rt
    have a73 := own_Ar.set a70 W73
    have zz74 : n0 ≤ Array.size h73 := Nat.le_trans zz71 (Nat.le_of_eq (Wr.size W73).symm)
    have kk74 : Keep h0 h73 [] := kk71.wr W73 (Or.inr b_rt)
    show own_Go p e below _ (T73.setTop (mkF m 196 #[.val (.ref ra), .val (.int (6 : Int32))] [(.ref rt)]))
    refine own_Go.st (fun _ kt => XS.dup X73.here hx rfl (hb hby own_d_method_4_196) rfl rfl kt) ?_
    show own_Go p e below _ (T73.setTop (mkF m 197 #[.val (.ref ra), .val (.int (6 : Int32))] [(.ref rt), (.ref rt)]))
    refine own_Go.st (fun _ kt => XS.iconst X73.here hx rfl (hb hby own_d_method_4_197) kt) ?_
    show own_Go p e below _ (T73.setTop (mkF m 198 #[.val (.ref ra), .val (.int (6 : Int32))] [(.int (5 : Int32)), (.ref rt), (.ref rt)]))
    refine own_Go.st (fun _ kt => XS.aloadN X73.here hx rfl (hb hby own_d_method_4_198) rfl rfl kt) ?_
    show own_Go p e below _ (T73.setTop (mkF m 199 #[.val (.ref ra), .val (.int (6 : Int32))] [(.ref ra), (.int (5 : Int32)), (.ref rt), (.ref rt)]))
    refine own_Go.st (fun _ kt => XS.iconst X73.here hx rfl (hb hby own_d_method_4_199) kt) ?_
    show own_Go p e below _ (T73.setTop (mkF m 200 #[.val (.ref ra), .val (.int (6 : Int32))] [(.int (5 : Int32)), (.ref ra), (.int (5 : Int32)), (.ref rt), (.ref rt)]))
    have f75 := (f72.other W73 ne_ra_rt)
    refine own_Go.st (fun _ kt => own_cald X73 hx hZ e73 f75 (i := 5) (by decide) (by decide) (v := (.int (f 5))) rfl (g := (mkF m 200 #[.val (.ref ra), .val (.int (6 : Int32))] [(.int (5 : Int32)), (.ref ra), (.int (5 : Int32)), (.ref rt), (.ref rt)])) rfl rfl (hb hby own_d_method_4_200) _ kt) ?_
    show own_Go p e below _ (T73.setTop (mkF m 201 #[.val (.ref ra), .val (.int (6 : Int32))] [(.int (f 5)), (.int (5 : Int32)), (.ref rt), (.ref rt)]))
    obtain ⟨T76, h76, X76, e76, W76, st76⟩ := own_cast X73 hx hZ e73 a73 (i := 5) (by decide) (by decide) (own_nar_char (hf 5 (by decide))) (g := (mkF m 201 #[.val (.ref ra), .val (.int (6 : Int32))] [(.int (f 5)), (.int (5 : Int32)), (.ref rt), (.ref rt)])) rfl rfl (hb hby own_d_method_4_201)
    refine own_Go.st st76 ?_
    have N76 := Fr.snoc X76 N73 n0_rt
    have a76 := own_Ar.set a73 W76
    have zz77 : n0 ≤ Array.size h76 := Nat.le_trans zz74 (Nat.le_of_eq (Wr.size W76).symm)
    have kk77 : Keep h0 h76 [] := kk74.wr W76 (Or.inr b_rt)
    show own_Go p e below _ (T76.setTop (mkF m 202 #[.val (.ref ra), .val (.int (6 : Int32))] [(.ref rt)]))
    have fin : own_Ar Z h76 rt .char 6 (fun j => .int (f j)) := a76.congr fun j hj => by
      have : j = 0 ∨ j = 1 ∨ j = 2 ∨ j = 3 ∨ j = 4 ∨ j = 5 := by omega
      rcases this with rfl | rfl | rfl | rfl | rfl | rfl <;> rfl
    have kk := kk77
    rw [← e76] at fin kk
    exact own_retA X76 hx Bd.notSynchronized Bd.returns rfl rfl (hb hby own_d_method_4_202) (by decide) (by decide) ⟨rt, rfl, N76, fin, n0_rt, b_rt, kk⟩
  · obtain rfl : xn = 7 := own_i32 hn
    show own_Go p e below _ (s₁.setTop (mkF m 0 #[.val (.ref ra), .val (.int (7 : Int32))] []))
    refine own_Go.st (fun _ kt => XS.iloadN X0.here hx rfl (hb hby own_d_method_4_0) rfl kt) ?_
    show own_Go p e below _ (s₁.setTop (mkF m 1 #[.val (.ref ra), .val (.int (7 : Int32))] [(.int (7 : Int32))]))
    refine own_Go.st (fun _ kt => XS.tswIn X0.here hx rfl (pc0 := 1) (pc' := 203) rfl (hb hby own_d_method_4_1) rfl (by decide) (o := 202) rfl (by decide) (by decide) kt) ?_
    show own_Go p e below _ (s₁.setTop (mkF m 203 #[.val (.ref ra), .val (.int (7 : Int32))] []))
    refine own_Go.st (fun _ kt => XS.bipush X0.here hx rfl (hb hby own_d_method_4_203) kt) ?_
    show own_Go p e below _ (s₁.setTop (mkF m 205 #[.val (.ref ra), .val (.int (7 : Int32))] [(.int (7 : Int32))]))
    obtain ⟨T78, h78, k78, X78, e78, E78, A78, st78⟩ := newP X0 hx hZ (hw _ (List.mem_of_getElem? (i := 0) rfl)) e0 (g := (mkF m 205 #[.val (.ref ra), .val (.int (7 : Int32))] [(.int (7 : Int32))])) rfl (hb hby own_d_method_4_205) rfl (by decide) (cap := 8) (by decide) (by decide) (by decide) (by decide)
    obtain ⟨rt, g78⟩ : ∃ z, z = Array.size h0 := ⟨_, rfl⟩
    rw [← g78] at A78 st78
    refine own_Go.st st78 ?_
    have ne_ra_rt : ra ≠ rt := Nat.ne_of_lt (Nat.lt_of_lt_of_le (aa).lt (Nat.le_of_eq g78.symm))
    have n0_rt : n0 ≤ rt := Nat.le_trans Z0 (Nat.le_of_eq g78.symm)
    have b_rt : Array.size h0 ≤ rt := Nat.le_trans kk0.1 (Nat.le_of_eq g78.symm)
    have zz79 : n0 ≤ Array.size h78 := Nat.le_trans Z0 E78.1
    have kk79 : Keep h0 h78 [] := kk0.ext E78
    show own_Go p e below _ (T78.setTop (mkF m 207 #[.val (.ref ra), .val (.int (7 : Int32))] [(.ref rt)]))
    have at0 := own_Ar.new A78 (n := 7) (by decide)
    refine own_Go.st (fun _ kt => XS.dup X78.here hx rfl (hb hby own_d_method_4_207) rfl rfl kt) ?_
    show own_Go p e below _ (T78.setTop (mkF m 208 #[.val (.ref ra), .val (.int (7 : Int32))] [(.ref rt), (.ref rt)]))
    refine own_Go.st (fun _ kt => XS.iconst X78.here hx rfl (hb hby own_d_method_4_208) kt) ?_
    show own_Go p e below _ (T78.setTop (mkF m 209 #[.val (.ref ra), .val (.int (7 : Int32))] [(.int (0 : Int32)), (.ref rt), (.ref rt)]))
    refine own_Go.st (fun _ kt => XS.aloadN X78.here hx rfl (hb hby own_d_method_4_209) rfl rfl kt) ?_
    show own_Go p e below _ (T78.setTop (mkF m 210 #[.val (.ref ra), .val (.int (7 : Int32))] [(.ref ra), (.int (0 : Int32)), (.ref rt), (.ref rt)]))
    refine own_Go.st (fun _ kt => XS.iconst X78.here hx rfl (hb hby own_d_method_4_210) kt) ?_
    show own_Go p e below _ (T78.setTop (mkF m 211 #[.val (.ref ra), .val (.int (7 : Int32))] [(.int (0 : Int32)), (.ref ra), (.int (0 : Int32)), (.ref rt), (.ref rt)]))
    have f80 := (aa.ext E78)
    refine own_Go.st (fun _ kt => own_cald X78 hx hZ e78 f80 (i := 0) (by decide) (by decide) (v := (.int (f 0))) rfl (g := (mkF m 211 #[.val (.ref ra), .val (.int (7 : Int32))] [(.int (0 : Int32)), (.ref ra), (.int (0 : Int32)), (.ref rt), (.ref rt)])) rfl rfl (hb hby own_d_method_4_211) _ kt) ?_
    show own_Go p e below _ (T78.setTop (mkF m 212 #[.val (.ref ra), .val (.int (7 : Int32))] [(.int (f 0)), (.int (0 : Int32)), (.ref rt), (.ref rt)]))
    obtain ⟨T81, h81, X81, e81, W81, st81⟩ := own_cast X78 hx hZ e78 at0 (i := 0) (by decide) (by decide) (own_nar_char (hf 0 (by decide))) (g := (mkF m 212 #[.val (.ref ra), .val (.int (7 : Int32))] [(.int (f 0)), (.int (0 : Int32)), (.ref rt), (.ref rt)])) rfl rfl (hb hby own_d_method_4_212)
    refine own_Go.st st81 ?_
    have N81 := Fr.snoc X81 N0 n0_rt
    have a81 := own_Ar.set at0 W81
    have zz82 : n0 ≤ Array.size h81 := Nat.le_trans zz79 (Nat.le_of_eq (Wr.size W81).symm)
    have kk82 : Keep h0 h81 [] := kk79.wr W81 (Or.inr b_rt)
    show own_Go p e below _ (T81.setTop (mkF m 213 #[.val (.ref ra), .val (.int (7 : Int32))] [(.ref rt)]))
    refine own_Go.st (fun _ kt => XS.dup X81.here hx rfl (hb hby own_d_method_4_213) rfl rfl kt) ?_
    show own_Go p e below _ (T81.setTop (mkF m 214 #[.val (.ref ra), .val (.int (7 : Int32))] [(.ref rt), (.ref rt)]))
    refine own_Go.st (fun _ kt => XS.iconst X81.here hx rfl (hb hby own_d_method_4_214) kt) ?_
    show own_Go p e below _ (T81.setTop (mkF m 215 #[.val (.ref ra), .val (.int (7 : Int32))] [(.int (1 : Int32)), (.ref rt), (.ref rt)]))
    refine own_Go.st (fun _ kt => XS.aloadN X81.here hx rfl (hb hby own_d_method_4_215) rfl rfl kt) ?_
    show own_Go p e below _ (T81.setTop (mkF m 216 #[.val (.ref ra), .val (.int (7 : Int32))] [(.ref ra), (.int (1 : Int32)), (.ref rt), (.ref rt)]))
    refine own_Go.st (fun _ kt => XS.iconst X81.here hx rfl (hb hby own_d_method_4_216) kt) ?_
    show own_Go p e below _ (T81.setTop (mkF m 217 #[.val (.ref ra), .val (.int (7 : Int32))] [(.int (1 : Int32)), (.ref ra), (.int (1 : Int32)), (.ref rt), (.ref rt)]))
    have f83 := (f80.other W81 ne_ra_rt)
    refine own_Go.st (fun _ kt => own_cald X81 hx hZ e81 f83 (i := 1) (by decide) (by decide) (v := (.int (f 1))) rfl (g := (mkF m 217 #[.val (.ref ra), .val (.int (7 : Int32))] [(.int (1 : Int32)), (.ref ra), (.int (1 : Int32)), (.ref rt), (.ref rt)])) rfl rfl (hb hby own_d_method_4_217) _ kt) ?_
    show own_Go p e below _ (T81.setTop (mkF m 218 #[.val (.ref ra), .val (.int (7 : Int32))] [(.int (f 1)), (.int (1 : Int32)), (.ref rt), (.ref rt)]))
    obtain ⟨T84, h84, X84, e84, W84, st84⟩ := own_cast X81 hx hZ e81 a81 (i := 1) (by decide) (by decide) (own_nar_char (hf 1 (by decide))) (g := (mkF m 218 #[.val (.ref ra), .val (.int (7 : Int32))] [(.int (f 1)), (.int (1 : Int32)), (.ref rt), (.ref rt)])) rfl rfl (hb hby own_d_method_4_218)
    refine own_Go.st st84 ?_
    have N84 := Fr.snoc X84 N81 n0_rt
    have a84 := own_Ar.set a81 W84
    have zz85 : n0 ≤ Array.size h84 := Nat.le_trans zz82 (Nat.le_of_eq (Wr.size W84).symm)
    have kk85 : Keep h0 h84 [] := kk82.wr W84 (Or.inr b_rt)
    show own_Go p e below _ (T84.setTop (mkF m 219 #[.val (.ref ra), .val (.int (7 : Int32))] [(.ref rt)]))
    refine own_Go.st (fun _ kt => XS.dup X84.here hx rfl (hb hby own_d_method_4_219) rfl rfl kt) ?_
    show own_Go p e below _ (T84.setTop (mkF m 220 #[.val (.ref ra), .val (.int (7 : Int32))] [(.ref rt), (.ref rt)]))
    refine own_Go.st (fun _ kt => XS.iconst X84.here hx rfl (hb hby own_d_method_4_220) kt) ?_
    show own_Go p e below _ (T84.setTop (mkF m 221 #[.val (.ref ra), .val (.int (7 : Int32))] [(.int (2 : Int32)), (.ref rt), (.ref rt)]))
    refine own_Go.st (fun _ kt => XS.aloadN X84.here hx rfl (hb hby own_d_method_4_221) rfl rfl kt) ?_
    show own_Go p e below _ (T84.setTop (mkF m 222 #[.val (.ref ra), .val (.int (7 : Int32))] [(.ref ra), (.int (2 : Int32)), (.ref rt), (.ref rt)]))
    refine own_Go.st (fun _ kt => XS.iconst X84.here hx rfl (hb hby own_d_method_4_222) kt) ?_
    show own_Go p e below _ (T84.setTop (mkF m 223 #[.val (.ref ra), .val (.int (7 : Int32))] [(.int (2 : Int32)), (.ref ra), (.int (2 : Int32)), (.ref rt), (.ref rt)]))
    have f86 := (f83.other W84 ne_ra_rt)
    refine own_Go.st (fun _ kt => own_cald X84 hx hZ e84 f86 (i := 2) (by decide) (by decide) (v := (.int (f 2))) rfl (g := (mkF m 223 #[.val (.ref ra), .val (.int (7 : Int32))] [(.int (2 : Int32)), (.ref ra), (.int (2 : Int32)), (.ref rt), (.ref rt)])) rfl rfl (hb hby own_d_method_4_223) _ kt) ?_
    show own_Go p e below _ (T84.setTop (mkF m 224 #[.val (.ref ra), .val (.int (7 : Int32))] [(.int (f 2)), (.int (2 : Int32)), (.ref rt), (.ref rt)]))
    obtain ⟨T87, h87, X87, e87, W87, st87⟩ := own_cast X84 hx hZ e84 a84 (i := 2) (by decide) (by decide) (own_nar_char (hf 2 (by decide))) (g := (mkF m 224 #[.val (.ref ra), .val (.int (7 : Int32))] [(.int (f 2)), (.int (2 : Int32)), (.ref rt), (.ref rt)])) rfl rfl (hb hby own_d_method_4_224)
    refine own_Go.st st87 ?_
    have N87 := Fr.snoc X87 N84 n0_rt
    have a87 := own_Ar.set a84 W87
    have zz88 : n0 ≤ Array.size h87 := Nat.le_trans zz85 (Nat.le_of_eq (Wr.size W87).symm)
    have kk88 : Keep h0 h87 [] := kk85.wr W87 (Or.inr b_rt)
    show own_Go p e below _ (T87.setTop (mkF m 225 #[.val (.ref ra), .val (.int (7 : Int32))] [(.ref rt)]))
    refine own_Go.st (fun _ kt => XS.dup X87.here hx rfl (hb hby own_d_method_4_225) rfl rfl kt) ?_
    show own_Go p e below _ (T87.setTop (mkF m 226 #[.val (.ref ra), .val (.int (7 : Int32))] [(.ref rt), (.ref rt)]))
    refine own_Go.st (fun _ kt => XS.iconst X87.here hx rfl (hb hby own_d_method_4_226) kt) ?_
    show own_Go p e below _ (T87.setTop (mkF m 227 #[.val (.ref ra), .val (.int (7 : Int32))] [(.int (3 : Int32)), (.ref rt), (.ref rt)]))
    refine own_Go.st (fun _ kt => XS.aloadN X87.here hx rfl (hb hby own_d_method_4_227) rfl rfl kt) ?_
    show own_Go p e below _ (T87.setTop (mkF m 228 #[.val (.ref ra), .val (.int (7 : Int32))] [(.ref ra), (.int (3 : Int32)), (.ref rt), (.ref rt)]))
    refine own_Go.st (fun _ kt => XS.iconst X87.here hx rfl (hb hby own_d_method_4_228) kt) ?_
    show own_Go p e below _ (T87.setTop (mkF m 229 #[.val (.ref ra), .val (.int (7 : Int32))] [(.int (3 : Int32)), (.ref ra), (.int (3 : Int32)), (.ref rt), (.ref rt)]))
    have f89 := (f86.other W87 ne_ra_rt)
    refine own_Go.st (fun _ kt => own_cald X87 hx hZ e87 f89 (i := 3) (by decide) (by decide) (v := (.int (f 3))) rfl (g := (mkF m 229 #[.val (.ref ra), .val (.int (7 : Int32))] [(.int (3 : Int32)), (.ref ra), (.int (3 : Int32)), (.ref rt), (.ref rt)])) rfl rfl (hb hby own_d_method_4_229) _ kt) ?_
    show own_Go p e below _ (T87.setTop (mkF m 230 #[.val (.ref ra), .val (.int (7 : Int32))] [(.int (f 3)), (.int (3 : Int32)), (.ref rt), (.ref rt)]))
    obtain ⟨T90, h90, X90, e90, W90, st90⟩ := own_cast X87 hx hZ e87 a87 (i := 3) (by decide) (by decide) (own_nar_char (hf 3 (by decide))) (g := (mkF m 230 #[.val (.ref ra), .val (.int (7 : Int32))] [(.int (f 3)), (.int (3 : Int32)), (.ref rt), (.ref rt)])) rfl rfl (hb hby own_d_method_4_230)
    refine own_Go.st st90 ?_
    have N90 := Fr.snoc X90 N87 n0_rt
    have a90 := own_Ar.set a87 W90
    have zz91 : n0 ≤ Array.size h90 := Nat.le_trans zz88 (Nat.le_of_eq (Wr.size W90).symm)
    have kk91 : Keep h0 h90 [] := kk88.wr W90 (Or.inr b_rt)
    show own_Go p e below _ (T90.setTop (mkF m 231 #[.val (.ref ra), .val (.int (7 : Int32))] [(.ref rt)]))
    refine own_Go.st (fun _ kt => XS.dup X90.here hx rfl (hb hby own_d_method_4_231) rfl rfl kt) ?_
    show own_Go p e below _ (T90.setTop (mkF m 232 #[.val (.ref ra), .val (.int (7 : Int32))] [(.ref rt), (.ref rt)]))
    refine own_Go.st (fun _ kt => XS.iconst X90.here hx rfl (hb hby own_d_method_4_232) kt) ?_
    show own_Go p e below _ (T90.setTop (mkF m 233 #[.val (.ref ra), .val (.int (7 : Int32))] [(.int (4 : Int32)), (.ref rt), (.ref rt)]))
    refine own_Go.st (fun _ kt => XS.aloadN X90.here hx rfl (hb hby own_d_method_4_233) rfl rfl kt) ?_
    show own_Go p e below _ (T90.setTop (mkF m 234 #[.val (.ref ra), .val (.int (7 : Int32))] [(.ref ra), (.int (4 : Int32)), (.ref rt), (.ref rt)]))
    refine own_Go.st (fun _ kt => XS.iconst X90.here hx rfl (hb hby own_d_method_4_234) kt) ?_
    show own_Go p e below _ (T90.setTop (mkF m 235 #[.val (.ref ra), .val (.int (7 : Int32))] [(.int (4 : Int32)), (.ref ra), (.int (4 : Int32)), (.ref rt), (.ref rt)]))
    have f92 := (f89.other W90 ne_ra_rt)
    refine own_Go.st (fun _ kt => own_cald X90 hx hZ e90 f92 (i := 4) (by decide) (by decide) (v := (.int (f 4))) rfl (g := (mkF m 235 #[.val (.ref ra), .val (.int (7 : Int32))] [(.int (4 : Int32)), (.ref ra), (.int (4 : Int32)), (.ref rt), (.ref rt)])) rfl rfl (hb hby own_d_method_4_235) _ kt) ?_
    show own_Go p e below _ (T90.setTop (mkF m 236 #[.val (.ref ra), .val (.int (7 : Int32))] [(.int (f 4)), (.int (4 : Int32)), (.ref rt), (.ref rt)]))
    obtain ⟨T93, h93, X93, e93, W93, st93⟩ := own_cast X90 hx hZ e90 a90 (i := 4) (by decide) (by decide) (own_nar_char (hf 4 (by decide))) (g := (mkF m 236 #[.val (.ref ra), .val (.int (7 : Int32))] [(.int (f 4)), (.int (4 : Int32)), (.ref rt), (.ref rt)])) rfl rfl (hb hby own_d_method_4_236)
    refine own_Go.st st93 ?_
    have N93 := Fr.snoc X93 N90 n0_rt
    have a93 := own_Ar.set a90 W93
    have zz94 : n0 ≤ Array.size h93 := Nat.le_trans zz91 (Nat.le_of_eq (Wr.size W93).symm)
    have kk94 : Keep h0 h93 [] := kk91.wr W93 (Or.inr b_rt)
    show own_Go p e below _ (T93.setTop (mkF m 237 #[.val (.ref ra), .val (.int (7 : Int32))] [(.ref rt)]))
    refine own_Go.st (fun _ kt => XS.dup X93.here hx rfl (hb hby own_d_method_4_237) rfl rfl kt) ?_
    show own_Go p e below _ (T93.setTop (mkF m 238 #[.val (.ref ra), .val (.int (7 : Int32))] [(.ref rt), (.ref rt)]))
    refine own_Go.st (fun _ kt => XS.iconst X93.here hx rfl (hb hby own_d_method_4_238) kt) ?_
    show own_Go p e below _ (T93.setTop (mkF m 239 #[.val (.ref ra), .val (.int (7 : Int32))] [(.int (5 : Int32)), (.ref rt), (.ref rt)]))
    refine own_Go.st (fun _ kt => XS.aloadN X93.here hx rfl (hb hby own_d_method_4_239) rfl rfl kt) ?_
    show own_Go p e below _ (T93.setTop (mkF m 240 #[.val (.ref ra), .val (.int (7 : Int32))] [(.ref ra), (.int (5 : Int32)), (.ref rt), (.ref rt)]))
    refine own_Go.st (fun _ kt => XS.iconst X93.here hx rfl (hb hby own_d_method_4_240) kt) ?_
    show own_Go p e below _ (T93.setTop (mkF m 241 #[.val (.ref ra), .val (.int (7 : Int32))] [(.int (5 : Int32)), (.ref ra), (.int (5 : Int32)), (.ref rt), (.ref rt)]))
    have f95 := (f92.other W93 ne_ra_rt)
    refine own_Go.st (fun _ kt => own_cald X93 hx hZ e93 f95 (i := 5) (by decide) (by decide) (v := (.int (f 5))) rfl (g := (mkF m 241 #[.val (.ref ra), .val (.int (7 : Int32))] [(.int (5 : Int32)), (.ref ra), (.int (5 : Int32)), (.ref rt), (.ref rt)])) rfl rfl (hb hby own_d_method_4_241) _ kt) ?_
    show own_Go p e below _ (T93.setTop (mkF m 242 #[.val (.ref ra), .val (.int (7 : Int32))] [(.int (f 5)), (.int (5 : Int32)), (.ref rt), (.ref rt)]))
    obtain ⟨T96, h96, X96, e96, W96, st96⟩ := own_cast X93 hx hZ e93 a93 (i := 5) (by decide) (by decide) (own_nar_char (hf 5 (by decide))) (g := (mkF m 242 #[.val (.ref ra), .val (.int (7 : Int32))] [(.int (f 5)), (.int (5 : Int32)), (.ref rt), (.ref rt)])) rfl rfl (hb hby own_d_method_4_242)
    refine own_Go.st st96 ?_
    have N96 := Fr.snoc X96 N93 n0_rt
    have a96 := own_Ar.set a93 W96
    have zz97 : n0 ≤ Array.size h96 := Nat.le_trans zz94 (Nat.le_of_eq (Wr.size W96).symm)
    have kk97 : Keep h0 h96 [] := kk94.wr W96 (Or.inr b_rt)
    show own_Go p e below _ (T96.setTop (mkF m 243 #[.val (.ref ra), .val (.int (7 : Int32))] [(.ref rt)]))
    refine own_Go.st (fun _ kt => XS.dup X96.here hx rfl (hb hby own_d_method_4_243) rfl rfl kt) ?_
    show own_Go p e below _ (T96.setTop (mkF m 244 #[.val (.ref ra), .val (.int (7 : Int32))] [(.ref rt), (.ref rt)]))
    refine own_Go.st (fun _ kt => XS.bipush X96.here hx rfl (hb hby own_d_method_4_244) kt) ?_
    show own_Go p e below _ (T96.setTop (mkF m 246 #[.val (.ref ra), .val (.int (7 : Int32))] [(.int (6 : Int32)), (.ref rt), (.ref rt)]))
    refine own_Go.st (fun _ kt => XS.aloadN X96.here hx rfl (hb hby own_d_method_4_246) rfl rfl kt) ?_
    show own_Go p e below _ (T96.setTop (mkF m 247 #[.val (.ref ra), .val (.int (7 : Int32))] [(.ref ra), (.int (6 : Int32)), (.ref rt), (.ref rt)]))
    refine own_Go.st (fun _ kt => XS.bipush X96.here hx rfl (hb hby own_d_method_4_247) kt) ?_
    show own_Go p e below _ (T96.setTop (mkF m 249 #[.val (.ref ra), .val (.int (7 : Int32))] [(.int (6 : Int32)), (.ref ra), (.int (6 : Int32)), (.ref rt), (.ref rt)]))
    have f98 := (f95.other W96 ne_ra_rt)
    refine own_Go.st (fun _ kt => own_cald X96 hx hZ e96 f98 (i := 6) (by decide) (by decide) (v := (.int (f 6))) rfl (g := (mkF m 249 #[.val (.ref ra), .val (.int (7 : Int32))] [(.int (6 : Int32)), (.ref ra), (.int (6 : Int32)), (.ref rt), (.ref rt)])) rfl rfl (hb hby own_d_method_4_249) _ kt) ?_
    show own_Go p e below _ (T96.setTop (mkF m 250 #[.val (.ref ra), .val (.int (7 : Int32))] [(.int (f 6)), (.int (6 : Int32)), (.ref rt), (.ref rt)]))
    obtain ⟨T99, h99, X99, e99, W99, st99⟩ := own_cast X96 hx hZ e96 a96 (i := 6) (by decide) (by decide) (own_nar_char (hf 6 (by decide))) (g := (mkF m 250 #[.val (.ref ra), .val (.int (7 : Int32))] [(.int (f 6)), (.int (6 : Int32)), (.ref rt), (.ref rt)])) rfl rfl (hb hby own_d_method_4_250)
    refine own_Go.st st99 ?_
    have N99 := Fr.snoc X99 N96 n0_rt
    have a99 := own_Ar.set a96 W99
    have zz100 : n0 ≤ Array.size h99 := Nat.le_trans zz97 (Nat.le_of_eq (Wr.size W99).symm)
    have kk100 : Keep h0 h99 [] := kk97.wr W99 (Or.inr b_rt)
    show own_Go p e below _ (T99.setTop (mkF m 251 #[.val (.ref ra), .val (.int (7 : Int32))] [(.ref rt)]))
    have fin : own_Ar Z h99 rt .char 7 (fun j => .int (f j)) := a99.congr fun j hj => by
      have : j = 0 ∨ j = 1 ∨ j = 2 ∨ j = 3 ∨ j = 4 ∨ j = 5 ∨ j = 6 := by omega
      rcases this with rfl | rfl | rfl | rfl | rfl | rfl | rfl <;> rfl
    have kk := kk100
    rw [← e99] at fin kk
    exact own_retA X99 hx Bd.notSynchronized Bd.returns rfl rfl (hb hby own_d_method_4_251) (by decide) (by decide) ⟨rt, rfl, N99, fin, n0_rt, b_rt, kk⟩
  · obtain rfl : xn = 8 := own_i32 hn
    show own_Go p e below _ (s₁.setTop (mkF m 0 #[.val (.ref ra), .val (.int (8 : Int32))] []))
    refine own_Go.st (fun _ kt => XS.iloadN X0.here hx rfl (hb hby own_d_method_4_0) rfl kt) ?_
    show own_Go p e below _ (s₁.setTop (mkF m 1 #[.val (.ref ra), .val (.int (8 : Int32))] [(.int (8 : Int32))]))
    refine own_Go.st (fun _ kt => XS.tswOut X0.here hx rfl (pc0 := 1) (pc' := 252) rfl (hb hby own_d_method_4_1) rfl (by decide) (by decide) (by decide) kt) ?_
    show own_Go p e below _ (s₁.setTop (mkF m 252 #[.val (.ref ra), .val (.int (8 : Int32))] []))
    refine own_Go.st (fun _ kt => XS.bipush X0.here hx rfl (hb hby own_d_method_4_252) kt) ?_
    show own_Go p e below _ (s₁.setTop (mkF m 254 #[.val (.ref ra), .val (.int (8 : Int32))] [(.int (8 : Int32))]))
    obtain ⟨T101, h101, k101, X101, e101, E101, A101, st101⟩ := newP X0 hx hZ (hw _ (List.mem_of_getElem? (i := 0) rfl)) e0 (g := (mkF m 254 #[.val (.ref ra), .val (.int (8 : Int32))] [(.int (8 : Int32))])) rfl (hb hby own_d_method_4_254) rfl (by decide) (cap := 8) (by decide) (by decide) (by decide) (by decide)
    obtain ⟨rt, g101⟩ : ∃ z, z = Array.size h0 := ⟨_, rfl⟩
    rw [← g101] at A101 st101
    refine own_Go.st st101 ?_
    have ne_ra_rt : ra ≠ rt := Nat.ne_of_lt (Nat.lt_of_lt_of_le (aa).lt (Nat.le_of_eq g101.symm))
    have n0_rt : n0 ≤ rt := Nat.le_trans Z0 (Nat.le_of_eq g101.symm)
    have b_rt : Array.size h0 ≤ rt := Nat.le_trans kk0.1 (Nat.le_of_eq g101.symm)
    have zz102 : n0 ≤ Array.size h101 := Nat.le_trans Z0 E101.1
    have kk102 : Keep h0 h101 [] := kk0.ext E101
    show own_Go p e below _ (T101.setTop (mkF m 256 #[.val (.ref ra), .val (.int (8 : Int32))] [(.ref rt)]))
    have at0 := own_Ar.new A101 (n := 8) (by decide)
    refine own_Go.st (fun _ kt => XS.dup X101.here hx rfl (hb hby own_d_method_4_256) rfl rfl kt) ?_
    show own_Go p e below _ (T101.setTop (mkF m 257 #[.val (.ref ra), .val (.int (8 : Int32))] [(.ref rt), (.ref rt)]))
    refine own_Go.st (fun _ kt => XS.iconst X101.here hx rfl (hb hby own_d_method_4_257) kt) ?_
    show own_Go p e below _ (T101.setTop (mkF m 258 #[.val (.ref ra), .val (.int (8 : Int32))] [(.int (0 : Int32)), (.ref rt), (.ref rt)]))
    refine own_Go.st (fun _ kt => XS.aloadN X101.here hx rfl (hb hby own_d_method_4_258) rfl rfl kt) ?_
    show own_Go p e below _ (T101.setTop (mkF m 259 #[.val (.ref ra), .val (.int (8 : Int32))] [(.ref ra), (.int (0 : Int32)), (.ref rt), (.ref rt)]))
    refine own_Go.st (fun _ kt => XS.iconst X101.here hx rfl (hb hby own_d_method_4_259) kt) ?_
    show own_Go p e below _ (T101.setTop (mkF m 260 #[.val (.ref ra), .val (.int (8 : Int32))] [(.int (0 : Int32)), (.ref ra), (.int (0 : Int32)), (.ref rt), (.ref rt)]))
    have f103 := (aa.ext E101)
    refine own_Go.st (fun _ kt => own_cald X101 hx hZ e101 f103 (i := 0) (by decide) (by decide) (v := (.int (f 0))) rfl (g := (mkF m 260 #[.val (.ref ra), .val (.int (8 : Int32))] [(.int (0 : Int32)), (.ref ra), (.int (0 : Int32)), (.ref rt), (.ref rt)])) rfl rfl (hb hby own_d_method_4_260) _ kt) ?_
    show own_Go p e below _ (T101.setTop (mkF m 261 #[.val (.ref ra), .val (.int (8 : Int32))] [(.int (f 0)), (.int (0 : Int32)), (.ref rt), (.ref rt)]))
    obtain ⟨T104, h104, X104, e104, W104, st104⟩ := own_cast X101 hx hZ e101 at0 (i := 0) (by decide) (by decide) (own_nar_char (hf 0 (by decide))) (g := (mkF m 261 #[.val (.ref ra), .val (.int (8 : Int32))] [(.int (f 0)), (.int (0 : Int32)), (.ref rt), (.ref rt)])) rfl rfl (hb hby own_d_method_4_261)
    refine own_Go.st st104 ?_
    have N104 := Fr.snoc X104 N0 n0_rt
    have a104 := own_Ar.set at0 W104
    have zz105 : n0 ≤ Array.size h104 := Nat.le_trans zz102 (Nat.le_of_eq (Wr.size W104).symm)
    have kk105 : Keep h0 h104 [] := kk102.wr W104 (Or.inr b_rt)
    show own_Go p e below _ (T104.setTop (mkF m 262 #[.val (.ref ra), .val (.int (8 : Int32))] [(.ref rt)]))
    refine own_Go.st (fun _ kt => XS.dup X104.here hx rfl (hb hby own_d_method_4_262) rfl rfl kt) ?_
    show own_Go p e below _ (T104.setTop (mkF m 263 #[.val (.ref ra), .val (.int (8 : Int32))] [(.ref rt), (.ref rt)]))
    refine own_Go.st (fun _ kt => XS.iconst X104.here hx rfl (hb hby own_d_method_4_263) kt) ?_
    show own_Go p e below _ (T104.setTop (mkF m 264 #[.val (.ref ra), .val (.int (8 : Int32))] [(.int (1 : Int32)), (.ref rt), (.ref rt)]))
    refine own_Go.st (fun _ kt => XS.aloadN X104.here hx rfl (hb hby own_d_method_4_264) rfl rfl kt) ?_
    show own_Go p e below _ (T104.setTop (mkF m 265 #[.val (.ref ra), .val (.int (8 : Int32))] [(.ref ra), (.int (1 : Int32)), (.ref rt), (.ref rt)]))
    refine own_Go.st (fun _ kt => XS.iconst X104.here hx rfl (hb hby own_d_method_4_265) kt) ?_
    show own_Go p e below _ (T104.setTop (mkF m 266 #[.val (.ref ra), .val (.int (8 : Int32))] [(.int (1 : Int32)), (.ref ra), (.int (1 : Int32)), (.ref rt), (.ref rt)]))
    have f106 := (f103.other W104 ne_ra_rt)
    refine own_Go.st (fun _ kt => own_cald X104 hx hZ e104 f106 (i := 1) (by decide) (by decide) (v := (.int (f 1))) rfl (g := (mkF m 266 #[.val (.ref ra), .val (.int (8 : Int32))] [(.int (1 : Int32)), (.ref ra), (.int (1 : Int32)), (.ref rt), (.ref rt)])) rfl rfl (hb hby own_d_method_4_266) _ kt) ?_
    show own_Go p e below _ (T104.setTop (mkF m 267 #[.val (.ref ra), .val (.int (8 : Int32))] [(.int (f 1)), (.int (1 : Int32)), (.ref rt), (.ref rt)]))
    obtain ⟨T107, h107, X107, e107, W107, st107⟩ := own_cast X104 hx hZ e104 a104 (i := 1) (by decide) (by decide) (own_nar_char (hf 1 (by decide))) (g := (mkF m 267 #[.val (.ref ra), .val (.int (8 : Int32))] [(.int (f 1)), (.int (1 : Int32)), (.ref rt), (.ref rt)])) rfl rfl (hb hby own_d_method_4_267)
    refine own_Go.st st107 ?_
    have N107 := Fr.snoc X107 N104 n0_rt
    have a107 := own_Ar.set a104 W107
    have zz108 : n0 ≤ Array.size h107 := Nat.le_trans zz105 (Nat.le_of_eq (Wr.size W107).symm)
    have kk108 : Keep h0 h107 [] := kk105.wr W107 (Or.inr b_rt)
    show own_Go p e below _ (T107.setTop (mkF m 268 #[.val (.ref ra), .val (.int (8 : Int32))] [(.ref rt)]))
    refine own_Go.st (fun _ kt => XS.dup X107.here hx rfl (hb hby own_d_method_4_268) rfl rfl kt) ?_
    show own_Go p e below _ (T107.setTop (mkF m 269 #[.val (.ref ra), .val (.int (8 : Int32))] [(.ref rt), (.ref rt)]))
    refine own_Go.st (fun _ kt => XS.iconst X107.here hx rfl (hb hby own_d_method_4_269) kt) ?_
    show own_Go p e below _ (T107.setTop (mkF m 270 #[.val (.ref ra), .val (.int (8 : Int32))] [(.int (2 : Int32)), (.ref rt), (.ref rt)]))
    refine own_Go.st (fun _ kt => XS.aloadN X107.here hx rfl (hb hby own_d_method_4_270) rfl rfl kt) ?_
    show own_Go p e below _ (T107.setTop (mkF m 271 #[.val (.ref ra), .val (.int (8 : Int32))] [(.ref ra), (.int (2 : Int32)), (.ref rt), (.ref rt)]))
    refine own_Go.st (fun _ kt => XS.iconst X107.here hx rfl (hb hby own_d_method_4_271) kt) ?_
    show own_Go p e below _ (T107.setTop (mkF m 272 #[.val (.ref ra), .val (.int (8 : Int32))] [(.int (2 : Int32)), (.ref ra), (.int (2 : Int32)), (.ref rt), (.ref rt)]))
    have f109 := (f106.other W107 ne_ra_rt)
    refine own_Go.st (fun _ kt => own_cald X107 hx hZ e107 f109 (i := 2) (by decide) (by decide) (v := (.int (f 2))) rfl (g := (mkF m 272 #[.val (.ref ra), .val (.int (8 : Int32))] [(.int (2 : Int32)), (.ref ra), (.int (2 : Int32)), (.ref rt), (.ref rt)])) rfl rfl (hb hby own_d_method_4_272) _ kt) ?_
    show own_Go p e below _ (T107.setTop (mkF m 273 #[.val (.ref ra), .val (.int (8 : Int32))] [(.int (f 2)), (.int (2 : Int32)), (.ref rt), (.ref rt)]))
    obtain ⟨T110, h110, X110, e110, W110, st110⟩ := own_cast X107 hx hZ e107 a107 (i := 2) (by decide) (by decide) (own_nar_char (hf 2 (by decide))) (g := (mkF m 273 #[.val (.ref ra), .val (.int (8 : Int32))] [(.int (f 2)), (.int (2 : Int32)), (.ref rt), (.ref rt)])) rfl rfl (hb hby own_d_method_4_273)
    refine own_Go.st st110 ?_
    have N110 := Fr.snoc X110 N107 n0_rt
    have a110 := own_Ar.set a107 W110
    have zz111 : n0 ≤ Array.size h110 := Nat.le_trans zz108 (Nat.le_of_eq (Wr.size W110).symm)
    have kk111 : Keep h0 h110 [] := kk108.wr W110 (Or.inr b_rt)
    show own_Go p e below _ (T110.setTop (mkF m 274 #[.val (.ref ra), .val (.int (8 : Int32))] [(.ref rt)]))
    refine own_Go.st (fun _ kt => XS.dup X110.here hx rfl (hb hby own_d_method_4_274) rfl rfl kt) ?_
    show own_Go p e below _ (T110.setTop (mkF m 275 #[.val (.ref ra), .val (.int (8 : Int32))] [(.ref rt), (.ref rt)]))
    refine own_Go.st (fun _ kt => XS.iconst X110.here hx rfl (hb hby own_d_method_4_275) kt) ?_
    show own_Go p e below _ (T110.setTop (mkF m 276 #[.val (.ref ra), .val (.int (8 : Int32))] [(.int (3 : Int32)), (.ref rt), (.ref rt)]))
    refine own_Go.st (fun _ kt => XS.aloadN X110.here hx rfl (hb hby own_d_method_4_276) rfl rfl kt) ?_
    show own_Go p e below _ (T110.setTop (mkF m 277 #[.val (.ref ra), .val (.int (8 : Int32))] [(.ref ra), (.int (3 : Int32)), (.ref rt), (.ref rt)]))
    refine own_Go.st (fun _ kt => XS.iconst X110.here hx rfl (hb hby own_d_method_4_277) kt) ?_
    show own_Go p e below _ (T110.setTop (mkF m 278 #[.val (.ref ra), .val (.int (8 : Int32))] [(.int (3 : Int32)), (.ref ra), (.int (3 : Int32)), (.ref rt), (.ref rt)]))
    have f112 := (f109.other W110 ne_ra_rt)
    refine own_Go.st (fun _ kt => own_cald X110 hx hZ e110 f112 (i := 3) (by decide) (by decide) (v := (.int (f 3))) rfl (g := (mkF m 278 #[.val (.ref ra), .val (.int (8 : Int32))] [(.int (3 : Int32)), (.ref ra), (.int (3 : Int32)), (.ref rt), (.ref rt)])) rfl rfl (hb hby own_d_method_4_278) _ kt) ?_
    show own_Go p e below _ (T110.setTop (mkF m 279 #[.val (.ref ra), .val (.int (8 : Int32))] [(.int (f 3)), (.int (3 : Int32)), (.ref rt), (.ref rt)]))
    obtain ⟨T113, h113, X113, e113, W113, st113⟩ := own_cast X110 hx hZ e110 a110 (i := 3) (by decide) (by decide) (own_nar_char (hf 3 (by decide))) (g := (mkF m 279 #[.val (.ref ra), .val (.int (8 : Int32))] [(.int (f 3)), (.int (3 : Int32)), (.ref rt), (.ref rt)])) rfl rfl (hb hby own_d_method_4_279)
    refine own_Go.st st113 ?_
    have N113 := Fr.snoc X113 N110 n0_rt
    have a113 := own_Ar.set a110 W113
    have zz114 : n0 ≤ Array.size h113 := Nat.le_trans zz111 (Nat.le_of_eq (Wr.size W113).symm)
    have kk114 : Keep h0 h113 [] := kk111.wr W113 (Or.inr b_rt)
    show own_Go p e below _ (T113.setTop (mkF m 280 #[.val (.ref ra), .val (.int (8 : Int32))] [(.ref rt)]))
    refine own_Go.st (fun _ kt => XS.dup X113.here hx rfl (hb hby own_d_method_4_280) rfl rfl kt) ?_
    show own_Go p e below _ (T113.setTop (mkF m 281 #[.val (.ref ra), .val (.int (8 : Int32))] [(.ref rt), (.ref rt)]))
    refine own_Go.st (fun _ kt => XS.iconst X113.here hx rfl (hb hby own_d_method_4_281) kt) ?_
    show own_Go p e below _ (T113.setTop (mkF m 282 #[.val (.ref ra), .val (.int (8 : Int32))] [(.int (4 : Int32)), (.ref rt), (.ref rt)]))
    refine own_Go.st (fun _ kt => XS.aloadN X113.here hx rfl (hb hby own_d_method_4_282) rfl rfl kt) ?_
    show own_Go p e below _ (T113.setTop (mkF m 283 #[.val (.ref ra), .val (.int (8 : Int32))] [(.ref ra), (.int (4 : Int32)), (.ref rt), (.ref rt)]))
    refine own_Go.st (fun _ kt => XS.iconst X113.here hx rfl (hb hby own_d_method_4_283) kt) ?_
    show own_Go p e below _ (T113.setTop (mkF m 284 #[.val (.ref ra), .val (.int (8 : Int32))] [(.int (4 : Int32)), (.ref ra), (.int (4 : Int32)), (.ref rt), (.ref rt)]))
    have f115 := (f112.other W113 ne_ra_rt)
    refine own_Go.st (fun _ kt => own_cald X113 hx hZ e113 f115 (i := 4) (by decide) (by decide) (v := (.int (f 4))) rfl (g := (mkF m 284 #[.val (.ref ra), .val (.int (8 : Int32))] [(.int (4 : Int32)), (.ref ra), (.int (4 : Int32)), (.ref rt), (.ref rt)])) rfl rfl (hb hby own_d_method_4_284) _ kt) ?_
    show own_Go p e below _ (T113.setTop (mkF m 285 #[.val (.ref ra), .val (.int (8 : Int32))] [(.int (f 4)), (.int (4 : Int32)), (.ref rt), (.ref rt)]))
    obtain ⟨T116, h116, X116, e116, W116, st116⟩ := own_cast X113 hx hZ e113 a113 (i := 4) (by decide) (by decide) (own_nar_char (hf 4 (by decide))) (g := (mkF m 285 #[.val (.ref ra), .val (.int (8 : Int32))] [(.int (f 4)), (.int (4 : Int32)), (.ref rt), (.ref rt)])) rfl rfl (hb hby own_d_method_4_285)
    refine own_Go.st st116 ?_
    have N116 := Fr.snoc X116 N113 n0_rt
    have a116 := own_Ar.set a113 W116
    have zz117 : n0 ≤ Array.size h116 := Nat.le_trans zz114 (Nat.le_of_eq (Wr.size W116).symm)
    have kk117 : Keep h0 h116 [] := kk114.wr W116 (Or.inr b_rt)
    show own_Go p e below _ (T116.setTop (mkF m 286 #[.val (.ref ra), .val (.int (8 : Int32))] [(.ref rt)]))
    refine own_Go.st (fun _ kt => XS.dup X116.here hx rfl (hb hby own_d_method_4_286) rfl rfl kt) ?_
    show own_Go p e below _ (T116.setTop (mkF m 287 #[.val (.ref ra), .val (.int (8 : Int32))] [(.ref rt), (.ref rt)]))
    refine own_Go.st (fun _ kt => XS.iconst X116.here hx rfl (hb hby own_d_method_4_287) kt) ?_
    show own_Go p e below _ (T116.setTop (mkF m 288 #[.val (.ref ra), .val (.int (8 : Int32))] [(.int (5 : Int32)), (.ref rt), (.ref rt)]))
    refine own_Go.st (fun _ kt => XS.aloadN X116.here hx rfl (hb hby own_d_method_4_288) rfl rfl kt) ?_
    show own_Go p e below _ (T116.setTop (mkF m 289 #[.val (.ref ra), .val (.int (8 : Int32))] [(.ref ra), (.int (5 : Int32)), (.ref rt), (.ref rt)]))
    refine own_Go.st (fun _ kt => XS.iconst X116.here hx rfl (hb hby own_d_method_4_289) kt) ?_
    show own_Go p e below _ (T116.setTop (mkF m 290 #[.val (.ref ra), .val (.int (8 : Int32))] [(.int (5 : Int32)), (.ref ra), (.int (5 : Int32)), (.ref rt), (.ref rt)]))
    have f118 := (f115.other W116 ne_ra_rt)
    refine own_Go.st (fun _ kt => own_cald X116 hx hZ e116 f118 (i := 5) (by decide) (by decide) (v := (.int (f 5))) rfl (g := (mkF m 290 #[.val (.ref ra), .val (.int (8 : Int32))] [(.int (5 : Int32)), (.ref ra), (.int (5 : Int32)), (.ref rt), (.ref rt)])) rfl rfl (hb hby own_d_method_4_290) _ kt) ?_
    show own_Go p e below _ (T116.setTop (mkF m 291 #[.val (.ref ra), .val (.int (8 : Int32))] [(.int (f 5)), (.int (5 : Int32)), (.ref rt), (.ref rt)]))
    obtain ⟨T119, h119, X119, e119, W119, st119⟩ := own_cast X116 hx hZ e116 a116 (i := 5) (by decide) (by decide) (own_nar_char (hf 5 (by decide))) (g := (mkF m 291 #[.val (.ref ra), .val (.int (8 : Int32))] [(.int (f 5)), (.int (5 : Int32)), (.ref rt), (.ref rt)])) rfl rfl (hb hby own_d_method_4_291)
    refine own_Go.st st119 ?_
    have N119 := Fr.snoc X119 N116 n0_rt
    have a119 := own_Ar.set a116 W119
    have zz120 : n0 ≤ Array.size h119 := Nat.le_trans zz117 (Nat.le_of_eq (Wr.size W119).symm)
    have kk120 : Keep h0 h119 [] := kk117.wr W119 (Or.inr b_rt)
    show own_Go p e below _ (T119.setTop (mkF m 292 #[.val (.ref ra), .val (.int (8 : Int32))] [(.ref rt)]))
    refine own_Go.st (fun _ kt => XS.dup X119.here hx rfl (hb hby own_d_method_4_292) rfl rfl kt) ?_
    show own_Go p e below _ (T119.setTop (mkF m 293 #[.val (.ref ra), .val (.int (8 : Int32))] [(.ref rt), (.ref rt)]))
    refine own_Go.st (fun _ kt => XS.bipush X119.here hx rfl (hb hby own_d_method_4_293) kt) ?_
    show own_Go p e below _ (T119.setTop (mkF m 295 #[.val (.ref ra), .val (.int (8 : Int32))] [(.int (6 : Int32)), (.ref rt), (.ref rt)]))
    refine own_Go.st (fun _ kt => XS.aloadN X119.here hx rfl (hb hby own_d_method_4_295) rfl rfl kt) ?_
    show own_Go p e below _ (T119.setTop (mkF m 296 #[.val (.ref ra), .val (.int (8 : Int32))] [(.ref ra), (.int (6 : Int32)), (.ref rt), (.ref rt)]))
    refine own_Go.st (fun _ kt => XS.bipush X119.here hx rfl (hb hby own_d_method_4_296) kt) ?_
    show own_Go p e below _ (T119.setTop (mkF m 298 #[.val (.ref ra), .val (.int (8 : Int32))] [(.int (6 : Int32)), (.ref ra), (.int (6 : Int32)), (.ref rt), (.ref rt)]))
    have f121 := (f118.other W119 ne_ra_rt)
    refine own_Go.st (fun _ kt => own_cald X119 hx hZ e119 f121 (i := 6) (by decide) (by decide) (v := (.int (f 6))) rfl (g := (mkF m 298 #[.val (.ref ra), .val (.int (8 : Int32))] [(.int (6 : Int32)), (.ref ra), (.int (6 : Int32)), (.ref rt), (.ref rt)])) rfl rfl (hb hby own_d_method_4_298) _ kt) ?_
    show own_Go p e below _ (T119.setTop (mkF m 299 #[.val (.ref ra), .val (.int (8 : Int32))] [(.int (f 6)), (.int (6 : Int32)), (.ref rt), (.ref rt)]))
    obtain ⟨T122, h122, X122, e122, W122, st122⟩ := own_cast X119 hx hZ e119 a119 (i := 6) (by decide) (by decide) (own_nar_char (hf 6 (by decide))) (g := (mkF m 299 #[.val (.ref ra), .val (.int (8 : Int32))] [(.int (f 6)), (.int (6 : Int32)), (.ref rt), (.ref rt)])) rfl rfl (hb hby own_d_method_4_299)
    refine own_Go.st st122 ?_
    have N122 := Fr.snoc X122 N119 n0_rt
    have a122 := own_Ar.set a119 W122
    have zz123 : n0 ≤ Array.size h122 := Nat.le_trans zz120 (Nat.le_of_eq (Wr.size W122).symm)
    have kk123 : Keep h0 h122 [] := kk120.wr W122 (Or.inr b_rt)
    show own_Go p e below _ (T122.setTop (mkF m 300 #[.val (.ref ra), .val (.int (8 : Int32))] [(.ref rt)]))
    refine own_Go.st (fun _ kt => XS.dup X122.here hx rfl (hb hby own_d_method_4_300) rfl rfl kt) ?_
    show own_Go p e below _ (T122.setTop (mkF m 301 #[.val (.ref ra), .val (.int (8 : Int32))] [(.ref rt), (.ref rt)]))
    refine own_Go.st (fun _ kt => XS.bipush X122.here hx rfl (hb hby own_d_method_4_301) kt) ?_
    show own_Go p e below _ (T122.setTop (mkF m 303 #[.val (.ref ra), .val (.int (8 : Int32))] [(.int (7 : Int32)), (.ref rt), (.ref rt)]))
    refine own_Go.st (fun _ kt => XS.aloadN X122.here hx rfl (hb hby own_d_method_4_303) rfl rfl kt) ?_
    show own_Go p e below _ (T122.setTop (mkF m 304 #[.val (.ref ra), .val (.int (8 : Int32))] [(.ref ra), (.int (7 : Int32)), (.ref rt), (.ref rt)]))
    refine own_Go.st (fun _ kt => XS.bipush X122.here hx rfl (hb hby own_d_method_4_304) kt) ?_
    show own_Go p e below _ (T122.setTop (mkF m 306 #[.val (.ref ra), .val (.int (8 : Int32))] [(.int (7 : Int32)), (.ref ra), (.int (7 : Int32)), (.ref rt), (.ref rt)]))
    have f124 := (f121.other W122 ne_ra_rt)
    refine own_Go.st (fun _ kt => own_cald X122 hx hZ e122 f124 (i := 7) (by decide) (by decide) (v := (.int (f 7))) rfl (g := (mkF m 306 #[.val (.ref ra), .val (.int (8 : Int32))] [(.int (7 : Int32)), (.ref ra), (.int (7 : Int32)), (.ref rt), (.ref rt)])) rfl rfl (hb hby own_d_method_4_306) _ kt) ?_
    show own_Go p e below _ (T122.setTop (mkF m 307 #[.val (.ref ra), .val (.int (8 : Int32))] [(.int (f 7)), (.int (7 : Int32)), (.ref rt), (.ref rt)]))
    obtain ⟨T125, h125, X125, e125, W125, st125⟩ := own_cast X122 hx hZ e122 a122 (i := 7) (by decide) (by decide) (own_nar_char (hf 7 (by decide))) (g := (mkF m 307 #[.val (.ref ra), .val (.int (8 : Int32))] [(.int (f 7)), (.int (7 : Int32)), (.ref rt), (.ref rt)])) rfl rfl (hb hby own_d_method_4_307)
    refine own_Go.st st125 ?_
    have N125 := Fr.snoc X125 N122 n0_rt
    have a125 := own_Ar.set a122 W125
    have zz126 : n0 ≤ Array.size h125 := Nat.le_trans zz123 (Nat.le_of_eq (Wr.size W125).symm)
    have kk126 : Keep h0 h125 [] := kk123.wr W125 (Or.inr b_rt)
    show own_Go p e below _ (T125.setTop (mkF m 308 #[.val (.ref ra), .val (.int (8 : Int32))] [(.ref rt)]))
    have fin : own_Ar Z h125 rt .char 8 (fun j => .int (f j)) := a125.congr fun j hj => by
      have : j = 0 ∨ j = 1 ∨ j = 2 ∨ j = 3 ∨ j = 4 ∨ j = 5 ∨ j = 6 ∨ j = 7 := by omega
      rcases this with rfl | rfl | rfl | rfl | rfl | rfl | rfl | rfl <;> rfl
    have kk := kk126
    rw [← e125] at fin kk
    exact own_retA X125 hx Bd.notSynchronized Bd.returns rfl rfl (hb hby own_d_method_4_308) (by decide) (by decide) ⟨rt, rfl, N125, fin, n0_rt, b_rt, kk⟩
theorem own_pn1 : plainName "java/lang/StringUTF16" = true := by first | (simp [plainName, overriddenIn]; done) | decide +kernel
theorem own_ef3 (m : MethodId) (x0 : Addr) (x1 : Int32) (x2 : Addr) (x3 : Int32) (x4 : Int32) : entryFrame m #[(.ref x0), (.int x1), (.ref x2), (.int x3), (.int x4)] 7 = mkF m 0 #[.val (.ref x0), .val (.int x1), .val (.ref x2), .val (.int x3), .val (.int x4), .unset, .unset] [] := by first | (simp [entryFrame, mkF, argsToLocals, Value.category]; done) | rfl
theorem own_d_jdk_52_21_0 : decode jdk_52_method_21_code 0 = .ok (.iconst 0, 1) := by decide +kernel
theorem own_d_jdk_52_21_1 : decode jdk_52_method_21_code 1 = .ok (.istore 5, 2) := by decide +kernel
theorem own_d_jdk_52_21_3 : decode jdk_52_method_21_code 3 = .ok (.iload 5, 2) := by decide +kernel
theorem own_d_jdk_52_21_5 : decode jdk_52_method_21_code 5 = .ok (.iload 4, 2) := by decide +kernel
theorem own_d_jdk_52_21_7 : decode jdk_52_method_21_code 7 = .ok (.if_icmp .ge 37, 3) := by decide +kernel
theorem own_d_jdk_52_21_10 : decode jdk_52_method_21_code 10 = .ok (.aload_n 0, 1) := by decide +kernel
theorem own_d_jdk_52_21_11 : decode jdk_52_method_21_code 11 = .ok (.iload_n 1, 1) := by decide +kernel
theorem own_d_jdk_52_21_12 : decode jdk_52_method_21_code 12 = .ok (.caload, 1) := by decide +kernel
theorem own_d_jdk_52_21_13 : decode jdk_52_method_21_code 13 = .ok (.istore 6, 2) := by decide +kernel
theorem own_d_jdk_52_21_15 : decode jdk_52_method_21_code 15 = .ok (.iload 6, 2) := by decide +kernel
theorem own_d_jdk_52_21_17 : decode jdk_52_method_21_code 17 = .ok (.sipush 255, 3) := by decide +kernel
theorem own_d_jdk_52_21_20 : decode jdk_52_method_21_code 20 = .ok (.if_icmp .le 6, 3) := by decide +kernel
theorem own_d_jdk_52_21_26 : decode jdk_52_method_21_code 26 = .ok (.aload_n 2, 1) := by decide +kernel
theorem own_d_jdk_52_21_27 : decode jdk_52_method_21_code 27 = .ok (.iload_n 3, 1) := by decide +kernel
theorem own_d_jdk_52_21_28 : decode jdk_52_method_21_code 28 = .ok (.iload 6, 2) := by decide +kernel
theorem own_d_jdk_52_21_30 : decode jdk_52_method_21_code 30 = .ok (.i2b, 1) := by decide +kernel
theorem own_d_jdk_52_21_31 : decode jdk_52_method_21_code 31 = .ok (.bastore, 1) := by decide +kernel
theorem own_d_jdk_52_21_32 : decode jdk_52_method_21_code 32 = .ok (.iinc 1 1, 3) := by decide +kernel
theorem own_d_jdk_52_21_35 : decode jdk_52_method_21_code 35 = .ok (.iinc 3 1, 3) := by decide +kernel
theorem own_d_jdk_52_21_38 : decode jdk_52_method_21_code 38 = .ok (.iinc 5 1, 3) := by decide +kernel
theorem own_d_jdk_52_21_41 : decode jdk_52_method_21_code 41 = .ok (.goto (-38), 3) := by decide +kernel
theorem own_d_jdk_52_21_44 : decode jdk_52_method_21_code 44 = .ok (.iload 4, 2) := by decide +kernel
theorem own_d_jdk_52_21_46 : decode jdk_52_method_21_code 46 = .ok (.ireturn, 1) := by decide +kernel
def own_Q_own_cmp (Z : State) (rc rb : Addr) (xn : Int32) (n : Nat) (f : Nat → Int32) (fb : Nat → Value) (h0 : Heap) (n0 : Nat) (v : Option Value) (h : Heap) (L : List Loc) : Prop := v = some (.int xn) ∧ Fr n0 L ∧ own_Ar Z h rb .byte n (fun j => .int ((f j).toInt8.toInt32)) ∧ Keep h0 h [rb]
set_option maxRecDepth 65536 in
set_option maxHeartbeats 40000000 in
theorem own_cmp (l : Launch) (Z : State) (a0 : Array Value) (hw : ∀ d ∈ tables_1, d.before a0 Z = true) (ws : List Jvm.Cond) (rc rb : Addr) (xn : Int32) (n : Nat) (f : Nat → Int32) (fb : Nat → Value) (h0 : Heap) (n0 : Nat) (Z0 : n0 ≤ h0.size) (ac : own_Ar Z h0 rc .char n (fun j => .int (f j))) (ab : own_Ar Z h0 rb .byte n fb) (hne : rc ≠ rb) (gb : n0 ≤ rb) (hn : xn.toInt = (n : Int)) (hl : n ≤ 8) (hf : ∀ j, j < n → own_C8 (f j)) :
    MetFree l (⟨"java/lang/StringUTF16", "compress", "([CI[BII)I"⟩ : MethodName) (head1 (Jvm.Cond.code (⟨"java/lang/StringUTF16", "compress", "([CI[BII)I"⟩ : MethodName) jdk_52_method_21_code 7 (some .int) :: ws) ({ frames := 0, cells := 0, slots := 0, locals := 0 } : Room)) (fun av_ U => av_ = #[(.ref rc), (.int (0 : Int32)), (.ref rb), (.int (0 : Int32)), (.int xn)] ∧ Z.Warmed39 U.vm ∧ U.heap = h0) (fun _ _ _ _ _ => True) (fun _ U o U' => ∃ v L, o = .returned v ∧ own_Q_own_cmp Z rc rb xn n f fb h0 n0 v U'.heap L ∧ FrameEnd U o U' L ({ frames := 0, cells := 0, slots := 0, locals := 0 } : Room).cells ({ frames := 0, cells := 0, slots := 0, locals := 0 } : Room).slots) := by
  refine MetFree.of_bodySF (plainFor_of_name own_pn1) hisR ?_
  intro p e s m args below meth c s₁ Bd hml0 hP hK
  obtain ⟨rfl, hZ, hh⟩ := hP
  have hx := Bd.exec
  have hby := Bd.bytes
  have hml : c.maxLocals = 7 := hml0
  have hown : s.vm.findClass "java/lang/StringUTF16" = some m.cls := findClass_of_methodNamed Bd.named
  have hnm := (name_of_methodNamed Bd.named Bd.method).1
  have X0 : Stand p l e ({ frames := 0, cells := 0, slots := 0, locals := 0 } : Room) s m #[(.ref rc), (.int (0 : Int32)), (.ref rb), (.int (0 : Int32)), (.int xn)] below meth c s₁ [] 0 0 := Stand.of_body Bd
  have e0 : s₁.heap = h0 := by rw [← hh, Bd.state]; rfl
  have N0 := Fr.nil n0
  suffices hgo : own_Go p e below (fun o U' => ∃ v L, o = .returned v ∧ own_Q_own_cmp Z rc rb xn n f fb h0 n0 v U'.heap L ∧ FrameEnd s o U' L ({ frames := 0, cells := 0, slots := 0, locals := 0 } : Room).cells ({ frames := 0, cells := 0, slots := 0, locals := 0 } : Room).slots) (s₁.setTop (mkF m 0 #[.val (.ref rc), .val (.int (0 : Int32)), .val (.ref rb), .val (.int (0 : Int32)), .val (.int xn), .unset, .unset] [])) by
    obtain ⟨s₂, o, h1, h2, h3, h4⟩ := hgo
    exact ⟨s₂, o, castTop (own_ef3 m rc (0 : Int32) rb (0 : Int32) xn) h1, h2, h3, h4⟩
  have kk0 : Keep h0 h0 [rb] := Keep.refl _ _
  show own_Go p e below _ (s₁.setTop (mkF m 0 #[.val (.ref rc), .val (.int (0 : Int32)), .val (.ref rb), .val (.int (0 : Int32)), .val (.int xn), .unset, .unset] []))
  refine own_Go.st (fun _ kt => XS.iconst X0.here hx rfl (hb hby own_d_jdk_52_21_0) kt) ?_
  show own_Go p e below _ (s₁.setTop (mkF m 1 #[.val (.ref rc), .val (.int (0 : Int32)), .val (.ref rb), .val (.int (0 : Int32)), .val (.int xn), .unset, .unset] [(.int (0 : Int32))]))
  refine own_Go.st (fun _ kt => XS.istore X0.here hx rfl (hb hby own_d_jdk_52_21_1) rfl (l' := #[.val (.ref rc), .val (.int (0 : Int32)), .val (.ref rb), .val (.int (0 : Int32)), .val (.int xn), .val (.int (0 : Int32)), .unset]) rfl kt) ?_
  show own_Go p e below _ (s₁.setTop (mkF m 3 #[.val (.ref rc), .val (.int (0 : Int32)), .val (.ref rb), .val (.int (0 : Int32)), .val (.int xn), .val (.int (0 : Int32)), .unset] []))
  have LO : ∀ (td : Nat) (T1 : State) (lc1 : List Loc) (h1 : Heap) (X1 : Stand p l e ({ frames := 0, cells := 0, slots := 0, locals := 0 } : Room) s m #[(.ref rc), (.int (0 : Int32)), (.ref rb), (.int (0 : Int32)), (.int xn)] below meth c T1 lc1 0 0) (e1 : T1.heap = h1) (N1 : Fr n0 lc1) (i : Nat) (x1 : Int32) (x3 : Int32) (x5 : Int32) (s6 : Slot) (hs6 : s6 = .unset ∨ ∃ y6, s6 = .val (.int y6)) (ht : i + td = n) (i1 : x1.toInt = (i : Int)) (i3 : x3.toInt = (i : Int)) (i5 : x5.toInt = (i : Int)) (ac : own_Ar Z h1 rc .char n (fun j => .int (f j))) (ab : own_Ar Z h1 rb .byte n (fun j => if j < i then Value.int ((f j).toInt8.toInt32) else fb j)) (zz : n0 ≤ Array.size h1) (kk : Keep h0 h1 [rb]), own_Go p e below (fun o U' => ∃ v L, o = .returned v ∧ own_Q_own_cmp Z rc rb xn n f fb h0 n0 v U'.heap L ∧ FrameEnd s o U' L ({ frames := 0, cells := 0, slots := 0, locals := 0 } : Room).cells ({ frames := 0, cells := 0, slots := 0, locals := 0 } : Room).slots) (T1.setTop (mkF m 3 #[.val (.ref rc), .val (.int x1), .val (.ref rb), .val (.int x3), .val (.int xn), .val (.int x5), s6] [])) := by
    intro td
    induction td using Nat.strongRecOn with
    | ind td IH =>
      intro T1 lc1 h1 X1 e1 N1 i x1 x3 x5 s6 hs6 ht i1 i3 i5 ac ab zz kk
      show own_Go p e below _ (T1.setTop (mkF m 3 #[.val (.ref rc), .val (.int x1), .val (.ref rb), .val (.int x3), .val (.int xn), .val (.int x5), s6] []))
      refine own_Go.st (fun _ kt => XS.iload X1.here hx rfl (hb hby own_d_jdk_52_21_3) rfl kt) ?_
      show own_Go p e below _ (T1.setTop (mkF m 5 #[.val (.ref rc), .val (.int x1), .val (.ref rb), .val (.int x3), .val (.int xn), .val (.int x5), s6] [(.int x5)]))
      refine own_Go.st (fun _ kt => XS.iload X1.here hx rfl (hb hby own_d_jdk_52_21_5) rfl kt) ?_
      show own_Go p e below _ (T1.setTop (mkF m 7 #[.val (.ref rc), .val (.int x1), .val (.ref rb), .val (.int x3), .val (.int xn), .val (.int x5), s6] [(.int xn), (.int x5)]))
      have hci : x5 < xn ↔ i < n := by rw [Int32.lt_iff_toInt_lt, i5, hn]; omega
      by_cases hc7 : x5 < xn
      · refine own_Go.st (fun _ kt => XS.icmpNo X1.here hx rfl (hb hby own_d_jdk_52_21_7) rfl (tlt hc7).2.1 kt) ?_
        show own_Go p e below _ (T1.setTop (mkF m 10 #[.val (.ref rc), .val (.int x1), .val (.ref rb), .val (.int x3), .val (.int xn), .val (.int x5), s6] []))
        refine own_Go.st (fun _ kt => XS.aloadN X1.here hx rfl (hb hby own_d_jdk_52_21_10) rfl rfl kt) ?_
        show own_Go p e below _ (T1.setTop (mkF m 11 #[.val (.ref rc), .val (.int x1), .val (.ref rb), .val (.int x3), .val (.int xn), .val (.int x5), s6] [(.ref rc)]))
        refine own_Go.st (fun _ kt => XS.iloadN X1.here hx rfl (hb hby own_d_jdk_52_21_11) rfl kt) ?_
        show own_Go p e below _ (T1.setTop (mkF m 12 #[.val (.ref rc), .val (.int x1), .val (.ref rb), .val (.int x3), .val (.int xn), .val (.int x5), s6] [(.int x1), (.ref rc)]))
        have hlt := hci.mp hc7
        refine own_Go.st (fun _ kt => own_cald X1 hx hZ e1 ac i1 hlt (v := (.int (f i))) rfl (g := (mkF m 12 #[.val (.ref rc), .val (.int x1), .val (.ref rb), .val (.int x3), .val (.int xn), .val (.int x5), s6] [(.int x1), (.ref rc)])) rfl rfl (hb hby own_d_jdk_52_21_12) _ kt) ?_
        show own_Go p e below _ (T1.setTop (mkF m 13 #[.val (.ref rc), .val (.int x1), .val (.ref rb), .val (.int x3), .val (.int xn), .val (.int x5), s6] [(.int (f i))]))
        refine own_Go.st (fun _ kt => XS.istore X1.here hx rfl (hb hby own_d_jdk_52_21_13) rfl (l' := #[.val (.ref rc), .val (.int x1), .val (.ref rb), .val (.int x3), .val (.int xn), .val (.int x5), .val (.int (f i))]) (by rcases hs6 with rfl | ⟨y6, rfl⟩ <;> rfl) kt) ?_
        show own_Go p e below _ (T1.setTop (mkF m 15 #[.val (.ref rc), .val (.int x1), .val (.ref rb), .val (.int x3), .val (.int xn), .val (.int x5), .val (.int (f i))] []))
        refine own_Go.st (fun _ kt => XS.iload X1.here hx rfl (hb hby own_d_jdk_52_21_15) rfl kt) ?_
        show own_Go p e below _ (T1.setTop (mkF m 17 #[.val (.ref rc), .val (.int x1), .val (.ref rb), .val (.int x3), .val (.int xn), .val (.int x5), .val (.int (f i))] [(.int (f i))]))
        refine own_Go.st (fun _ kt => XS.sipush X1.here hx rfl (hb hby own_d_jdk_52_21_17) kt) ?_
        show own_Go p e below _ (T1.setTop (mkF m 20 #[.val (.ref rc), .val (.int x1), .val (.ref rb), .val (.int x3), .val (.int xn), .val (.int x5), .val (.int (f i))] [(.int (255 : Int32)), (.int (f i))]))
        have h8 : ¬ (255 : Int32) < f i := by rw [Int32.lt_iff_toInt_lt, show (255 : Int32).toInt = 255 by decide]; have := hf i hlt; unfold own_C8 at this; omega
        refine own_Go.st (fun _ kt => XS.icmpYes X1.here hx rfl (pc0 := 20) (pc' := 26) rfl (hb hby own_d_jdk_52_21_20) rfl (flt h8).2.2.2 (by decide) (by decide) kt) ?_
        show own_Go p e below _ (T1.setTop (mkF m 26 #[.val (.ref rc), .val (.int x1), .val (.ref rb), .val (.int x3), .val (.int xn), .val (.int x5), .val (.int (f i))] []))
        refine own_Go.st (fun _ kt => XS.aloadN X1.here hx rfl (hb hby own_d_jdk_52_21_26) rfl rfl kt) ?_
        show own_Go p e below _ (T1.setTop (mkF m 27 #[.val (.ref rc), .val (.int x1), .val (.ref rb), .val (.int x3), .val (.int xn), .val (.int x5), .val (.int (f i))] [(.ref rb)]))
        refine own_Go.st (fun _ kt => XS.iloadN X1.here hx rfl (hb hby own_d_jdk_52_21_27) rfl kt) ?_
        show own_Go p e below _ (T1.setTop (mkF m 28 #[.val (.ref rc), .val (.int x1), .val (.ref rb), .val (.int x3), .val (.int xn), .val (.int x5), .val (.int (f i))] [(.int x3), (.ref rb)]))
        refine own_Go.st (fun _ kt => XS.iload X1.here hx rfl (hb hby own_d_jdk_52_21_28) rfl kt) ?_
        show own_Go p e below _ (T1.setTop (mkF m 30 #[.val (.ref rc), .val (.int x1), .val (.ref rb), .val (.int x3), .val (.int xn), .val (.int x5), .val (.int (f i))] [(.int (f i)), (.int x3), (.ref rb)]))
        refine own_Go.st (fun _ kt => XS.i2b X1.here hx rfl (hb hby own_d_jdk_52_21_30) rfl kt) ?_
        show own_Go p e below _ (T1.setTop (mkF m 31 #[.val (.ref rc), .val (.int x1), .val (.ref rb), .val (.int x3), .val (.int xn), .val (.int x5), .val (.int (f i))] [(.int ((f i).toInt8.toInt32)), (.int x3), (.ref rb)]))
        obtain ⟨T2, h2, X2, e2, W2, st2⟩ := own_bast X1 hx hZ e1 ab i3 hlt (own_nar_byte _) (g := (mkF m 31 #[.val (.ref rc), .val (.int x1), .val (.ref rb), .val (.int x3), .val (.int xn), .val (.int x5), .val (.int (f i))] [(.int ((f i).toInt8.toInt32)), (.int x3), (.ref rb)])) rfl rfl (hb hby own_d_jdk_52_21_31)
        refine own_Go.st st2 ?_
        have N2 := Fr.snoc X2 N1 gb
        have a2 := own_Ar.set ab W2
        have zz3 : n0 ≤ Array.size h2 := Nat.le_trans zz (Nat.le_of_eq (Wr.size W2).symm)
        have kk3 : Keep h0 h2 [rb] := kk.wr W2 (Or.inl (List.mem_of_getElem? (i := 0) rfl))
        show own_Go p e below _ (T2.setTop (mkF m 32 #[.val (.ref rc), .val (.int x1), .val (.ref rb), .val (.int x3), .val (.int xn), .val (.int x5), .val (.int (f i))] []))
        refine own_Go.st (fun _ kt => XS.iinc X2.here hx rfl (hb hby own_d_jdk_52_21_32) rfl (l' := #[.val (.ref rc), .val (.int (x1 + (1 : Int32))), .val (.ref rb), .val (.int x3), .val (.int xn), .val (.int x5), .val (.int (f i))]) rfl kt) ?_
        show own_Go p e below _ (T2.setTop (mkF m 35 #[.val (.ref rc), .val (.int (x1 + (1 : Int32))), .val (.ref rb), .val (.int x3), .val (.int xn), .val (.int x5), .val (.int (f i))] []))
        refine own_Go.st (fun _ kt => XS.iinc X2.here hx rfl (hb hby own_d_jdk_52_21_35) rfl (l' := #[.val (.ref rc), .val (.int (x1 + (1 : Int32))), .val (.ref rb), .val (.int (x3 + (1 : Int32))), .val (.int xn), .val (.int x5), .val (.int (f i))]) rfl kt) ?_
        show own_Go p e below _ (T2.setTop (mkF m 38 #[.val (.ref rc), .val (.int (x1 + (1 : Int32))), .val (.ref rb), .val (.int (x3 + (1 : Int32))), .val (.int xn), .val (.int x5), .val (.int (f i))] []))
        refine own_Go.st (fun _ kt => XS.iinc X2.here hx rfl (hb hby own_d_jdk_52_21_38) rfl (l' := #[.val (.ref rc), .val (.int (x1 + (1 : Int32))), .val (.ref rb), .val (.int (x3 + (1 : Int32))), .val (.int xn), .val (.int (x5 + (1 : Int32))), .val (.int (f i))]) rfl kt) ?_
        show own_Go p e below _ (T2.setTop (mkF m 41 #[.val (.ref rc), .val (.int (x1 + (1 : Int32))), .val (.ref rb), .val (.int (x3 + (1 : Int32))), .val (.int xn), .val (.int (x5 + (1 : Int32))), .val (.int (f i))] []))
        refine own_Go.st (fun _ kt => XS.goto X2.here hx rfl (pc0 := 41) (pc' := 3) rfl (hb hby own_d_jdk_52_21_41) (by decide) (by decide) kt) ?_
        show own_Go p e below _ (T2.setTop (mkF m 3 #[.val (.ref rc), .val (.int (x1 + (1 : Int32))), .val (.ref rb), .val (.int (x3 + (1 : Int32))), .val (.int xn), .val (.int (x5 + (1 : Int32))), .val (.int (f i))] []))
        have nb : own_Ar Z h2 rb .byte n (fun j => if j < i + 1 then Value.int ((f j).toInt8.toInt32) else fb j) := a2.congr fun j _ => own_cstep f fb i j
        have f4 := (ac.other W2 hne)
        exact IH (td - 1) (by omega) _ _ _ X2 e2 N2 (i + 1) _ _ _ _ (Or.inr ⟨_, rfl⟩) (by omega) (own_inc i1 (by omega)) (own_inc i3 (by omega)) (own_inc i5 (by omega)) f4 nb zz3 kk3
      · refine own_Go.st (fun _ kt => XS.icmpYes X1.here hx rfl (pc0 := 7) (pc' := 44) rfl (hb hby own_d_jdk_52_21_7) rfl (flt hc7).2.1 (by decide) (by decide) kt) ?_
        show own_Go p e below _ (T1.setTop (mkF m 44 #[.val (.ref rc), .val (.int x1), .val (.ref rb), .val (.int x3), .val (.int xn), .val (.int x5), s6] []))
        refine own_Go.st (fun _ kt => XS.iload X1.here hx rfl (hb hby own_d_jdk_52_21_44) rfl kt) ?_
        show own_Go p e below _ (T1.setTop (mkF m 46 #[.val (.ref rc), .val (.int x1), .val (.ref rb), .val (.int x3), .val (.int xn), .val (.int x5), s6] [(.int xn)]))
        have hge : i = n := by have := mt hci.mpr hc7; omega
        subst hge
        have fin := ab.congr (f' := fun j => .int ((f j).toInt8.toInt32)) (fun j hj => by simp [hj])
        rw [← e1] at fin kk
        exact own_retI X1 hx Bd.notSynchronized Bd.returns (hb hby own_d_jdk_52_21_46) (by decide) (by decide) ⟨rfl, N1, fin, kk⟩
  exact LO n _ _ _ X0 e0 N0 0 _ _ _ _ (Or.inl rfl) (by omega) (by decide) (by decide) (by decide) ac (ab.congr fun j _ => by simp) Z0 kk0
theorem own_ef4 (m : MethodId) (x0 : Addr) (x1 : Int32) (x2 : Int32) : entryFrame m #[(.ref x0), (.int x1), (.int x2)] 6 = mkF m 0 #[.val (.ref x0), .val (.int x1), .val (.int x2), .unset, .unset, .unset] [] := by first | (simp [entryFrame, mkF, argsToLocals, Value.category]; done) | rfl
theorem own_d_jdk_52_16_0 : decode jdk_52_method_16_code 0 = .ok (.iload_n 2, 1) := by decide +kernel
theorem own_d_jdk_52_16_1 : decode jdk_52_method_16_code 1 = .ok (.newarray .byte, 2) := by decide +kernel
theorem own_d_jdk_52_16_3 : decode jdk_52_method_16_code 3 = .ok (.astore_n 3, 1) := by decide +kernel
theorem own_d_jdk_52_16_4 : decode jdk_52_method_16_code 4 = .ok (.aload_n 0, 1) := by decide +kernel
theorem own_d_jdk_52_16_5 : decode jdk_52_method_16_code 5 = .ok (.iload_n 1, 1) := by decide +kernel
theorem own_d_jdk_52_16_6 : decode jdk_52_method_16_code 6 = .ok (.aload_n 3, 1) := by decide +kernel
theorem own_d_jdk_52_16_7 : decode jdk_52_method_16_code 7 = .ok (.iconst 0, 1) := by decide +kernel
theorem own_d_jdk_52_16_8 : decode jdk_52_method_16_code 8 = .ok (.iload_n 2, 1) := by decide +kernel
theorem own_d_jdk_52_16_9 : decode jdk_52_method_16_code 9 = .ok (.invokestatic 115, 3) := by decide +kernel
theorem own_pd0 : parseMethodDescriptor "([CI[BII)I" = some ⟨[(.array .char), .int, (.array .byte), .int, .int], some .int⟩ := by decide +kernel
theorem own_d_jdk_52_16_12 : decode jdk_52_method_16_code 12 = .ok (.istore 4, 2) := by decide +kernel
theorem own_d_jdk_52_16_14 : decode jdk_52_method_16_code 14 = .ok (.iload 4, 2) := by decide +kernel
theorem own_d_jdk_52_16_16 : decode jdk_52_method_16_code 16 = .ok (.iload_n 2, 1) := by decide +kernel
theorem own_d_jdk_52_16_17 : decode jdk_52_method_16_code 17 = .ok (.if_icmp .eq 40, 3) := by decide +kernel
theorem own_d_jdk_52_16_57 : decode jdk_52_method_16_code 57 = .ok (.aload_n 3, 1) := by decide +kernel
theorem own_d_jdk_52_16_58 : decode jdk_52_method_16_code 58 = .ok (.areturn, 1) := by decide +kernel
def own_Q_own_cmp2 (Z : State) (rc : Addr) (xn : Int32) (n : Nat) (f : Nat → Int32) (h0 : Heap) (n0 : Nat) (v : Option Value) (h : Heap) (L : List Loc) : Prop := ∃ rb, v = some (.ref rb) ∧ Fr n0 L ∧ own_Ar Z h rb .byte n (fun j => .int ((f j).toInt8.toInt32)) ∧ Array.size h0 ≤ rb ∧ Keep h0 h []
set_option maxRecDepth 65536 in
set_option maxHeartbeats 40000000 in
theorem own_cmp2 (l : Launch) (Z : State) (a0 : Array Value) (hw : ∀ d ∈ tables_1, d.before a0 Z = true) (ws : List Jvm.Cond) (rc : Addr) (xn : Int32) (n : Nat) (f : Nat → Int32) (h0 : Heap) (n0 : Nat) (Z0 : n0 ≤ h0.size) (ac : own_Ar Z h0 rc .char n (fun j => .int (f j))) (hn : xn.toInt = (n : Int)) (hl : n ≤ 8) (hf : ∀ j, j < n → own_C8 (f j)) :
    MetFree l (⟨"java/lang/StringUTF16", "compress", "([CII)[B"⟩ : MethodName) (head1 (Jvm.Cond.code (⟨"java/lang/StringUTF16", "compress", "([CII)[B"⟩ : MethodName) jdk_52_method_16_code 6 (some (.array .byte)) :: ws) ({ frames := 1, cells := 1, slots := 8, locals := 18 } : Room)) (fun av_ U => av_ = #[(.ref rc), (.int (0 : Int32)), (.int xn)] ∧ Z.Warmed39 U.vm ∧ U.heap = h0) (fun _ _ _ _ _ => True) (fun _ U o U' => ∃ v L, o = .returned v ∧ own_Q_own_cmp2 Z rc xn n f h0 n0 v U'.heap L ∧ FrameEnd U o U' L ({ frames := 1, cells := 1, slots := 8, locals := 18 } : Room).cells ({ frames := 1, cells := 1, slots := 8, locals := 18 } : Room).slots) := by
  refine MetFree.of_bodySF (plainFor_of_name own_pn1) hisR ?_
  intro p e s m args below meth c s₁ Bd hml0 hP hK
  obtain ⟨rfl, hZ, hh⟩ := hP
  have hx := Bd.exec
  have hby := Bd.bytes
  have hml : c.maxLocals = 6 := hml0
  have hown : s.vm.findClass "java/lang/StringUTF16" = some m.cls := findClass_of_methodNamed Bd.named
  have hnm := (name_of_methodNamed Bd.named Bd.method).1
  have X0 : Stand p l e ({ frames := 1, cells := 1, slots := 8, locals := 18 } : Room) s m #[(.ref rc), (.int (0 : Int32)), (.int xn)] below meth c s₁ [] 0 0 := Stand.of_body Bd
  have e0 : s₁.heap = h0 := by rw [← hh, Bd.state]; rfl
  have N0 := Fr.nil n0
  suffices hgo : own_Go p e below (fun o U' => ∃ v L, o = .returned v ∧ own_Q_own_cmp2 Z rc xn n f h0 n0 v U'.heap L ∧ FrameEnd s o U' L ({ frames := 1, cells := 1, slots := 8, locals := 18 } : Room).cells ({ frames := 1, cells := 1, slots := 8, locals := 18 } : Room).slots) (s₁.setTop (mkF m 0 #[.val (.ref rc), .val (.int (0 : Int32)), .val (.int xn), .unset, .unset, .unset] [])) by
    obtain ⟨s₂, o, h1, h2, h3, h4⟩ := hgo
    exact ⟨s₂, o, castTop (own_ef4 m rc (0 : Int32) xn) h1, h2, h3, h4⟩
  have kk0 : Keep h0 h0 [] := Keep.refl _ _
  show own_Go p e below _ (s₁.setTop (mkF m 0 #[.val (.ref rc), .val (.int (0 : Int32)), .val (.int xn), .unset, .unset, .unset] []))
  refine own_Go.st (fun _ kt => XS.iloadN X0.here hx rfl (hb hby own_d_jdk_52_16_0) rfl kt) ?_
  show own_Go p e below _ (s₁.setTop (mkF m 1 #[.val (.ref rc), .val (.int (0 : Int32)), .val (.int xn), .unset, .unset, .unset] [(.int xn)]))
  obtain ⟨T1, h1, k1, X1, e1, E1, A1, st1⟩ := newP X0 hx hZ (hw _ (List.mem_of_getElem? (i := 23) rfl)) e0 (g := (mkF m 1 #[.val (.ref rc), .val (.int (0 : Int32)), .val (.int xn), .unset, .unset, .unset] [(.int xn)])) rfl (hb hby own_d_jdk_52_16_1) rfl (by rw [Int32.lt_iff_toInt_lt, hn, show (0 : Int32).toInt = 0 by decide]; omega) (cap := 8) (by rw [own_clamp hn]; exact hl) (by decide) (by decide) (by decide)
  obtain ⟨rb, g1⟩ : ∃ z, z = Array.size h0 := ⟨_, rfl⟩
  rw [← g1] at A1 st1
  refine own_Go.st st1 ?_
  have ne_rc_rb : rc ≠ rb := Nat.ne_of_lt (Nat.lt_of_lt_of_le (ac).lt (Nat.le_of_eq g1.symm))
  have n0_rb : n0 ≤ rb := Nat.le_trans Z0 (Nat.le_of_eq g1.symm)
  have b_rb : Array.size h0 ≤ rb := Nat.le_trans kk0.1 (Nat.le_of_eq g1.symm)
  have zz2 : n0 ≤ Array.size h1 := Nat.le_trans Z0 E1.1
  have kk2 : Keep h0 h1 [] := kk0.ext E1
  show own_Go p e below _ (T1.setTop (mkF m 3 #[.val (.ref rc), .val (.int (0 : Int32)), .val (.int xn), .unset, .unset, .unset] [(.ref rb)]))
  have ab0 := own_Ar.new A1 (n := n) hn
  refine own_Go.st (fun _ kt => XS.astoreN X1.here hx rfl (hb hby own_d_jdk_52_16_3) rfl rfl (l' := #[.val (.ref rc), .val (.int (0 : Int32)), .val (.int xn), .val (.ref rb), .unset, .unset]) rfl kt) ?_
  show own_Go p e below _ (T1.setTop (mkF m 4 #[.val (.ref rc), .val (.int (0 : Int32)), .val (.int xn), .val (.ref rb), .unset, .unset] []))
  refine own_Go.st (fun _ kt => XS.aloadN X1.here hx rfl (hb hby own_d_jdk_52_16_4) rfl rfl kt) ?_
  show own_Go p e below _ (T1.setTop (mkF m 5 #[.val (.ref rc), .val (.int (0 : Int32)), .val (.int xn), .val (.ref rb), .unset, .unset] [(.ref rc)]))
  refine own_Go.st (fun _ kt => XS.iloadN X1.here hx rfl (hb hby own_d_jdk_52_16_5) rfl kt) ?_
  show own_Go p e below _ (T1.setTop (mkF m 6 #[.val (.ref rc), .val (.int (0 : Int32)), .val (.int xn), .val (.ref rb), .unset, .unset] [(.int (0 : Int32)), (.ref rc)]))
  refine own_Go.st (fun _ kt => XS.aloadN X1.here hx rfl (hb hby own_d_jdk_52_16_6) rfl rfl kt) ?_
  show own_Go p e below _ (T1.setTop (mkF m 7 #[.val (.ref rc), .val (.int (0 : Int32)), .val (.int xn), .val (.ref rb), .unset, .unset] [(.ref rb), (.int (0 : Int32)), (.ref rc)]))
  refine own_Go.st (fun _ kt => XS.iconst X1.here hx rfl (hb hby own_d_jdk_52_16_7) kt) ?_
  show own_Go p e below _ (T1.setTop (mkF m 8 #[.val (.ref rc), .val (.int (0 : Int32)), .val (.int xn), .val (.ref rb), .unset, .unset] [(.int (0 : Int32)), (.ref rb), (.int (0 : Int32)), (.ref rc)]))
  refine own_Go.st (fun _ kt => XS.iloadN X1.here hx rfl (hb hby own_d_jdk_52_16_8) rfl kt) ?_
  show own_Go p e below _ (T1.setTop (mkF m 9 #[.val (.ref rc), .val (.int (0 : Int32)), .val (.int xn), .val (.ref rb), .unset, .unset] [(.int xn), (.int (0 : Int32)), (.ref rb), (.int (0 : Int32)), (.ref rc)]))
  have f3 := (ac.ext E1)
  obtain ⟨_, _, ⟨T4, L4, k4, n4⟩, -, X4, ⟨Lc4, hQ4, l4, y4, z4⟩, st4⟩ := Jvm.LawKit.callS X1 hx (y := (⟨"java/lang/StringUTF16", "compress", "([CI[BII)I"⟩ : MethodName)) hown (mvT hZ (hw _ (List.mem_of_getElem? (i := 83) rfl))) (mvT hZ (hw _ (List.mem_of_getElem? (i := 84) rfl))) (mvT hZ (hw _ (List.mem_of_getElem? (i := 81) rfl))) (mvT hZ (hw _ (List.mem_of_getElem? (i := 85) rfl))) (by decide) (backOf (W := 0) (own_cmp l Z a0 hw [] rc rb xn n f _ h1 n0 zz2 f3 ab0 ne_rc_rb n0_rb hn hl hf) hZ (hw _ (List.mem_of_getElem? (i := 85) rfl)) (hw _ (List.mem_of_getElem? (i := 81) rfl)) (by decide) (by decide)) (g := (mkF m 9 #[.val (.ref rc), .val (.int (0 : Int32)), .val (.int xn), .val (.ref rb), .unset, .unset] [(.int xn), (.int (0 : Int32)), (.ref rb), (.int (0 : Int32)), (.ref rc)])) rfl (by rw [hml]; rfl) (argsL := [(.ref rc), (.int (0 : Int32)), (.ref rb), (.int (0 : Int32)), (.int xn)]) (rest := []) (lenOf own_pd0 rfl) rfl (by show 2 * 0 + _ ≤ _; exact Nat.le_of_eq rfl) (hb hby own_d_jdk_52_16_9) (fun _ _ => ⟨rfl, e1, (by decide : 1 + 0 ≤ _), (by decide : 8 + 0 ≤ _)⟩)
  dsimp only [Pt.U, Pt.locs, Pt.cells, Pt.slots] at X4 l4 y4 z4 st4 hQ4
  subst l4 y4 z4
  obtain ⟨rfl, N4q, ab4, KF4⟩ := hQ4
  have N4 := Fr.app N0 N4q
  refine own_Go.st (fun _ kt => st4 _ kt) ?_
  have zz5 : n0 ≤ Array.size T4.heap := Nat.le_trans zz2 KF4.1
  have kk5 : Keep h0 T4.heap [] := kk2.trans KF4 (allS (P := fun x => x ∈ [] ∨ _) (Or.inr b_rb) all0)
  show own_Go p e below _ (T4.setTop (mkF m 12 #[.val (.ref rc), .val (.int (0 : Int32)), .val (.int xn), .val (.ref rb), .unset, .unset] [(.int xn)]))
  refine own_Go.st (fun _ kt => XS.istore X4.here hx rfl (hb hby own_d_jdk_52_16_12) rfl (l' := #[.val (.ref rc), .val (.int (0 : Int32)), .val (.int xn), .val (.ref rb), .val (.int xn), .unset]) rfl kt) ?_
  show own_Go p e below _ (T4.setTop (mkF m 14 #[.val (.ref rc), .val (.int (0 : Int32)), .val (.int xn), .val (.ref rb), .val (.int xn), .unset] []))
  refine own_Go.st (fun _ kt => XS.iload X4.here hx rfl (hb hby own_d_jdk_52_16_14) rfl kt) ?_
  show own_Go p e below _ (T4.setTop (mkF m 16 #[.val (.ref rc), .val (.int (0 : Int32)), .val (.int xn), .val (.ref rb), .val (.int xn), .unset] [(.int xn)]))
  refine own_Go.st (fun _ kt => XS.iloadN X4.here hx rfl (hb hby own_d_jdk_52_16_16) rfl kt) ?_
  show own_Go p e below _ (T4.setTop (mkF m 17 #[.val (.ref rc), .val (.int (0 : Int32)), .val (.int xn), .val (.ref rb), .val (.int xn), .unset] [(.int xn), (.int xn)]))
  refine own_Go.st (fun _ kt => XS.icmpYes X4.here hx rfl (pc0 := 17) (pc' := 57) rfl (hb hby own_d_jdk_52_16_17) rfl (teq rfl).1 (by decide) (by decide) kt) ?_
  show own_Go p e below _ (T4.setTop (mkF m 57 #[.val (.ref rc), .val (.int (0 : Int32)), .val (.int xn), .val (.ref rb), .val (.int xn), .unset] []))
  refine own_Go.st (fun _ kt => XS.aloadN X4.here hx rfl (hb hby own_d_jdk_52_16_57) rfl rfl kt) ?_
  show own_Go p e below _ (T4.setTop (mkF m 58 #[.val (.ref rc), .val (.int (0 : Int32)), .val (.int xn), .val (.ref rb), .val (.int xn), .unset] [(.ref rb)]))
  have fin := ab4
  have kk := kk5
  exact own_retA X4 hx Bd.notSynchronized Bd.returns rfl rfl (hb hby own_d_jdk_52_16_58) (by decide) (by decide) ⟨rb, rfl, N4, fin, b_rb, kk⟩
theorem own_ef5 (m : MethodId) (x0 : Addr) (x1 : Int32) : entryFrame m #[(.ref x0), (.int x1)] 2 = mkF m 0 #[.val (.ref x0), .val (.int x1)] [] := by first | (simp [entryFrame, mkF, argsToLocals, Value.category]; done) | rfl
theorem own_d_jdk_52_15_0 : decode jdk_52_method_15_code 0 = .ok (.iload_n 1, 1) := by decide +kernel
theorem own_d_jdk_52_15_1 : decode jdk_52_method_15_code 1 = .ok (.aload_n 0, 1) := by decide +kernel
theorem own_d_jdk_52_15_2 : decode jdk_52_method_15_code 2 = .ok (.arraylength, 1) := by decide +kernel
theorem own_d_jdk_52_15_3 : decode jdk_52_method_15_code 3 = .ok (.isub, 1) := by decide +kernel
theorem own_d_jdk_52_15_4 : decode jdk_52_method_15_code 4 = .ok (.bipush 31, 2) := by decide +kernel
theorem own_d_jdk_52_15_6 : decode jdk_52_method_15_code 6 = .ok (.iushr, 1) := by decide +kernel
theorem own_d_jdk_52_15_7 : decode jdk_52_method_15_code 7 = .ok (.i2b, 1) := by decide +kernel
theorem own_d_jdk_52_15_8 : decode jdk_52_method_15_code 8 = .ok (.ireturn, 1) := by decide +kernel
def own_Q_own_cfl (Z : State) (rb : Addr) (xn : Int32) (n : Nat) (fb : Nat → Value) (h0 : Heap) (n0 : Nat) (v : Option Value) (h : Heap) (L : List Loc) : Prop := v = some (.int 0) ∧ Fr n0 L ∧ h = h0
set_option maxRecDepth 65536 in
set_option maxHeartbeats 40000000 in
theorem own_cfl (l : Launch) (Z : State) (a0 : Array Value) (hw : ∀ d ∈ tables_1, d.before a0 Z = true) (ws : List Jvm.Cond) (rb : Addr) (xn : Int32) (n : Nat) (fb : Nat → Value) (h0 : Heap) (n0 : Nat) (Z0 : n0 ≤ h0.size) (ab : own_Ar Z h0 rb .byte n fb) (hn : xn.toInt = (n : Int)) :
    MetFree l (⟨"java/lang/StringUTF16", "coderFromArrayLen", "([BI)B"⟩ : MethodName) (head1 (Jvm.Cond.code (⟨"java/lang/StringUTF16", "coderFromArrayLen", "([BI)B"⟩ : MethodName) jdk_52_method_15_code 2 (some .byte) :: ws) ({ frames := 0, cells := 0, slots := 0, locals := 0 } : Room)) (fun av_ U => av_ = #[(.ref rb), (.int xn)] ∧ Z.Warmed39 U.vm ∧ U.heap = h0) (fun _ _ _ _ _ => True) (fun _ U o U' => ∃ v L, o = .returned v ∧ own_Q_own_cfl Z rb xn n fb h0 n0 v U'.heap L ∧ FrameEnd U o U' L ({ frames := 0, cells := 0, slots := 0, locals := 0 } : Room).cells ({ frames := 0, cells := 0, slots := 0, locals := 0 } : Room).slots) := by
  refine MetFree.of_bodySF (plainFor_of_name own_pn1) hisR ?_
  intro p e s m args below meth c s₁ Bd hml0 hP hK
  obtain ⟨rfl, hZ, hh⟩ := hP
  have hx := Bd.exec
  have hby := Bd.bytes
  have hml : c.maxLocals = 2 := hml0
  have hown : s.vm.findClass "java/lang/StringUTF16" = some m.cls := findClass_of_methodNamed Bd.named
  have hnm := (name_of_methodNamed Bd.named Bd.method).1
  have X0 : Stand p l e ({ frames := 0, cells := 0, slots := 0, locals := 0 } : Room) s m #[(.ref rb), (.int xn)] below meth c s₁ [] 0 0 := Stand.of_body Bd
  have e0 : s₁.heap = h0 := by rw [← hh, Bd.state]; rfl
  have N0 := Fr.nil n0
  suffices hgo : own_Go p e below (fun o U' => ∃ v L, o = .returned v ∧ own_Q_own_cfl Z rb xn n fb h0 n0 v U'.heap L ∧ FrameEnd s o U' L ({ frames := 0, cells := 0, slots := 0, locals := 0 } : Room).cells ({ frames := 0, cells := 0, slots := 0, locals := 0 } : Room).slots) (s₁.setTop (mkF m 0 #[.val (.ref rb), .val (.int xn)] [])) by
    obtain ⟨s₂, o, h1, h2, h3, h4⟩ := hgo
    exact ⟨s₂, o, castTop (own_ef5 m rb xn) h1, h2, h3, h4⟩
  show own_Go p e below _ (s₁.setTop (mkF m 0 #[.val (.ref rb), .val (.int xn)] []))
  refine own_Go.st (fun _ kt => XS.iloadN X0.here hx rfl (hb hby own_d_jdk_52_15_0) rfl kt) ?_
  show own_Go p e below _ (s₁.setTop (mkF m 1 #[.val (.ref rb), .val (.int xn)] [(.int xn)]))
  refine own_Go.st (fun _ kt => XS.aloadN X0.here hx rfl (hb hby own_d_jdk_52_15_1) rfl rfl kt) ?_
  show own_Go p e below _ (s₁.setTop (mkF m 2 #[.val (.ref rb), .val (.int xn)] [(.ref rb), (.int xn)]))
  refine own_Go.st (fun _ kt => own_alen X0 hx hZ e0 ab (z := xn) hn (g := (mkF m 2 #[.val (.ref rb), .val (.int xn)] [(.ref rb), (.int xn)])) rfl rfl (hb hby own_d_jdk_52_15_2) _ kt) ?_
  show own_Go p e below _ (s₁.setTop (mkF m 3 #[.val (.ref rb), .val (.int xn)] [(.int xn), (.int xn)]))
  refine own_Go.st (fun _ kt => XS.isub X0.here hx rfl (hb hby own_d_jdk_52_15_3) rfl kt) ?_
  show own_Go p e below _ (s₁.setTop (mkF m 4 #[.val (.ref rb), .val (.int xn)] [(.int (xn - xn))]))
  rw [show (xn - xn) = (0 : Int32) from (Int32.sub_self _)]
  show own_Go p e below _ (s₁.setTop (mkF m 4 #[.val (.ref rb), .val (.int xn)] [(.int (0 : Int32))]))
  refine own_Go.st (fun _ kt => XS.bipush X0.here hx rfl (hb hby own_d_jdk_52_15_4) kt) ?_
  show own_Go p e below _ (s₁.setTop (mkF m 6 #[.val (.ref rb), .val (.int xn)] [(.int (31 : Int32)), (.int (0 : Int32))]))
  refine own_Go.st (fun _ kt => XS.iushr X0.here hx rfl (hb hby own_d_jdk_52_15_6) rfl kt) ?_
  show own_Go p e below _ (s₁.setTop (mkF m 7 #[.val (.ref rb), .val (.int xn)] [(.int (((0 : Int32).toUInt32 >>> ((31 : Int32) &&& 31).toUInt32).toInt32))]))
  refine own_Go.st (fun _ kt => XS.i2b X0.here hx rfl (hb hby own_d_jdk_52_15_7) rfl kt) ?_
  show own_Go p e below _ (s₁.setTop (mkF m 8 #[.val (.ref rb), .val (.int xn)] [(.int ((((0 : Int32).toUInt32 >>> ((31 : Int32) &&& 31).toUInt32).toInt32).toInt8.toInt32))]))
  rw [show ((((0 : Int32).toUInt32 >>> ((31 : Int32) &&& 31).toUInt32).toInt32).toInt8.toInt32) = (0 : Int32) from (by decide)]
  show own_Go p e below _ (s₁.setTop (mkF m 8 #[.val (.ref rb), .val (.int xn)] [(.int (0 : Int32))]))
  exact own_retN X0 hx Bd.notSynchronized Bd.returns (t := .byte) (by simp) rfl (hb hby own_d_jdk_52_15_8) (by decide) (by decide) ⟨rfl, N0, e0⟩
theorem own_pn2 : plainName "java/lang/String" = true := by first | (simp [plainName, overriddenIn]; done) | decide +kernel
theorem own_ef6 (m : MethodId) (x0 : Addr) (x1 : Addr) (x2 : Int32) (x3 : Int32) : entryFrame m #[(.ref x0), (.ref x1), (.int x2), (.int x3), .null] 6 = mkF m 0 #[.val (.ref x0), .val (.ref x1), .val (.int x2), .val (.int x3), .val .null, .unset] [] := by first | (simp [entryFrame, mkF, argsToLocals, Value.category]; done) | rfl
theorem own_d_jdk_42_149_0 : decode jdk_42_method_149_code 0 = .ok (.aload_n 0, 1) := by decide +kernel
theorem own_d_jdk_42_149_1 : decode jdk_42_method_149_code 1 = .ok (.invokespecial 1, 3) := by decide +kernel
theorem own_d_jdk_42_149_4 : decode jdk_42_method_149_code 4 = .ok (.iload_n 3, 1) := by decide +kernel
theorem own_d_jdk_42_149_5 : decode jdk_42_method_149_code 5 = .ok (.ifCond .ne 22, 3) := by decide +kernel
theorem own_d_jdk_42_149_27 : decode jdk_42_method_149_code 27 = .ok (.getstatic 38, 3) := by decide +kernel
theorem own_d_jdk_42_149_30 : decode jdk_42_method_149_code 30 = .ok (.ifCond .eq 28, 3) := by decide +kernel
theorem own_d_jdk_42_149_33 : decode jdk_42_method_149_code 33 = .ok (.aload_n 1, 1) := by decide +kernel
theorem own_d_jdk_42_149_34 : decode jdk_42_method_149_code 34 = .ok (.iload_n 2, 1) := by decide +kernel
theorem own_d_jdk_42_149_35 : decode jdk_42_method_149_code 35 = .ok (.iload_n 3, 1) := by decide +kernel
theorem own_d_jdk_42_149_36 : decode jdk_42_method_149_code 36 = .ok (.invokestatic 177, 3) := by decide +kernel
theorem own_pd1 : parseMethodDescriptor "([CII)[B" = some ⟨[(.array .char), .int, .int], some (.array .byte)⟩ := by decide +kernel
theorem own_d_jdk_42_149_39 : decode jdk_42_method_149_code 39 = .ok (.astore 5, 2) := by decide +kernel
theorem own_d_jdk_42_149_41 : decode jdk_42_method_149_code 41 = .ok (.aload_n 0, 1) := by decide +kernel
theorem own_d_jdk_42_149_42 : decode jdk_42_method_149_code 42 = .ok (.aload 5, 2) := by decide +kernel
theorem own_d_jdk_42_149_44 : decode jdk_42_method_149_code 44 = .ok (.iload_n 3, 1) := by decide +kernel
theorem own_d_jdk_42_149_45 : decode jdk_42_method_149_code 45 = .ok (.invokestatic 47, 3) := by decide +kernel
theorem own_pd2 : parseMethodDescriptor "([BI)B" = some ⟨[(.array .byte), .int], some .byte⟩ := by decide +kernel
theorem own_d_jdk_42_149_48 : decode jdk_42_method_149_code 48 = .ok (.putfield 15, 3) := by decide +kernel
theorem own_d_jdk_42_149_51 : decode jdk_42_method_149_code 51 = .ok (.aload_n 0, 1) := by decide +kernel
theorem own_d_jdk_42_149_52 : decode jdk_42_method_149_code 52 = .ok (.aload 5, 2) := by decide +kernel
theorem own_d_jdk_42_149_54 : decode jdk_42_method_149_code 54 = .ok (.putfield 9, 3) := by decide +kernel
theorem own_d_jdk_42_149_57 : decode jdk_42_method_149_code 57 = .ok (.return_, 1) := by decide +kernel
def own_Q_own_si (Z : State) (sx rc : Addr) (xn : Int32) (n : Nat) (f : Nat → Int32) (zc : Int32) (h0 : Heap) (n0 : Nat) (v : Option Value) (h : Heap) (L : List Loc) : Prop := ∃ rb, v = none ∧ Fr n0 L ∧ own_Str Z h sx rb n (fun j => (f j).toInt8.toInt32) ∧ Array.size h0 ≤ rb ∧ Keep h0 h [sx]
set_option maxRecDepth 65536 in
set_option maxHeartbeats 40000000 in
theorem own_si (l : Launch) (Z : State) (a0 : Array Value) (hw : ∀ d ∈ tables_1, d.before a0 Z = true) (ws : List Jvm.Cond) (sx rc : Addr) (xn : Int32) (n : Nat) (f : Nat → Int32) (zc : Int32) (h0 : Heap) (n0 : Nat) (Z0 : n0 ≤ h0.size) (fE : Exa Z h0 sx "java/lang/String") (fV : Fld Z h0 sx "java/lang/String" "value" "[B" .null) (fC : Fld Z h0 sx "java/lang/String" "coder" "B" (.int 0)) (gs : n0 ≤ sx) (ac : own_Ar Z h0 rc .char n (fun j => .int (f j))) (hn : xn.toInt = (n : Int)) (hl : n ≤ 8) (hp : 0 < n) (hf : ∀ j, j < n → own_C8 (f j)) (cs : Sta Z h0 "java/lang/String" "COMPACT_STRINGS" "Z" (.int zc)) (hzc : ¬ zc = 0) :
    MetFree l (⟨"java/lang/String", "<init>", "([CIILjava/lang/Void;)V"⟩ : MethodName) (head1 (Jvm.Cond.code (⟨"java/lang/String", "<init>", "([CIILjava/lang/Void;)V"⟩ : MethodName) jdk_42_method_149_code 6 none :: ws) ({ frames := 2, cells := 1, slots := 8, locals := 35 } : Room)) (fun av_ U => av_ = #[(.ref sx), (.ref rc), (.int (0 : Int32)), (.int xn), .null] ∧ Z.Warmed39 U.vm ∧ U.heap = h0) (fun _ _ _ _ _ => True) (fun _ U o U' => ∃ v L, o = .returned v ∧ own_Q_own_si Z sx rc xn n f zc h0 n0 v U'.heap L ∧ FrameEnd U o U' L ({ frames := 2, cells := 1, slots := 8, locals := 35 } : Room).cells ({ frames := 2, cells := 1, slots := 8, locals := 35 } : Room).slots) := by
  refine MetFree.of_bodySF (plainFor_of_name own_pn2) hisR ?_
  intro p e s m args below meth c s₁ Bd hml0 hP hK
  obtain ⟨rfl, hZ, hh⟩ := hP
  have hx := Bd.exec
  have hby := Bd.bytes
  have hml : c.maxLocals = 6 := hml0
  have hown : s.vm.findClass "java/lang/String" = some m.cls := findClass_of_methodNamed Bd.named
  have hnm := (name_of_methodNamed Bd.named Bd.method).1
  have X0 : Stand p l e ({ frames := 2, cells := 1, slots := 8, locals := 35 } : Room) s m #[(.ref sx), (.ref rc), (.int (0 : Int32)), (.int xn), .null] below meth c s₁ [] 0 0 := Stand.of_body Bd
  have e0 : s₁.heap = h0 := by rw [← hh, Bd.state]; rfl
  have N0 := Fr.nil n0
  suffices hgo : own_Go p e below (fun o U' => ∃ v L, o = .returned v ∧ own_Q_own_si Z sx rc xn n f zc h0 n0 v U'.heap L ∧ FrameEnd s o U' L ({ frames := 2, cells := 1, slots := 8, locals := 35 } : Room).cells ({ frames := 2, cells := 1, slots := 8, locals := 35 } : Room).slots) (s₁.setTop (mkF m 0 #[.val (.ref sx), .val (.ref rc), .val (.int (0 : Int32)), .val (.int xn), .val .null, .unset] [])) by
    obtain ⟨s₂, o, h1, h2, h3, h4⟩ := hgo
    exact ⟨s₂, o, castTop (own_ef6 m sx rc (0 : Int32) xn) h1, h2, h3, h4⟩
  have kk0 : Keep h0 h0 [sx] := Keep.refl _ _
  show own_Go p e below _ (s₁.setTop (mkF m 0 #[.val (.ref sx), .val (.ref rc), .val (.int (0 : Int32)), .val (.int xn), .val .null, .unset] []))
  have hxn : ¬ xn = 0 := fun q => by rw [q, show (0 : Int32).toInt = 0 by decide] at hn; omega
  have sxl := fE.lt
  refine own_Go.st (fun _ kt => XS.aloadN X0.here hx rfl (hb hby own_d_jdk_42_149_0) rfl rfl kt) ?_
  show own_Go p e below _ (s₁.setTop (mkF m 1 #[.val (.ref sx), .val (.ref rc), .val (.int (0 : Int32)), .val (.int xn), .val .null, .unset] [(.ref sx)]))
  obtain ⟨T1, X1, e1, st1⟩ := initO X0 hx hZ hown (hw _ (List.mem_of_getElem? (i := 19) rfl)) (hw _ (List.mem_of_getElem? (i := 20) rfl)) (hw _ (List.mem_of_getElem? (i := 21) rfl)) e0 (g := (mkF m 1 #[.val (.ref sx), .val (.ref rc), .val (.int (0 : Int32)), .val (.int xn), .val .null, .unset] [(.ref sx)])) rfl (by rw [hml]; rfl) rfl (hb hby own_d_jdk_42_149_1) (by decide) (W := 0) (by show 2 * 0 + _ ≤ _; exact Nat.le_of_eq rfl) (by decide)
  refine own_Go.st st1 ?_
  show own_Go p e below _ (T1.setTop (mkF m 4 #[.val (.ref sx), .val (.ref rc), .val (.int (0 : Int32)), .val (.int xn), .val .null, .unset] []))
  refine own_Go.st (fun _ kt => XS.iloadN X1.here hx rfl (hb hby own_d_jdk_42_149_4) rfl kt) ?_
  show own_Go p e below _ (T1.setTop (mkF m 5 #[.val (.ref sx), .val (.ref rc), .val (.int (0 : Int32)), .val (.int xn), .val .null, .unset] [(.int xn)]))
  refine own_Go.st (fun _ kt => XS.ifYes X1.here hx rfl (pc0 := 5) (pc' := 27) rfl (hb hby own_d_jdk_42_149_5) rfl ((if0 _ _).trans (feq hxn).2) (by decide) (by decide) kt) ?_
  show own_Go p e below _ (T1.setTop (mkF m 27 #[.val (.ref sx), .val (.ref rc), .val (.int (0 : Int32)), .val (.int xn), .val .null, .unset] []))
  obtain ⟨T2, X2, e2, st2⟩ := getS2 X1 hx hZ hown (host := "") (Or.inl (hw _ (List.mem_of_getElem? (i := 37) rfl))) Via.refl e1 cs (g := (mkF m 27 #[.val (.ref sx), .val (.ref rc), .val (.int (0 : Int32)), .val (.int xn), .val .null, .unset] [])) rfl (hb hby own_d_jdk_42_149_27)
  refine own_Go.st st2 ?_
  show own_Go p e below _ (T2.setTop (mkF m 30 #[.val (.ref sx), .val (.ref rc), .val (.int (0 : Int32)), .val (.int xn), .val .null, .unset] [(.int zc)]))
  refine own_Go.st (fun _ kt => XS.ifNo X2.here hx rfl (hb hby own_d_jdk_42_149_30) rfl ((if0 _ _).trans (feq hzc).1) kt) ?_
  show own_Go p e below _ (T2.setTop (mkF m 33 #[.val (.ref sx), .val (.ref rc), .val (.int (0 : Int32)), .val (.int xn), .val .null, .unset] []))
  refine own_Go.st (fun _ kt => XS.aloadN X2.here hx rfl (hb hby own_d_jdk_42_149_33) rfl rfl kt) ?_
  show own_Go p e below _ (T2.setTop (mkF m 34 #[.val (.ref sx), .val (.ref rc), .val (.int (0 : Int32)), .val (.int xn), .val .null, .unset] [(.ref rc)]))
  refine own_Go.st (fun _ kt => XS.iloadN X2.here hx rfl (hb hby own_d_jdk_42_149_34) rfl kt) ?_
  show own_Go p e below _ (T2.setTop (mkF m 35 #[.val (.ref sx), .val (.ref rc), .val (.int (0 : Int32)), .val (.int xn), .val .null, .unset] [(.int (0 : Int32)), (.ref rc)]))
  refine own_Go.st (fun _ kt => XS.iloadN X2.here hx rfl (hb hby own_d_jdk_42_149_35) rfl kt) ?_
  show own_Go p e below _ (T2.setTop (mkF m 36 #[.val (.ref sx), .val (.ref rc), .val (.int (0 : Int32)), .val (.int xn), .val .null, .unset] [(.int xn), (.int (0 : Int32)), (.ref rc)]))
  obtain ⟨_, _, ⟨T3, L3, k3, n3⟩, -, X3, ⟨Lc3, hQ3, l3, y3, z3⟩, st3⟩ := Jvm.LawKit.callS X2 hx (y := (⟨"java/lang/StringUTF16", "compress", "([CII)[B"⟩ : MethodName)) hown (mvT hZ (hw _ (List.mem_of_getElem? (i := 79) rfl))) (mvT hZ (hw _ (List.mem_of_getElem? (i := 80) rfl))) (mvT hZ (hw _ (List.mem_of_getElem? (i := 81) rfl))) (mvT hZ (hw _ (List.mem_of_getElem? (i := 82) rfl))) (by decide) (backOf (W := 0) (own_cmp2 l Z a0 hw [] rc xn n f h0 n0 Z0 ac hn hl hf) hZ (hw _ (List.mem_of_getElem? (i := 82) rfl)) (hw _ (List.mem_of_getElem? (i := 81) rfl)) (by decide) (by decide)) (g := (mkF m 36 #[.val (.ref sx), .val (.ref rc), .val (.int (0 : Int32)), .val (.int xn), .val .null, .unset] [(.int xn), (.int (0 : Int32)), (.ref rc)])) rfl (by rw [hml]; rfl) (argsL := [(.ref rc), (.int (0 : Int32)), (.int xn)]) (rest := []) (lenOf own_pd1 rfl) rfl (by show 2 * 0 + _ ≤ _; exact Nat.le_of_eq rfl) (hb hby own_d_jdk_42_149_36) (fun _ _ => ⟨rfl, e2, (by decide : 0 + 1 ≤ _), (by decide : 0 + 8 ≤ _)⟩)
  dsimp only [Pt.U, Pt.locs, Pt.cells, Pt.slots] at X3 l3 y3 z3 st3 hQ3
  subst l3 y3 z3
  obtain ⟨rb, rfl, N3q, ab3, bb3, KF3⟩ := hQ3
  have N3 := Fr.app N0 N3q
  refine own_Go.st (fun _ kt => st3 _ kt) ?_
  have zz4 : n0 ≤ Array.size T3.heap := Nat.le_trans Z0 KF3.1
  have kk4 : Keep h0 T3.heap [sx] := kk0.trans KF3 all0
  show own_Go p e below _ (T3.setTop (mkF m 39 #[.val (.ref sx), .val (.ref rc), .val (.int (0 : Int32)), .val (.int xn), .val .null, .unset] [(.ref rb)]))
  have nesb : sx ≠ rb := Nat.ne_of_lt (Nat.lt_of_lt_of_le sxl bb3)
  refine own_Go.st (fun _ kt => XS.astore X3.here hx rfl (hb hby own_d_jdk_42_149_39) rfl rfl (l' := #[.val (.ref sx), .val (.ref rc), .val (.int (0 : Int32)), .val (.int xn), .val .null, .val (.ref rb)]) rfl kt) ?_
  show own_Go p e below _ (T3.setTop (mkF m 41 #[.val (.ref sx), .val (.ref rc), .val (.int (0 : Int32)), .val (.int xn), .val .null, .val (.ref rb)] []))
  refine own_Go.st (fun _ kt => XS.aloadN X3.here hx rfl (hb hby own_d_jdk_42_149_41) rfl rfl kt) ?_
  show own_Go p e below _ (T3.setTop (mkF m 42 #[.val (.ref sx), .val (.ref rc), .val (.int (0 : Int32)), .val (.int xn), .val .null, .val (.ref rb)] [(.ref sx)]))
  refine own_Go.st (fun _ kt => XS.aload X3.here hx rfl (hb hby own_d_jdk_42_149_42) rfl rfl kt) ?_
  show own_Go p e below _ (T3.setTop (mkF m 44 #[.val (.ref sx), .val (.ref rc), .val (.int (0 : Int32)), .val (.int xn), .val .null, .val (.ref rb)] [(.ref rb), (.ref sx)]))
  refine own_Go.st (fun _ kt => XS.iloadN X3.here hx rfl (hb hby own_d_jdk_42_149_44) rfl kt) ?_
  show own_Go p e below _ (T3.setTop (mkF m 45 #[.val (.ref sx), .val (.ref rc), .val (.int (0 : Int32)), .val (.int xn), .val .null, .val (.ref rb)] [(.int xn), (.ref rb), (.ref sx)]))
  obtain ⟨_, _, ⟨T5, L5, k5, n5⟩, -, X5, ⟨Lc5, hQ5, l5, y5, z5⟩, st5⟩ := Jvm.LawKit.callS X3 hx (y := (⟨"java/lang/StringUTF16", "coderFromArrayLen", "([BI)B"⟩ : MethodName)) hown (mvT hZ (hw _ (List.mem_of_getElem? (i := 86) rfl))) (mvT hZ (hw _ (List.mem_of_getElem? (i := 87) rfl))) (mvT hZ (hw _ (List.mem_of_getElem? (i := 81) rfl))) (mvT hZ (hw _ (List.mem_of_getElem? (i := 88) rfl))) (by decide) (backOf (W := 1) (own_cfl l Z a0 hw [] rb xn n _ T3.heap n0 zz4 ab3 hn) hZ (hw _ (List.mem_of_getElem? (i := 88) rfl)) (hw _ (List.mem_of_getElem? (i := 81) rfl)) (by decide) (by decide)) (g := (mkF m 45 #[.val (.ref sx), .val (.ref rc), .val (.int (0 : Int32)), .val (.int xn), .val .null, .val (.ref rb)] [(.int xn), (.ref rb), (.ref sx)])) rfl (by rw [hml]; rfl) (argsL := [(.ref rb), (.int xn)]) (rest := [(.ref sx)]) (lenOf own_pd2 rfl) rfl (by show 2 * 0 + _ ≤ _; exact Nat.le_of_eq rfl) (hb hby own_d_jdk_42_149_45) (fun _ _ => ⟨rfl, rfl, (by decide : 1 + 0 ≤ _), (by decide : 8 + 0 ≤ _)⟩)
  dsimp only [Pt.U, Pt.locs, Pt.cells, Pt.slots] at X5 l5 y5 z5 st5 hQ5
  subst l5 y5 z5
  obtain ⟨rfl, N5q, hh5⟩ := hQ5
  have N5 := Fr.app N3 N5q
  refine own_Go.st (fun _ kt => st5 _ kt) ?_
  show own_Go p e below _ (T5.setTop (mkF m 48 #[.val (.ref sx), .val (.ref rc), .val (.int (0 : Int32)), .val (.int xn), .val .null, .val (.ref rb)] [(.int (0 : Int32)), (.ref sx)]))
  have f6 := (fC.keep KF3 nin0)
  have f7 := (fE.keep KF3)
  obtain ⟨T8, h8, X8, e8, W8, st8⟩ := putF X5 hx hZ hown (host := "") (Or.inl (hw _ (List.mem_of_getElem? (i := 29) rfl))) Via.refl hh5 f6 f7 (Or.inr ⟨(hw _ (List.mem_of_getElem? (i := 25) rfl)), rfl, hnm⟩) (hw _ (List.mem_of_getElem? (i := 7) rfl)) (ty := .byte) (by decide) rfl rfl (g := (mkF m 48 #[.val (.ref sx), .val (.ref rc), .val (.int (0 : Int32)), .val (.int xn), .val .null, .val (.ref rb)] [(.int (0 : Int32)), (.ref sx)])) rfl rfl (hb hby own_d_jdk_42_149_48)
  refine own_Go.st st8 ?_
  have N8 := Fr.snoc X8 N5 gs
  have f8_coder := Fld.same W8 f6
  have zz9 : n0 ≤ Array.size h8 := Nat.le_trans zz4 (Nat.le_of_eq (Wr.size W8).symm)
  have kk9 : Keep h0 h8 [sx] := kk4.wr W8 (Or.inl (List.mem_of_getElem? (i := 0) rfl))
  show own_Go p e below _ (T8.setTop (mkF m 51 #[.val (.ref sx), .val (.ref rc), .val (.int (0 : Int32)), .val (.int xn), .val .null, .val (.ref rb)] []))
  refine own_Go.st (fun _ kt => XS.aloadN X8.here hx rfl (hb hby own_d_jdk_42_149_51) rfl rfl kt) ?_
  show own_Go p e below _ (T8.setTop (mkF m 52 #[.val (.ref sx), .val (.ref rc), .val (.int (0 : Int32)), .val (.int xn), .val .null, .val (.ref rb)] [(.ref sx)]))
  refine own_Go.st (fun _ kt => XS.aload X8.here hx rfl (hb hby own_d_jdk_42_149_52) rfl rfl kt) ?_
  show own_Go p e below _ (T8.setTop (mkF m 54 #[.val (.ref sx), .val (.ref rc), .val (.int (0 : Int32)), .val (.int xn), .val .null, .val (.ref rb)] [(.ref rb), (.ref sx)]))
  have f10 := ((fV.keep KF3 nin0).other W8 (Or.inr (slot_ne (Or.inr (hw _ (List.mem_of_getElem? (i := 24) rfl))) (Or.inr (hw _ (List.mem_of_getElem? (i := 25) rfl))) (by decide) (t := (.array .byte)) (t' := .byte) (by decide) (by decide))))
  have f11 := (f7.wr W8)
  obtain ⟨T12, h12, X12, e12, W12, st12⟩ := putF X8 hx hZ hown (host := "") (Or.inl (hw _ (List.mem_of_getElem? (i := 28) rfl))) Via.refl e8 f10 f11 (Or.inr ⟨(hw _ (List.mem_of_getElem? (i := 24) rfl)), rfl, hnm⟩) (hw _ (List.mem_of_getElem? (i := 7) rfl)) (ty := (.array .byte)) (by decide) rfl rfl (g := (mkF m 54 #[.val (.ref sx), .val (.ref rc), .val (.int (0 : Int32)), .val (.int xn), .val .null, .val (.ref rb)] [(.ref rb), (.ref sx)])) rfl rfl (hb hby own_d_jdk_42_149_54)
  refine own_Go.st st12 ?_
  have N12 := Fr.snoc X12 N8 gs
  have f12_value := Fld.same W12 f10
  have zz13 : n0 ≤ Array.size h12 := Nat.le_trans zz9 (Nat.le_of_eq (Wr.size W12).symm)
  have kk13 : Keep h0 h12 [sx] := kk9.wr W12 (Or.inl (List.mem_of_getElem? (i := 0) rfl))
  show own_Go p e below _ (T12.setTop (mkF m 57 #[.val (.ref sx), .val (.ref rc), .val (.int (0 : Int32)), .val (.int xn), .val .null, .val (.ref rb)] []))
  have f14 := (f11.wr W12)
  have f15 := (f8_coder.other W12 (Or.inr (slot_ne (Or.inr (hw _ (List.mem_of_getElem? (i := 25) rfl))) (Or.inr (hw _ (List.mem_of_getElem? (i := 24) rfl))) (by decide) (t := .byte) (t' := (.array .byte)) (by decide) (by decide))))
  have f16 := ((ab3.other W8 (Ne.symm nesb)).other W12 (Ne.symm nesb))
  have fin : own_Str Z h12 sx rb n (fun j => (f j).toInt8.toInt32) := ⟨f14, f15, f12_value, f16⟩
  have kk := kk13
  rw [← e12] at fin kk
  exact own_retV X12 hx Bd.notSynchronized Bd.returns (hb hby own_d_jdk_42_149_57) (by decide) (by decide) ⟨rb, rfl, N12, fin, bb3, kk⟩
theorem own_ef7 (m : MethodId) (x0 : Addr) (x1 : Addr) : entryFrame m #[(.ref x0), (.ref x1)] 2 = mkF m 0 #[.val (.ref x0), .val (.ref x1)] [] := by first | (simp [entryFrame, mkF, argsToLocals, Value.category]; done) | rfl
theorem own_d_jdk_42_3_0 : decode jdk_42_method_3_code 0 = .ok (.aload_n 0, 1) := by decide +kernel
theorem own_d_jdk_42_3_1 : decode jdk_42_method_3_code 1 = .ok (.aload_n 1, 1) := by decide +kernel
theorem own_d_jdk_42_3_2 : decode jdk_42_method_3_code 2 = .ok (.iconst 0, 1) := by decide +kernel
theorem own_d_jdk_42_3_3 : decode jdk_42_method_3_code 3 = .ok (.aload_n 1, 1) := by decide +kernel
theorem own_d_jdk_42_3_4 : decode jdk_42_method_3_code 4 = .ok (.arraylength, 1) := by decide +kernel
theorem own_d_jdk_42_3_5 : decode jdk_42_method_3_code 5 = .ok (.aconst_null, 1) := by decide +kernel
theorem own_d_jdk_42_3_6 : decode jdk_42_method_3_code 6 = .ok (.invokespecial 27, 3) := by decide +kernel
theorem own_pd3 : parseMethodDescriptor "([CIILjava/lang/Void;)V" = some ⟨[(.array .char), .int, .int, (.object "java/lang/Void")], none⟩ := by decide +kernel
theorem own_d_jdk_42_3_9 : decode jdk_42_method_3_code 9 = .ok (.return_, 1) := by decide +kernel
def own_Q_own_s1 (Z : State) (sx rc : Addr) (xn : Int32) (n : Nat) (f : Nat → Int32) (zc : Int32) (h0 : Heap) (n0 : Nat) (v : Option Value) (h : Heap) (L : List Loc) : Prop := ∃ rb, v = none ∧ Fr n0 L ∧ own_Str Z h sx rb n (fun j => (f j).toInt8.toInt32) ∧ Array.size h0 ≤ rb ∧ Keep h0 h [sx]
set_option maxRecDepth 65536 in
set_option maxHeartbeats 40000000 in
theorem own_s1 (l : Launch) (Z : State) (a0 : Array Value) (hw : ∀ d ∈ tables_1, d.before a0 Z = true) (ws : List Jvm.Cond) (sx rc : Addr) (xn : Int32) (n : Nat) (f : Nat → Int32) (zc : Int32) (h0 : Heap) (n0 : Nat) (Z0 : n0 ≤ h0.size) (fE : Exa Z h0 sx "java/lang/String") (fV : Fld Z h0 sx "java/lang/String" "value" "[B" .null) (fC : Fld Z h0 sx "java/lang/String" "coder" "B" (.int 0)) (gs : n0 ≤ sx) (ac : own_Ar Z h0 rc .char n (fun j => .int (f j))) (hn : xn.toInt = (n : Int)) (hl : n ≤ 8) (hp : 0 < n) (hf : ∀ j, j < n → own_C8 (f j)) (cs : Sta Z h0 "java/lang/String" "COMPACT_STRINGS" "Z" (.int zc)) (hzc : ¬ zc = 0) :
    MetFree l (⟨"java/lang/String", "<init>", "([C)V"⟩ : MethodName) (head1 (Jvm.Cond.code (⟨"java/lang/String", "<init>", "([C)V"⟩ : MethodName) jdk_42_method_3_code 2 none :: ws) ({ frames := 3, cells := 1, slots := 8, locals := 52 } : Room)) (fun av_ U => av_ = #[(.ref sx), (.ref rc)] ∧ Z.Warmed39 U.vm ∧ U.heap = h0) (fun _ _ _ _ _ => True) (fun _ U o U' => ∃ v L, o = .returned v ∧ own_Q_own_s1 Z sx rc xn n f zc h0 n0 v U'.heap L ∧ FrameEnd U o U' L ({ frames := 3, cells := 1, slots := 8, locals := 52 } : Room).cells ({ frames := 3, cells := 1, slots := 8, locals := 52 } : Room).slots) := by
  refine MetFree.of_bodySF (plainFor_of_name own_pn2) hisR ?_
  intro p e s m args below meth c s₁ Bd hml0 hP hK
  obtain ⟨rfl, hZ, hh⟩ := hP
  have hx := Bd.exec
  have hby := Bd.bytes
  have hml : c.maxLocals = 2 := hml0
  have hown : s.vm.findClass "java/lang/String" = some m.cls := findClass_of_methodNamed Bd.named
  have hnm := (name_of_methodNamed Bd.named Bd.method).1
  have X0 : Stand p l e ({ frames := 3, cells := 1, slots := 8, locals := 52 } : Room) s m #[(.ref sx), (.ref rc)] below meth c s₁ [] 0 0 := Stand.of_body Bd
  have e0 : s₁.heap = h0 := by rw [← hh, Bd.state]; rfl
  have N0 := Fr.nil n0
  suffices hgo : own_Go p e below (fun o U' => ∃ v L, o = .returned v ∧ own_Q_own_s1 Z sx rc xn n f zc h0 n0 v U'.heap L ∧ FrameEnd s o U' L ({ frames := 3, cells := 1, slots := 8, locals := 52 } : Room).cells ({ frames := 3, cells := 1, slots := 8, locals := 52 } : Room).slots) (s₁.setTop (mkF m 0 #[.val (.ref sx), .val (.ref rc)] [])) by
    obtain ⟨s₂, o, h1, h2, h3, h4⟩ := hgo
    exact ⟨s₂, o, castTop (own_ef7 m sx rc) h1, h2, h3, h4⟩
  have kk0 : Keep h0 h0 [sx] := Keep.refl _ _
  show own_Go p e below _ (s₁.setTop (mkF m 0 #[.val (.ref sx), .val (.ref rc)] []))
  refine own_Go.st (fun _ kt => XS.aloadN X0.here hx rfl (hb hby own_d_jdk_42_3_0) rfl rfl kt) ?_
  show own_Go p e below _ (s₁.setTop (mkF m 1 #[.val (.ref sx), .val (.ref rc)] [(.ref sx)]))
  refine own_Go.st (fun _ kt => XS.aloadN X0.here hx rfl (hb hby own_d_jdk_42_3_1) rfl rfl kt) ?_
  show own_Go p e below _ (s₁.setTop (mkF m 2 #[.val (.ref sx), .val (.ref rc)] [(.ref rc), (.ref sx)]))
  refine own_Go.st (fun _ kt => XS.iconst X0.here hx rfl (hb hby own_d_jdk_42_3_2) kt) ?_
  show own_Go p e below _ (s₁.setTop (mkF m 3 #[.val (.ref sx), .val (.ref rc)] [(.int (0 : Int32)), (.ref rc), (.ref sx)]))
  refine own_Go.st (fun _ kt => XS.aloadN X0.here hx rfl (hb hby own_d_jdk_42_3_3) rfl rfl kt) ?_
  show own_Go p e below _ (s₁.setTop (mkF m 4 #[.val (.ref sx), .val (.ref rc)] [(.ref rc), (.int (0 : Int32)), (.ref rc), (.ref sx)]))
  refine own_Go.st (fun _ kt => own_alen X0 hx hZ e0 ac (z := xn) hn (g := (mkF m 4 #[.val (.ref sx), .val (.ref rc)] [(.ref rc), (.int (0 : Int32)), (.ref rc), (.ref sx)])) rfl rfl (hb hby own_d_jdk_42_3_4) _ kt) ?_
  show own_Go p e below _ (s₁.setTop (mkF m 5 #[.val (.ref sx), .val (.ref rc)] [(.int xn), (.int (0 : Int32)), (.ref rc), (.ref sx)]))
  refine own_Go.st (fun _ kt => XS.aconstNull X0.here hx rfl (hb hby own_d_jdk_42_3_5) kt) ?_
  show own_Go p e below _ (s₁.setTop (mkF m 6 #[.val (.ref sx), .val (.ref rc)] [.null, (.int xn), (.int (0 : Int32)), (.ref rc), (.ref sx)]))
  obtain ⟨_, _, ⟨T1, L1, k1, n1⟩, -, X1, ⟨Lc1, hQ1, l1, y1, z1⟩, st1⟩ := X0.specialBack hx (y := (⟨"java/lang/String", "<init>", "([CIILjava/lang/Void;)V"⟩ : MethodName)) rfl hown (mvT hZ (hw _ (List.mem_of_getElem? (i := 15) rfl))) (mvT hZ (hw _ (List.mem_of_getElem? (i := 16) rfl))) (mvT hZ (hw _ (List.mem_of_getElem? (i := 18) rfl))) (by decide) (backOf (W := 0) (own_si l Z a0 hw [] sx rc xn n f zc h0 n0 Z0 fE fV fC gs ac hn hl hp hf cs hzc) hZ (hw _ (List.mem_of_getElem? (i := 18) rfl)) (hw _ (List.mem_of_getElem? (i := 8) rfl)) (by decide) (by decide)) (g := (mkF m 6 #[.val (.ref sx), .val (.ref rc)] [.null, (.int xn), (.int (0 : Int32)), (.ref rc), (.ref sx)])) rfl (by rw [hml]; rfl) (Steps.refl _) (a := sx) (argsL := [(.ref rc), (.int (0 : Int32)), (.int xn), .null]) (rest := []) (lenOf own_pd3 rfl) rfl (by show 2 * 0 + _ ≤ _; exact Nat.le_of_eq rfl) (hb hby own_d_jdk_42_3_6) (fun _ _ => ⟨rfl, e0, (by decide : 0 + 1 ≤ _), (by decide : 0 + 8 ≤ _)⟩)
  dsimp only [Pt.U, Pt.locs, Pt.cells, Pt.slots] at X1 l1 y1 z1 st1 hQ1
  subst l1 y1 z1
  obtain ⟨rb, rfl, N1q, st_1, bb1, KF1⟩ := hQ1
  have N1 := Fr.app N0 N1q
  refine own_Go.st (fun _ kt => st1.trans kt) ?_
  have zz2 : n0 ≤ Array.size T1.heap := Nat.le_trans Z0 KF1.1
  have kk2 : Keep h0 T1.heap [sx] := kk0.trans KF1 (allS (P := fun x => x ∈ [sx] ∨ _) (Or.inl (List.mem_of_getElem? (i := 0) rfl)) all0)
  show own_Go p e below _ (T1.setTop (mkF m 9 #[.val (.ref sx), .val (.ref rc)] []))
  have kk := kk2
  exact own_retV X1 hx Bd.notSynchronized Bd.returns (hb hby own_d_jdk_42_3_9) (by decide) (by decide) ⟨rb, rfl, N1, st_1, bb1, kk⟩
theorem own_ef8 (m : MethodId) (x0 : Addr) (x1 : Addr) (x2 : Int32) (x3 : Int32) : entryFrame m #[(.ref x0), (.ref x1), (.int x2), (.int x3), .null] 6 = mkF m 0 #[.val (.ref x0), .val (.ref x1), .val (.int x2), .val (.int x3), .val .null, .unset] [] := by first | (simp [entryFrame, mkF, argsToLocals, Value.category]; done) | rfl
theorem own_d_jdk_42_149_8 : decode jdk_42_method_149_code 8 = .ok (.aload_n 0, 1) := by decide +kernel
theorem own_d_jdk_42_149_9 : decode jdk_42_method_149_code 9 = .ok (.ldc 7, 2) := by decide +kernel
theorem own_d_jdk_42_149_11 : decode jdk_42_method_149_code 11 = .ok (.getfield 9, 3) := by decide +kernel
theorem own_d_jdk_42_149_14 : decode jdk_42_method_149_code 14 = .ok (.putfield 9, 3) := by decide +kernel
theorem own_d_jdk_42_149_17 : decode jdk_42_method_149_code 17 = .ok (.aload_n 0, 1) := by decide +kernel
theorem own_d_jdk_42_149_18 : decode jdk_42_method_149_code 18 = .ok (.ldc 7, 2) := by decide +kernel
theorem own_d_jdk_42_149_20 : decode jdk_42_method_149_code 20 = .ok (.getfield 15, 3) := by decide +kernel
theorem own_d_jdk_42_149_23 : decode jdk_42_method_149_code 23 = .ok (.putfield 15, 3) := by decide +kernel
theorem own_d_jdk_42_149_26 : decode jdk_42_method_149_code 26 = .ok (.return_, 1) := by decide +kernel
def own_Q_own_si0 (Z : State) (sx rc : Addr) (h0 : Heap) (n0 : Nat) (v : Option Value) (h : Heap) (L : List Loc) : Prop := ∃ rb, v = none ∧ Fr n0 L ∧ own_Str Z h sx rb 0 (fun _ => 0) ∧ Keep h0 h [sx]
set_option maxRecDepth 65536 in
set_option maxHeartbeats 40000000 in
theorem own_si0 (l : Launch) (Z : State) (a0 : Array Value) (hw : ∀ d ∈ tables_1, d.before a0 Z = true) (ws : List Jvm.Cond) (sx rc : Addr) (h0 : Heap) (n0 : Nat) (Z0 : n0 ≤ h0.size) (fE : Exa Z h0 sx "java/lang/String") (fV : Fld Z h0 sx "java/lang/String" "value" "[B" .null) (fC : Fld Z h0 sx "java/lang/String" "coder" "B" (.int 0)) (gs : n0 ≤ sx) (hkp : ∀ (b : Addr) (cl : Cell), Z.heap[b]? = some cl → h0[b]? = some cl) (held : Jvm.Lit.constHeld Z "java/lang/String" 7) (hcw : Jvm.Lit.compactW.before a0 Z = true) :
    MetFree l (⟨"java/lang/String", "<init>", "([CIILjava/lang/Void;)V"⟩ : MethodName) (head1 (Jvm.Cond.code (⟨"java/lang/String", "<init>", "([CIILjava/lang/Void;)V"⟩ : MethodName) jdk_42_method_149_code 6 none :: ws) ({ frames := 1, cells := 2, slots := 4, locals := 12 } : Room)) (fun av_ U => av_ = #[(.ref sx), (.ref rc), (.int (0 : Int32)), (.int (0 : Int32)), .null] ∧ Z.Warmed39 U.vm ∧ U.heap = h0 ∧ IB Z U.vm []) (fun _ _ _ _ _ => True) (fun _ U o U' => ∃ v L, o = .returned v ∧ own_Q_own_si0 Z sx rc h0 n0 v U'.heap L ∧ IB Z U'.vm [""] ∧ ReturnedEndW U o U' L ({ frames := 1, cells := 2, slots := 4, locals := 12 } : Room).cells ({ frames := 1, cells := 2, slots := 4, locals := 12 } : Room).slots) := by
  refine MetFree.of_bodySF (plainFor_of_name own_pn2) hisR ?_
  intro p e s m args below meth c s₁ Bd hml0 hP hK
  obtain ⟨rfl, hZ, hh, hIB⟩ := hP
  have hx := Bd.exec
  have hby := Bd.bytes
  have hml : c.maxLocals = 6 := hml0
  have hown : s.vm.findClass "java/lang/String" = some m.cls := findClass_of_methodNamed Bd.named
  have hnm := (name_of_methodNamed Bd.named Bd.method).1
  have X0 : Stand p l e ({ frames := 1, cells := 2, slots := 4, locals := 12 } : Room) (s.setVm s.vm) m #[(.ref sx), (.ref rc), (.int (0 : Int32)), (.int (0 : Int32)), .null] below meth c s₁ [] 0 0 := Stand.of_body Bd
  have e0 : s₁.heap = h0 := by rw [← hh, Bd.state]; rfl
  have N0 := Fr.nil n0
  suffices hgo : own_Go p e below (fun o U' => ∃ v L, o = .returned v ∧ own_Q_own_si0 Z sx rc h0 n0 v U'.heap L ∧ IB Z U'.vm [""] ∧ ReturnedEndW s o U' L ({ frames := 1, cells := 2, slots := 4, locals := 12 } : Room).cells ({ frames := 1, cells := 2, slots := 4, locals := 12 } : Room).slots) (s₁.setTop (mkF m 0 #[.val (.ref sx), .val (.ref rc), .val (.int (0 : Int32)), .val (.int (0 : Int32)), .val .null, .unset] [])) by
    obtain ⟨s₂, o, h1, h2, h3, h4⟩ := hgo
    exact ⟨s₂, o, castTop (own_ef8 m sx rc (0 : Int32) (0 : Int32)) h1, h2, h3, h4⟩
  have hS0 : s.Since s.vm (Array.size h0) := State.WarmedH.since (State.WarmedH.refl _) _
  have kk0 : Keep h0 h0 [sx] := Keep.refl _ _
  show own_Go p e below _ (s₁.setTop (mkF m 0 #[.val (.ref sx), .val (.ref rc), .val (.int (0 : Int32)), .val (.int (0 : Int32)), .val .null, .unset] []))
  refine own_Go.st (fun _ kt => XS.aloadN X0.here hx rfl (hb hby own_d_jdk_42_149_0) rfl rfl kt) ?_
  show own_Go p e below _ (s₁.setTop (mkF m 1 #[.val (.ref sx), .val (.ref rc), .val (.int (0 : Int32)), .val (.int (0 : Int32)), .val .null, .unset] [(.ref sx)]))
  obtain ⟨T1, X1, e1, st1⟩ := initO X0 hx hZ hown (hw _ (List.mem_of_getElem? (i := 19) rfl)) (hw _ (List.mem_of_getElem? (i := 20) rfl)) (hw _ (List.mem_of_getElem? (i := 21) rfl)) e0 (g := (mkF m 1 #[.val (.ref sx), .val (.ref rc), .val (.int (0 : Int32)), .val (.int (0 : Int32)), .val .null, .unset] [(.ref sx)])) rfl (by rw [hml]; rfl) rfl (hb hby own_d_jdk_42_149_1) (by decide) (W := 0) (by show 2 * 0 + _ ≤ _; exact Nat.le_of_eq rfl) (by decide)
  refine own_Go.st st1 ?_
  show own_Go p e below _ (T1.setTop (mkF m 4 #[.val (.ref sx), .val (.ref rc), .val (.int (0 : Int32)), .val (.int (0 : Int32)), .val .null, .unset] []))
  refine own_Go.st (fun _ kt => XS.iloadN X1.here hx rfl (hb hby own_d_jdk_42_149_4) rfl kt) ?_
  show own_Go p e below _ (T1.setTop (mkF m 5 #[.val (.ref sx), .val (.ref rc), .val (.int (0 : Int32)), .val (.int (0 : Int32)), .val .null, .unset] [(.int (0 : Int32))]))
  refine own_Go.st (fun _ kt => XS.ifNo X1.here hx rfl (hb hby own_d_jdk_42_149_5) rfl ((if0 _ _).trans (teq rfl).2) kt) ?_
  show own_Go p e below _ (T1.setTop (mkF m 8 #[.val (.ref sx), .val (.ref rc), .val (.int (0 : Int32)), .val (.int (0 : Int32)), .val .null, .unset] []))
  refine own_Go.st (fun _ kt => XS.aloadN X1.here hx rfl (hb hby own_d_jdk_42_149_8) rfl rfl kt) ?_
  show own_Go p e below _ (T1.setTop (mkF m 9 #[.val (.ref sx), .val (.ref rc), .val (.int (0 : Int32)), .val (.int (0 : Int32)), .val .null, .unset] [(.ref sx)]))
  obtain ⟨sq, T2, h2, k2, bq, kb2, X2, e2, E2, hS2, hk2, hZ2, ho2, Ex2, Cd2, Vl2, Av2, -, -, ib2, Lt2, st2⟩ := ldcSVL X1 hx hZ hown (hw _ (List.mem_of_getElem? (i := 22) rfl)) (own_strAtoms hw) e1 hS0 (Nat.le_refl _) (Fr.nil _) (fun b cl q => by rw [hh]; exact hkp b cl q) hIB (by decide) held hcw (vs := ([] : List Int32).map Value.int) (z := (0 : Int32)) ⟨by decide, by decide⟩ (by decide) rfl (g := (mkF m 9 #[.val (.ref sx), .val (.ref rc), .val (.int (0 : Int32)), .val (.int (0 : Int32)), .val .null, .unset] [(.ref sx)])) rfl (hb hby own_d_jdk_42_149_9) (n := 0) (by decide) (by decide) (by decide) (by decide)
  refine own_Go.st st2 ?_
  have zz3 : n0 ≤ Array.size h2 := Nat.le_trans Z0 E2.1
  have kk3 : Keep h0 h2 [sx] := kk0.ext E2
  have sa2 := (own_Ar.arv Av2 (n := 0) rfl).congr (fun j _ => own_getD_map ([] : List Int32) j)
  show own_Go p e below _ (T2.setTop (mkF m 11 #[.val (.ref sx), .val (.ref rc), .val (.int (0 : Int32)), .val (.int (0 : Int32)), .val .null, .unset] [(.ref sq), (.ref sx)]))
  have f4 := (fV.ext E2)
  have neq : sq ≠ sx := fun q => by
    have q1 := Vl2
    rw [q] at q1
    have q2 := own_fld_det q1 f4
    cases q2
  have neb : bq ≠ sx := own_ne0 sa2 f4
  obtain ⟨T5, X5, e5, st5⟩ := getF X2 hx hZ2 ho2 (host := "") (Or.inl (hw _ (List.mem_of_getElem? (i := 28) rfl))) Via.refl e2 Vl2 (g := (mkF m 11 #[.val (.ref sx), .val (.ref rc), .val (.int (0 : Int32)), .val (.int (0 : Int32)), .val .null, .unset] [(.ref sq), (.ref sx)])) rfl rfl (hb hby own_d_jdk_42_149_11)
  refine own_Go.st st5 ?_
  show own_Go p e below _ (T5.setTop (mkF m 14 #[.val (.ref sx), .val (.ref rc), .val (.int (0 : Int32)), .val (.int (0 : Int32)), .val .null, .unset] [(.ref bq), (.ref sx)]))
  have f6 := (fE.ext E2)
  obtain ⟨T7, h7, X7, e7, W7, st7⟩ := putF X5 hx hZ2 ho2 (host := "") (Or.inl (hw _ (List.mem_of_getElem? (i := 28) rfl))) Via.refl e5 f4 f6 (Or.inr ⟨(hw _ (List.mem_of_getElem? (i := 24) rfl)), rfl, hnm⟩) (hw _ (List.mem_of_getElem? (i := 7) rfl)) (ty := (.array .byte)) (by decide) rfl rfl (g := (mkF m 14 #[.val (.ref sx), .val (.ref rc), .val (.int (0 : Int32)), .val (.int (0 : Int32)), .val .null, .unset] [(.ref bq), (.ref sx)])) rfl rfl (hb hby own_d_jdk_42_149_14)
  refine own_Go.st st7 ?_
  have N7 := Fr.snoc X7 N0 gs
  have f7_value := Fld.same W7 f4
  have zz8 : n0 ≤ Array.size h7 := Nat.le_trans zz3 (Nat.le_of_eq (Wr.size W7).symm)
  have kk8 : Keep h0 h7 [sx] := kk3.wr W7 (Or.inl (List.mem_of_getElem? (i := 0) rfl))
  have hk8 : k2 ≤ Array.size h7 := Nat.le_trans hk2 (Nat.le_of_eq (Wr.size W7).symm)
  show own_Go p e below _ (T7.setTop (mkF m 17 #[.val (.ref sx), .val (.ref rc), .val (.int (0 : Int32)), .val (.int (0 : Int32)), .val .null, .unset] []))
  refine own_Go.st (fun _ kt => XS.aloadN X7.here hx rfl (hb hby own_d_jdk_42_149_17) rfl rfl kt) ?_
  show own_Go p e below _ (T7.setTop (mkF m 18 #[.val (.ref sx), .val (.ref rc), .val (.int (0 : Int32)), .val (.int (0 : Int32)), .val .null, .unset] [(.ref sx)]))
  refine own_Go.st (fun _ kt => ldcAgain X7 hx hZ2 ho2 (hw _ (List.mem_of_getElem? (i := 22) rfl)) Lt2 (g := (mkF m 18 #[.val (.ref sx), .val (.ref rc), .val (.int (0 : Int32)), .val (.int (0 : Int32)), .val .null, .unset] [(.ref sx)])) rfl (hb hby own_d_jdk_42_149_18) _ kt) ?_
  show own_Go p e below _ (T7.setTop (mkF m 20 #[.val (.ref sx), .val (.ref rc), .val (.int (0 : Int32)), .val (.int (0 : Int32)), .val .null, .unset] [(.ref sq), (.ref sx)]))
  have f9 := (Cd2.other W7 (Or.inl neq))
  obtain ⟨T10, X10, e10, st10⟩ := getF X7 hx hZ2 ho2 (host := "") (Or.inl (hw _ (List.mem_of_getElem? (i := 29) rfl))) Via.refl e7 f9 (g := (mkF m 20 #[.val (.ref sx), .val (.ref rc), .val (.int (0 : Int32)), .val (.int (0 : Int32)), .val .null, .unset] [(.ref sq), (.ref sx)])) rfl rfl (hb hby own_d_jdk_42_149_20)
  refine own_Go.st st10 ?_
  show own_Go p e below _ (T10.setTop (mkF m 23 #[.val (.ref sx), .val (.ref rc), .val (.int (0 : Int32)), .val (.int (0 : Int32)), .val .null, .unset] [(.int (0 : Int32)), (.ref sx)]))
  have f11 := ((fC.ext E2).other W7 (Or.inr (slot_ne (Or.inr (hw _ (List.mem_of_getElem? (i := 25) rfl))) (Or.inr (hw _ (List.mem_of_getElem? (i := 24) rfl))) (by decide) (t := .byte) (t' := (.array .byte)) (by decide) (by decide))))
  have f12 := (f6.wr W7)
  obtain ⟨T13, h13, X13, e13, W13, st13⟩ := putF X10 hx hZ2 ho2 (host := "") (Or.inl (hw _ (List.mem_of_getElem? (i := 29) rfl))) Via.refl e10 f11 f12 (Or.inr ⟨(hw _ (List.mem_of_getElem? (i := 25) rfl)), rfl, hnm⟩) (hw _ (List.mem_of_getElem? (i := 7) rfl)) (ty := .byte) (by decide) rfl rfl (g := (mkF m 23 #[.val (.ref sx), .val (.ref rc), .val (.int (0 : Int32)), .val (.int (0 : Int32)), .val .null, .unset] [(.int (0 : Int32)), (.ref sx)])) rfl rfl (hb hby own_d_jdk_42_149_23)
  refine own_Go.st st13 ?_
  have N13 := Fr.snoc X13 N7 gs
  have f13_coder := Fld.same W13 f11
  have zz14 : n0 ≤ Array.size h13 := Nat.le_trans zz8 (Nat.le_of_eq (Wr.size W13).symm)
  have kk14 : Keep h0 h13 [sx] := kk8.wr W13 (Or.inl (List.mem_of_getElem? (i := 0) rfl))
  have hk14 : k2 ≤ Array.size h13 := Nat.le_trans hk8 (Nat.le_of_eq (Wr.size W13).symm)
  show own_Go p e below _ (T13.setTop (mkF m 26 #[.val (.ref sx), .val (.ref rc), .val (.int (0 : Int32)), .val (.int (0 : Int32)), .val .null, .unset] []))
  have f15 := (f12.wr W13)
  have f16 := (f7_value.other W13 (Or.inr (slot_ne (Or.inr (hw _ (List.mem_of_getElem? (i := 24) rfl))) (Or.inr (hw _ (List.mem_of_getElem? (i := 25) rfl))) (by decide) (t := (.array .byte)) (t' := .byte) (by decide) (by decide))))
  have f17 := ((sa2.other W7 neb).other W13 neb)
  have fin : own_Str Z h13 sx bq 0 (fun _ => 0) := ⟨f15, f13_coder, f16, f17.congr fun j hj => absurd hj (Nat.not_lt_zero j)⟩
  have kk := kk14
  rw [← e13] at fin kk
  exact own_retWVI X13 hx Bd.notSynchronized Bd.returns hS2 (Nat.le_trans hk14 (Nat.le_of_eq (congrArg Array.size e13).symm)) (hb hby own_d_jdk_42_149_26) (own_IB_at X13 ib2) (by decide) (by decide) ⟨bq, rfl, N13, fin, kk⟩
theorem own_ef9 (m : MethodId) (x0 : Addr) (x1 : Addr) : entryFrame m #[(.ref x0), (.ref x1)] 2 = mkF m 0 #[.val (.ref x0), .val (.ref x1)] [] := by first | (simp [entryFrame, mkF, argsToLocals, Value.category]; done) | rfl
def own_Q_own_s10 (Z : State) (sx rc : Addr) (f : Nat → Value) (h0 : Heap) (n0 : Nat) (v : Option Value) (h : Heap) (L : List Loc) : Prop := ∃ rb, v = none ∧ Fr n0 L ∧ own_Str Z h sx rb 0 (fun _ => 0) ∧ Keep h0 h [sx]
set_option maxRecDepth 65536 in
set_option maxHeartbeats 40000000 in
theorem own_s10 (l : Launch) (Z : State) (a0 : Array Value) (hw : ∀ d ∈ tables_1, d.before a0 Z = true) (ws : List Jvm.Cond) (sx rc : Addr) (f : Nat → Value) (h0 : Heap) (n0 : Nat) (Z0 : n0 ≤ h0.size) (fE : Exa Z h0 sx "java/lang/String") (fV : Fld Z h0 sx "java/lang/String" "value" "[B" .null) (fC : Fld Z h0 sx "java/lang/String" "coder" "B" (.int 0)) (gs : n0 ≤ sx) (hkp : ∀ (b : Addr) (cl : Cell), Z.heap[b]? = some cl → h0[b]? = some cl) (held : Jvm.Lit.constHeld Z "java/lang/String" 7) (hcw : Jvm.Lit.compactW.before a0 Z = true) (ac : own_Ar Z h0 rc .char 0 f) :
    MetFree l (⟨"java/lang/String", "<init>", "([C)V"⟩ : MethodName) (head1 (Jvm.Cond.code (⟨"java/lang/String", "<init>", "([C)V"⟩ : MethodName) jdk_42_method_3_code 2 none :: ws) ({ frames := 2, cells := 2, slots := 4, locals := 29 } : Room)) (fun av_ U => av_ = #[(.ref sx), (.ref rc)] ∧ Z.Warmed39 U.vm ∧ U.heap = h0 ∧ IB Z U.vm []) (fun _ _ _ _ _ => True) (fun _ U o U' => ∃ v L, o = .returned v ∧ own_Q_own_s10 Z sx rc f h0 n0 v U'.heap L ∧ IB Z U'.vm [""] ∧ ReturnedEndW U o U' L ({ frames := 2, cells := 2, slots := 4, locals := 29 } : Room).cells ({ frames := 2, cells := 2, slots := 4, locals := 29 } : Room).slots) := by
  refine MetFree.of_bodySF (plainFor_of_name own_pn2) hisR ?_
  intro p e s m args below meth c s₁ Bd hml0 hP hK
  obtain ⟨rfl, hZ, hh, hIB⟩ := hP
  have hx := Bd.exec
  have hby := Bd.bytes
  have hml : c.maxLocals = 2 := hml0
  have hown : s.vm.findClass "java/lang/String" = some m.cls := findClass_of_methodNamed Bd.named
  have hnm := (name_of_methodNamed Bd.named Bd.method).1
  have X0 : Stand p l e ({ frames := 2, cells := 2, slots := 4, locals := 29 } : Room) (s.setVm s.vm) m #[(.ref sx), (.ref rc)] below meth c s₁ [] 0 0 := Stand.of_body Bd
  have e0 : s₁.heap = h0 := by rw [← hh, Bd.state]; rfl
  have N0 := Fr.nil n0
  suffices hgo : own_Go p e below (fun o U' => ∃ v L, o = .returned v ∧ own_Q_own_s10 Z sx rc f h0 n0 v U'.heap L ∧ IB Z U'.vm [""] ∧ ReturnedEndW s o U' L ({ frames := 2, cells := 2, slots := 4, locals := 29 } : Room).cells ({ frames := 2, cells := 2, slots := 4, locals := 29 } : Room).slots) (s₁.setTop (mkF m 0 #[.val (.ref sx), .val (.ref rc)] [])) by
    obtain ⟨s₂, o, h1, h2, h3, h4⟩ := hgo
    exact ⟨s₂, o, castTop (own_ef9 m sx rc) h1, h2, h3, h4⟩
  have hS0 : s.Since s.vm (Array.size h0) := State.WarmedH.since (State.WarmedH.refl _) _
  have kk0 : Keep h0 h0 [sx] := Keep.refl _ _
  show own_Go p e below _ (s₁.setTop (mkF m 0 #[.val (.ref sx), .val (.ref rc)] []))
  refine own_Go.st (fun _ kt => XS.aloadN X0.here hx rfl (hb hby own_d_jdk_42_3_0) rfl rfl kt) ?_
  show own_Go p e below _ (s₁.setTop (mkF m 1 #[.val (.ref sx), .val (.ref rc)] [(.ref sx)]))
  refine own_Go.st (fun _ kt => XS.aloadN X0.here hx rfl (hb hby own_d_jdk_42_3_1) rfl rfl kt) ?_
  show own_Go p e below _ (s₁.setTop (mkF m 2 #[.val (.ref sx), .val (.ref rc)] [(.ref rc), (.ref sx)]))
  refine own_Go.st (fun _ kt => XS.iconst X0.here hx rfl (hb hby own_d_jdk_42_3_2) kt) ?_
  show own_Go p e below _ (s₁.setTop (mkF m 3 #[.val (.ref sx), .val (.ref rc)] [(.int (0 : Int32)), (.ref rc), (.ref sx)]))
  refine own_Go.st (fun _ kt => XS.aloadN X0.here hx rfl (hb hby own_d_jdk_42_3_3) rfl rfl kt) ?_
  show own_Go p e below _ (s₁.setTop (mkF m 4 #[.val (.ref sx), .val (.ref rc)] [(.ref rc), (.int (0 : Int32)), (.ref rc), (.ref sx)]))
  refine own_Go.st (fun _ kt => own_alen X0 hx hZ e0 ac (z := (0 : Int32)) (by decide) (g := (mkF m 4 #[.val (.ref sx), .val (.ref rc)] [(.ref rc), (.int (0 : Int32)), (.ref rc), (.ref sx)])) rfl rfl (hb hby own_d_jdk_42_3_4) _ kt) ?_
  show own_Go p e below _ (s₁.setTop (mkF m 5 #[.val (.ref sx), .val (.ref rc)] [(.int (0 : Int32)), (.int (0 : Int32)), (.ref rc), (.ref sx)]))
  refine own_Go.st (fun _ kt => XS.aconstNull X0.here hx rfl (hb hby own_d_jdk_42_3_5) kt) ?_
  show own_Go p e below _ (s₁.setTop (mkF m 6 #[.val (.ref sx), .val (.ref rc)] [.null, (.int (0 : Int32)), (.int (0 : Int32)), (.ref rc), (.ref sx)]))
  obtain ⟨_, _, ⟨T1, L1, k1, n1⟩, -, X1, hS1, hgr1, ⟨Lc1, hQ1, l1, y1, z1, ib1⟩, st1⟩ := X0.specialBackS hx (y := (⟨"java/lang/String", "<init>", "([CIILjava/lang/Void;)V"⟩ : MethodName)) rfl hown (mvT hZ (hw _ (List.mem_of_getElem? (i := 15) rfl))) (mvT hZ (hw _ (List.mem_of_getElem? (i := 16) rfl))) (mvT hZ (hw _ (List.mem_of_getElem? (i := 18) rfl))) (by decide) (own_backSI (W := 0) (own_si0 l Z a0 hw [] sx rc h0 n0 Z0 fE fV fC gs hkp held hcw) hZ (hw _ (List.mem_of_getElem? (i := 18) rfl)) (hw _ (List.mem_of_getElem? (i := 8) rfl)) (by decide) (by decide) hIB) (g := (mkF m 6 #[.val (.ref sx), .val (.ref rc)] [.null, (.int (0 : Int32)), (.int (0 : Int32)), (.ref rc), (.ref sx)])) rfl (by rw [hml]; rfl) (Steps.refl _) (a := sx) (argsL := [(.ref rc), (.int (0 : Int32)), (.int (0 : Int32)), .null]) (rest := []) (lenOf own_pd3 rfl) rfl (by show 2 * 0 + _ ≤ _; exact Nat.le_of_eq rfl) (hb hby own_d_jdk_42_3_6) (fun _ _ => ⟨rfl, e0, (by decide : 0 + 2 ≤ _), (by decide : 0 + 4 ≤ _)⟩)
  dsimp only [Pt.U, Pt.locs, Pt.cells, Pt.slots] at X1 l1 y1 z1 st1 hQ1 hS1 hgr1 ib1
  subst l1 y1 z1
  obtain ⟨rb, rfl, N1q, st_1, KF1⟩ := hQ1
  have N1 := Fr.app N0 N1q
  refine own_Go.st (fun _ kt => st1.trans kt) ?_
  have hZ1 : Z.Warmed39 (s.setVm T1.vm).vm := State.Warmed39.trans (t := s.setVm s.vm) hZ hS1.1
  have ho1 : (s.setVm T1.vm).vm.findClass "java/lang/String" = some m.cls := by rw [show (s.setVm T1.vm).vm = T1.vm from rfl, hS1.1.alike.findClass]; exact hown
  have hT1 : s.Since T1.vm (Array.size T1.heap) := State.Since.trans hS0 hS1 (Nat.le_trans (Nat.le_refl _) (Nat.le_trans (Nat.le_of_eq (congrArg Array.size e0).symm) hgr1))
  have zz2 : n0 ≤ Array.size T1.heap := Nat.le_trans Z0 KF1.1
  have kk2 : Keep h0 T1.heap [sx] := kk0.trans KF1 (allS (P := fun x => x ∈ [sx] ∨ _) (Or.inl (List.mem_of_getElem? (i := 0) rfl)) all0)
  show own_Go p e below _ (T1.setTop (mkF m 9 #[.val (.ref sx), .val (.ref rc)] []))
  have kk := kk2
  exact own_retWVI X1 hx Bd.notSynchronized Bd.returns hT1 (Nat.le_trans (Nat.le_of_eq (congrArg Array.size rfl)) (Nat.le_of_eq (congrArg Array.size rfl).symm)) (hb hby own_d_jdk_42_3_9) (own_IB_at X1 ib1) (by decide) (by decide) ⟨rb, rfl, N1, st_1, kk⟩
theorem own_pn3 : plainName "java/lang/StringLatin1" = true := by first | (simp [plainName, overriddenIn]; done) | decide +kernel
theorem own_ef10 (m : MethodId) (x0 : Addr) (x1 : Addr) : entryFrame m #[(.ref x0), (.ref x1)] 3 = mkF m 0 #[.val (.ref x0), .val (.ref x1), .unset] [] := by first | (simp [entryFrame, mkF, argsToLocals, Value.category]; done) | rfl
theorem own_d_jdk_43_13_0 : decode jdk_43_method_13_code 0 = .ok (.aload_n 0, 1) := by decide +kernel
theorem own_d_jdk_43_13_1 : decode jdk_43_method_13_code 1 = .ok (.arraylength, 1) := by decide +kernel
theorem own_d_jdk_43_13_2 : decode jdk_43_method_13_code 2 = .ok (.aload_n 1, 1) := by decide +kernel
theorem own_d_jdk_43_13_3 : decode jdk_43_method_13_code 3 = .ok (.arraylength, 1) := by decide +kernel
theorem own_d_jdk_43_13_4 : decode jdk_43_method_13_code 4 = .ok (.if_icmp .ne 30, 3) := by decide +kernel
theorem own_d_jdk_43_13_7 : decode jdk_43_method_13_code 7 = .ok (.iconst 0, 1) := by decide +kernel
theorem own_d_jdk_43_13_8 : decode jdk_43_method_13_code 8 = .ok (.istore_n 2, 1) := by decide +kernel
theorem own_d_jdk_43_13_9 : decode jdk_43_method_13_code 9 = .ok (.iload_n 2, 1) := by decide +kernel
theorem own_d_jdk_43_13_10 : decode jdk_43_method_13_code 10 = .ok (.aload_n 0, 1) := by decide +kernel
theorem own_d_jdk_43_13_11 : decode jdk_43_method_13_code 11 = .ok (.arraylength, 1) := by decide +kernel
theorem own_d_jdk_43_13_12 : decode jdk_43_method_13_code 12 = .ok (.if_icmp .ge 20, 3) := by decide +kernel
theorem own_d_jdk_43_13_15 : decode jdk_43_method_13_code 15 = .ok (.aload_n 0, 1) := by decide +kernel
theorem own_d_jdk_43_13_16 : decode jdk_43_method_13_code 16 = .ok (.iload_n 2, 1) := by decide +kernel
theorem own_d_jdk_43_13_17 : decode jdk_43_method_13_code 17 = .ok (.baload, 1) := by decide +kernel
theorem own_d_jdk_43_13_18 : decode jdk_43_method_13_code 18 = .ok (.aload_n 1, 1) := by decide +kernel
theorem own_d_jdk_43_13_19 : decode jdk_43_method_13_code 19 = .ok (.iload_n 2, 1) := by decide +kernel
theorem own_d_jdk_43_13_20 : decode jdk_43_method_13_code 20 = .ok (.baload, 1) := by decide +kernel
theorem own_d_jdk_43_13_21 : decode jdk_43_method_13_code 21 = .ok (.if_icmp .eq 5, 3) := by decide +kernel
theorem own_d_jdk_43_13_26 : decode jdk_43_method_13_code 26 = .ok (.iinc 2 1, 3) := by decide +kernel
theorem own_d_jdk_43_13_29 : decode jdk_43_method_13_code 29 = .ok (.goto (-20), 3) := by decide +kernel
theorem own_d_jdk_43_13_24 : decode jdk_43_method_13_code 24 = .ok (.iconst 0, 1) := by decide +kernel
theorem own_d_jdk_43_13_25 : decode jdk_43_method_13_code 25 = .ok (.ireturn, 1) := by decide +kernel
theorem own_d_jdk_43_13_32 : decode jdk_43_method_13_code 32 = .ok (.iconst 1, 1) := by decide +kernel
theorem own_d_jdk_43_13_33 : decode jdk_43_method_13_code 33 = .ok (.ireturn, 1) := by decide +kernel
theorem own_d_jdk_43_13_34 : decode jdk_43_method_13_code 34 = .ok (.iconst 0, 1) := by decide +kernel
theorem own_d_jdk_43_13_35 : decode jdk_43_method_13_code 35 = .ok (.ireturn, 1) := by decide +kernel
def own_Q_own_leq (Z : State) (ba bc : Addr) (n n2 : Nat) (g g2 : Nat → Int32) (h0 : Heap) (n0 : Nat) (v : Option Value) (h : Heap) (L : List Loc) : Prop := ∃ z, v = some (.int z) ∧ Fr n0 L ∧ own_B z (own_eqt n g n2 g2) ∧ h = h0
set_option maxRecDepth 65536 in
set_option maxHeartbeats 40000000 in
theorem own_leq (l : Launch) (Z : State) (a0 : Array Value) (hw : ∀ d ∈ tables_1, d.before a0 Z = true) (ws : List Jvm.Cond) (ba bc : Addr) (n n2 : Nat) (g g2 : Nat → Int32) (h0 : Heap) (n0 : Nat) (Z0 : n0 ≤ h0.size) (aa : own_Ar Z h0 ba .byte n (fun j => .int (g j))) (ab : own_Ar Z h0 bc .byte n2 (fun j => .int (g2 j))) (hl : n ≤ 8) (hl2 : n2 ≤ 8) :
    MetFree l (⟨"java/lang/StringLatin1", "equals", "([B[B)Z"⟩ : MethodName) (head1 (Jvm.Cond.code (⟨"java/lang/StringLatin1", "equals", "([B[B)Z"⟩ : MethodName) jdk_43_method_13_code 3 (some .boolean) :: ws) ({ frames := 0, cells := 0, slots := 0, locals := 0 } : Room)) (fun av_ U => av_ = #[(.ref ba), (.ref bc)] ∧ Z.Warmed39 U.vm ∧ U.heap = h0) (fun _ _ _ _ _ => True) (fun _ U o U' => ∃ v L, o = .returned v ∧ own_Q_own_leq Z ba bc n n2 g g2 h0 n0 v U'.heap L ∧ FrameEnd U o U' L ({ frames := 0, cells := 0, slots := 0, locals := 0 } : Room).cells ({ frames := 0, cells := 0, slots := 0, locals := 0 } : Room).slots) := by
  refine MetFree.of_bodySF (plainFor_of_name own_pn3) hisR ?_
  intro p e s m args below meth c s₁ Bd hml0 hP hK
  obtain ⟨rfl, hZ, hh⟩ := hP
  have hx := Bd.exec
  have hby := Bd.bytes
  have hml : c.maxLocals = 3 := hml0
  have hown : s.vm.findClass "java/lang/StringLatin1" = some m.cls := findClass_of_methodNamed Bd.named
  have hnm := (name_of_methodNamed Bd.named Bd.method).1
  have X0 : Stand p l e ({ frames := 0, cells := 0, slots := 0, locals := 0 } : Room) s m #[(.ref ba), (.ref bc)] below meth c s₁ [] 0 0 := Stand.of_body Bd
  have e0 : s₁.heap = h0 := by rw [← hh, Bd.state]; rfl
  have N0 := Fr.nil n0
  suffices hgo : own_Go p e below (fun o U' => ∃ v L, o = .returned v ∧ own_Q_own_leq Z ba bc n n2 g g2 h0 n0 v U'.heap L ∧ FrameEnd s o U' L ({ frames := 0, cells := 0, slots := 0, locals := 0 } : Room).cells ({ frames := 0, cells := 0, slots := 0, locals := 0 } : Room).slots) (s₁.setTop (mkF m 0 #[.val (.ref ba), .val (.ref bc), .unset] [])) by
    obtain ⟨s₂, o, h1, h2, h3, h4⟩ := hgo
    exact ⟨s₂, o, castTop (own_ef10 m ba bc) h1, h2, h3, h4⟩
  show own_Go p e below _ (s₁.setTop (mkF m 0 #[.val (.ref ba), .val (.ref bc), .unset] []))
  have en1 : (Nat.toInt32 n).toInt = (n : Int) := len_toInt (by omega)
  have en2 : (Nat.toInt32 n2).toInt = (n2 : Int) := len_toInt (by omega)
  refine own_Go.st (fun _ kt => XS.aloadN X0.here hx rfl (hb hby own_d_jdk_43_13_0) rfl rfl kt) ?_
  show own_Go p e below _ (s₁.setTop (mkF m 1 #[.val (.ref ba), .val (.ref bc), .unset] [(.ref ba)]))
  refine own_Go.st (fun _ kt => own_alen X0 hx hZ e0 aa (z := (Nat.toInt32 n)) en1 (g := (mkF m 1 #[.val (.ref ba), .val (.ref bc), .unset] [(.ref ba)])) rfl rfl (hb hby own_d_jdk_43_13_1) _ kt) ?_
  show own_Go p e below _ (s₁.setTop (mkF m 2 #[.val (.ref ba), .val (.ref bc), .unset] [(.int (Nat.toInt32 n))]))
  refine own_Go.st (fun _ kt => XS.aloadN X0.here hx rfl (hb hby own_d_jdk_43_13_2) rfl rfl kt) ?_
  show own_Go p e below _ (s₁.setTop (mkF m 3 #[.val (.ref ba), .val (.ref bc), .unset] [(.ref bc), (.int (Nat.toInt32 n))]))
  refine own_Go.st (fun _ kt => own_alen X0 hx hZ e0 ab (z := (Nat.toInt32 n2)) en2 (g := (mkF m 3 #[.val (.ref ba), .val (.ref bc), .unset] [(.ref bc), (.int (Nat.toInt32 n))])) rfl rfl (hb hby own_d_jdk_43_13_3) _ kt) ?_
  show own_Go p e below _ (s₁.setTop (mkF m 4 #[.val (.ref ba), .val (.ref bc), .unset] [(.int (Nat.toInt32 n2)), (.int (Nat.toInt32 n))]))
  by_cases hc4 : (Nat.toInt32 n) = (Nat.toInt32 n2)
  · refine own_Go.st (fun _ kt => XS.icmpNo X0.here hx rfl (hb hby own_d_jdk_43_13_4) rfl (teq hc4).2 kt) ?_
    show own_Go p e below _ (s₁.setTop (mkF m 7 #[.val (.ref ba), .val (.ref bc), .unset] []))
    refine own_Go.st (fun _ kt => XS.iconst X0.here hx rfl (hb hby own_d_jdk_43_13_7) kt) ?_
    show own_Go p e below _ (s₁.setTop (mkF m 8 #[.val (.ref ba), .val (.ref bc), .unset] [(.int (0 : Int32))]))
    refine own_Go.st (fun _ kt => XS.istoreN X0.here hx rfl (hb hby own_d_jdk_43_13_8) rfl (l' := #[.val (.ref ba), .val (.ref bc), .val (.int (0 : Int32))]) rfl kt) ?_
    show own_Go p e below _ (s₁.setTop (mkF m 9 #[.val (.ref ba), .val (.ref bc), .val (.int (0 : Int32))] []))
    have heq : n = n2 := by have := congrArg Int32.toInt hc4; rw [en1, en2] at this; omega
    have LO : ∀ (td : Nat) (T1 : State) (lc1 : List Loc) (X1 : Stand p l e ({ frames := 0, cells := 0, slots := 0, locals := 0 } : Room) s m #[(.ref ba), (.ref bc)] below meth c T1 lc1 0 0) (e1 : T1.heap = h0) (N1 : Fr n0 lc1) (i : Nat) (xi : Int32) (ht : i + td = n) (hi : xi.toInt = (i : Int)) (hs : ∀ j, j < i → g j = g2 j), own_Go p e below (fun o U' => ∃ v L, o = .returned v ∧ own_Q_own_leq Z ba bc n n2 g g2 h0 n0 v U'.heap L ∧ FrameEnd s o U' L ({ frames := 0, cells := 0, slots := 0, locals := 0 } : Room).cells ({ frames := 0, cells := 0, slots := 0, locals := 0 } : Room).slots) (T1.setTop (mkF m 9 #[.val (.ref ba), .val (.ref bc), .val (.int xi)] [])) := by
      intro td
      induction td using Nat.strongRecOn with
      | ind td IH =>
        intro T1 lc1 X1 e1 N1 i xi ht hi hs
        show own_Go p e below _ (T1.setTop (mkF m 9 #[.val (.ref ba), .val (.ref bc), .val (.int xi)] []))
        refine own_Go.st (fun _ kt => XS.iloadN X1.here hx rfl (hb hby own_d_jdk_43_13_9) rfl kt) ?_
        show own_Go p e below _ (T1.setTop (mkF m 10 #[.val (.ref ba), .val (.ref bc), .val (.int xi)] [(.int xi)]))
        refine own_Go.st (fun _ kt => XS.aloadN X1.here hx rfl (hb hby own_d_jdk_43_13_10) rfl rfl kt) ?_
        show own_Go p e below _ (T1.setTop (mkF m 11 #[.val (.ref ba), .val (.ref bc), .val (.int xi)] [(.ref ba), (.int xi)]))
        refine own_Go.st (fun _ kt => own_alen X1 hx hZ e1 aa (z := (Nat.toInt32 n)) en1 (g := (mkF m 11 #[.val (.ref ba), .val (.ref bc), .val (.int xi)] [(.ref ba), (.int xi)])) rfl rfl (hb hby own_d_jdk_43_13_11) _ kt) ?_
        show own_Go p e below _ (T1.setTop (mkF m 12 #[.val (.ref ba), .val (.ref bc), .val (.int xi)] [(.int (Nat.toInt32 n)), (.int xi)]))
        have hci : xi < Nat.toInt32 n ↔ i < n := by rw [Int32.lt_iff_toInt_lt, hi, en1]; omega
        by_cases hc12 : xi < (Nat.toInt32 n)
        · refine own_Go.st (fun _ kt => XS.icmpNo X1.here hx rfl (hb hby own_d_jdk_43_13_12) rfl (tlt hc12).2.1 kt) ?_
          show own_Go p e below _ (T1.setTop (mkF m 15 #[.val (.ref ba), .val (.ref bc), .val (.int xi)] []))
          refine own_Go.st (fun _ kt => XS.aloadN X1.here hx rfl (hb hby own_d_jdk_43_13_15) rfl rfl kt) ?_
          show own_Go p e below _ (T1.setTop (mkF m 16 #[.val (.ref ba), .val (.ref bc), .val (.int xi)] [(.ref ba)]))
          refine own_Go.st (fun _ kt => XS.iloadN X1.here hx rfl (hb hby own_d_jdk_43_13_16) rfl kt) ?_
          show own_Go p e below _ (T1.setTop (mkF m 17 #[.val (.ref ba), .val (.ref bc), .val (.int xi)] [(.int xi), (.ref ba)]))
          have hlt := hci.mp hc12
          refine own_Go.st (fun _ kt => own_bald X1 hx hZ e1 aa hi hlt (v := (.int (g i))) rfl (g := (mkF m 17 #[.val (.ref ba), .val (.ref bc), .val (.int xi)] [(.int xi), (.ref ba)])) rfl rfl (hb hby own_d_jdk_43_13_17) _ kt) ?_
          show own_Go p e below _ (T1.setTop (mkF m 18 #[.val (.ref ba), .val (.ref bc), .val (.int xi)] [(.int (g i))]))
          refine own_Go.st (fun _ kt => XS.aloadN X1.here hx rfl (hb hby own_d_jdk_43_13_18) rfl rfl kt) ?_
          show own_Go p e below _ (T1.setTop (mkF m 19 #[.val (.ref ba), .val (.ref bc), .val (.int xi)] [(.ref bc), (.int (g i))]))
          refine own_Go.st (fun _ kt => XS.iloadN X1.here hx rfl (hb hby own_d_jdk_43_13_19) rfl kt) ?_
          show own_Go p e below _ (T1.setTop (mkF m 20 #[.val (.ref ba), .val (.ref bc), .val (.int xi)] [(.int xi), (.ref bc), (.int (g i))]))
          refine own_Go.st (fun _ kt => own_bald X1 hx hZ e1 ab hi (by omega) (v := (.int (g2 i))) rfl (g := (mkF m 20 #[.val (.ref ba), .val (.ref bc), .val (.int xi)] [(.int xi), (.ref bc), (.int (g i))])) rfl rfl (hb hby own_d_jdk_43_13_20) _ kt) ?_
          show own_Go p e below _ (T1.setTop (mkF m 21 #[.val (.ref ba), .val (.ref bc), .val (.int xi)] [(.int (g2 i)), (.int (g i))]))
          by_cases hc21 : (g i) = (g2 i)
          · refine own_Go.st (fun _ kt => XS.icmpYes X1.here hx rfl (pc0 := 21) (pc' := 26) rfl (hb hby own_d_jdk_43_13_21) rfl (teq hc21).1 (by decide) (by decide) kt) ?_
            show own_Go p e below _ (T1.setTop (mkF m 26 #[.val (.ref ba), .val (.ref bc), .val (.int xi)] []))
            refine own_Go.st (fun _ kt => XS.iinc X1.here hx rfl (hb hby own_d_jdk_43_13_26) rfl (l' := #[.val (.ref ba), .val (.ref bc), .val (.int (xi + (1 : Int32)))]) rfl kt) ?_
            show own_Go p e below _ (T1.setTop (mkF m 29 #[.val (.ref ba), .val (.ref bc), .val (.int (xi + (1 : Int32)))] []))
            refine own_Go.st (fun _ kt => XS.goto X1.here hx rfl (pc0 := 29) (pc' := 9) rfl (hb hby own_d_jdk_43_13_29) (by decide) (by decide) kt) ?_
            show own_Go p e below _ (T1.setTop (mkF m 9 #[.val (.ref ba), .val (.ref bc), .val (.int (xi + (1 : Int32)))] []))
            exact IH (td - 1) (by omega) _ _ X1 e1 N1 (i + 1) _ (by omega) (own_inc hi (by omega)) (fun j hj => by
              by_cases q : j = i
              · rw [q]; exact hc21
              · exact hs j (by omega))
          · refine own_Go.st (fun _ kt => XS.icmpNo X1.here hx rfl (hb hby own_d_jdk_43_13_21) rfl (feq hc21).1 kt) ?_
            show own_Go p e below _ (T1.setTop (mkF m 24 #[.val (.ref ba), .val (.ref bc), .val (.int xi)] []))
            refine own_Go.st (fun _ kt => XS.iconst X1.here hx rfl (hb hby own_d_jdk_43_13_24) kt) ?_
            show own_Go p e below _ (T1.setTop (mkF m 25 #[.val (.ref ba), .val (.ref bc), .val (.int xi)] [(.int (0 : Int32))]))
            exact own_retZ X1 hx Bd.notSynchronized Bd.returns (Or.inl rfl) (hb hby own_d_jdk_43_13_25) (by decide) (by decide) ⟨_, rfl, N1, Or.inr ⟨rfl, fun q => hc21 (q.2 i hlt)⟩, e1⟩
        · refine own_Go.st (fun _ kt => XS.icmpYes X1.here hx rfl (pc0 := 12) (pc' := 32) rfl (hb hby own_d_jdk_43_13_12) rfl (flt hc12).2.1 (by decide) (by decide) kt) ?_
          show own_Go p e below _ (T1.setTop (mkF m 32 #[.val (.ref ba), .val (.ref bc), .val (.int xi)] []))
          refine own_Go.st (fun _ kt => XS.iconst X1.here hx rfl (hb hby own_d_jdk_43_13_32) kt) ?_
          show own_Go p e below _ (T1.setTop (mkF m 33 #[.val (.ref ba), .val (.ref bc), .val (.int xi)] [(.int (1 : Int32))]))
          have hge : i = n := by have := mt hci.mpr hc12; omega
          exact own_retZ X1 hx Bd.notSynchronized Bd.returns (Or.inr rfl) (hb hby own_d_jdk_43_13_33) (by decide) (by decide) ⟨_, rfl, N1, Or.inl ⟨rfl, heq, fun j hj => hs j (by omega)⟩, e1⟩
    exact LO n _ _ X0 e0 N0 0 _ (by omega) (by decide) (fun j hj => absurd hj (Nat.not_lt_zero j))
  · refine own_Go.st (fun _ kt => XS.icmpYes X0.here hx rfl (pc0 := 4) (pc' := 34) rfl (hb hby own_d_jdk_43_13_4) rfl (feq hc4).2 (by decide) (by decide) kt) ?_
    show own_Go p e below _ (s₁.setTop (mkF m 34 #[.val (.ref ba), .val (.ref bc), .unset] []))
    refine own_Go.st (fun _ kt => XS.iconst X0.here hx rfl (hb hby own_d_jdk_43_13_34) kt) ?_
    show own_Go p e below _ (s₁.setTop (mkF m 35 #[.val (.ref ba), .val (.ref bc), .unset] [(.int (0 : Int32))]))
    have hne : n ≠ n2 := fun q => hc4 (by rw [q])
    exact own_retZ X0 hx Bd.notSynchronized Bd.returns (Or.inl rfl) (hb hby own_d_jdk_43_13_35) (by decide) (by decide) ⟨_, rfl, N0, Or.inr ⟨rfl, fun q => hne q.1⟩, e0⟩
theorem own_ef11 (m : MethodId) (x0 : Addr) (x1 : Addr) : entryFrame m #[(.ref x0), (.ref x1)] 3 = mkF m 0 #[.val (.ref x0), .val (.ref x1), .unset] [] := by first | (simp [entryFrame, mkF, argsToLocals, Value.category]; done) | rfl
theorem own_d_jdk_42_66_0 : decode jdk_42_method_66_code 0 = .ok (.aload_n 0, 1) := by decide +kernel
theorem own_d_jdk_42_66_1 : decode jdk_42_method_66_code 1 = .ok (.aload_n 1, 1) := by decide +kernel
theorem own_d_jdk_42_66_2 : decode jdk_42_method_66_code 2 = .ok (.if_acmp .ne 5, 3) := by decide +kernel
theorem own_d_jdk_42_66_5 : decode jdk_42_method_66_code 5 = .ok (.iconst 1, 1) := by decide +kernel
theorem own_d_jdk_42_66_6 : decode jdk_42_method_66_code 6 = .ok (.ireturn, 1) := by decide +kernel
theorem own_d_jdk_42_66_7 : decode jdk_42_method_66_code 7 = .ok (.aload_n 1, 1) := by decide +kernel
theorem own_d_jdk_42_66_8 : decode jdk_42_method_66_code 8 = .ok (.instanceof 10, 3) := by decide +kernel
theorem own_d_jdk_42_66_11 : decode jdk_42_method_66_code 11 = .ok (.ifCond .eq 43, 3) := by decide +kernel
theorem own_d_jdk_42_66_14 : decode jdk_42_method_66_code 14 = .ok (.aload_n 1, 1) := by decide +kernel
theorem own_d_jdk_42_66_15 : decode jdk_42_method_66_code 15 = .ok (.checkcast 10, 3) := by decide +kernel
theorem own_d_jdk_42_66_18 : decode jdk_42_method_66_code 18 = .ok (.astore_n 2, 1) := by decide +kernel
theorem own_d_jdk_42_66_19 : decode jdk_42_method_66_code 19 = .ok (.getstatic 38, 3) := by decide +kernel
theorem own_d_jdk_42_66_22 : decode jdk_42_method_66_code 22 = .ok (.ifCond .eq 14, 3) := by decide +kernel
theorem own_d_jdk_42_66_25 : decode jdk_42_method_66_code 25 = .ok (.aload_n 0, 1) := by decide +kernel
theorem own_d_jdk_42_66_26 : decode jdk_42_method_66_code 26 = .ok (.getfield 15, 3) := by decide +kernel
theorem own_d_jdk_42_66_29 : decode jdk_42_method_66_code 29 = .ok (.aload_n 2, 1) := by decide +kernel
theorem own_d_jdk_42_66_30 : decode jdk_42_method_66_code 30 = .ok (.getfield 15, 3) := by decide +kernel
theorem own_d_jdk_42_66_33 : decode jdk_42_method_66_code 33 = .ok (.if_icmp .ne 21, 3) := by decide +kernel
theorem own_d_jdk_42_66_36 : decode jdk_42_method_66_code 36 = .ok (.aload_n 0, 1) := by decide +kernel
theorem own_d_jdk_42_66_37 : decode jdk_42_method_66_code 37 = .ok (.getfield 9, 3) := by decide +kernel
theorem own_d_jdk_42_66_40 : decode jdk_42_method_66_code 40 = .ok (.aload_n 2, 1) := by decide +kernel
theorem own_d_jdk_42_66_41 : decode jdk_42_method_66_code 41 = .ok (.getfield 9, 3) := by decide +kernel
theorem own_pd4 : parseMethodDescriptor "([B[B)Z" = some ⟨[(.array .byte), (.array .byte)], some .boolean⟩ := by decide +kernel
theorem own_d_jdk_42_66_44 : decode jdk_42_method_66_code 44 = .ok (.invokestatic 541, 3) := by decide +kernel
theorem own_d_jdk_42_66_47 : decode jdk_42_method_66_code 47 = .ok (.ifCond .eq 7, 3) := by decide +kernel
theorem own_d_jdk_42_66_50 : decode jdk_42_method_66_code 50 = .ok (.iconst 1, 1) := by decide +kernel
theorem own_d_jdk_42_66_51 : decode jdk_42_method_66_code 51 = .ok (.goto 4, 3) := by decide +kernel
theorem own_d_jdk_42_66_55 : decode jdk_42_method_66_code 55 = .ok (.ireturn, 1) := by decide +kernel
theorem own_d_jdk_42_66_54 : decode jdk_42_method_66_code 54 = .ok (.iconst 0, 1) := by decide +kernel
def own_Q_own_eq (Z : State) (sa sc ba bc : Addr) (n n2 : Nat) (g g2 : Nat → Int32) (zc : Int32) (h0 : Heap) (n0 : Nat) (v : Option Value) (h : Heap) (L : List Loc) : Prop := ∃ z, v = some (.int z) ∧ Fr n0 L ∧ own_B z (own_eqt n g n2 g2) ∧ h = h0
set_option maxRecDepth 65536 in
set_option maxHeartbeats 40000000 in
theorem own_eq (l : Launch) (Z : State) (a0 : Array Value) (hw : ∀ d ∈ tables_1, d.before a0 Z = true) (ws : List Jvm.Cond) (sa sc ba bc : Addr) (n n2 : Nat) (g g2 : Nat → Int32) (zc : Int32) (h0 : Heap) (n0 : Nat) (Z0 : n0 ≤ h0.size) (fa : own_Str Z h0 sa ba n g) (fc : own_Str Z h0 sc bc n2 g2) (cs : Sta Z h0 "java/lang/String" "COMPACT_STRINGS" "Z" (.int zc)) (hzc : ¬ zc = 0) (hl : n ≤ 8) (hl2 : n2 ≤ 8) :
    MetFree l (⟨"java/lang/String", "equals", "(Ljava/lang/Object;)Z"⟩ : MethodName) (head1 (Jvm.Cond.code (⟨"java/lang/String", "equals", "(Ljava/lang/Object;)Z"⟩ : MethodName) jdk_42_method_66_code 3 (some .boolean) :: ws) ({ frames := 1, cells := 0, slots := 0, locals := 14 } : Room)) (fun av_ U => av_ = #[(.ref sa), (.ref sc)] ∧ Z.Warmed39 U.vm ∧ U.heap = h0) (fun _ _ _ _ _ => True) (fun _ U o U' => ∃ v L, o = .returned v ∧ own_Q_own_eq Z sa sc ba bc n n2 g g2 zc h0 n0 v U'.heap L ∧ FrameEnd U o U' L ({ frames := 1, cells := 0, slots := 0, locals := 14 } : Room).cells ({ frames := 1, cells := 0, slots := 0, locals := 14 } : Room).slots) := by
  refine MetFree.of_bodySF (plainFor_of_name own_pn2) hisR ?_
  intro p e s m args below meth c s₁ Bd hml0 hP hK
  obtain ⟨rfl, hZ, hh⟩ := hP
  have hx := Bd.exec
  have hby := Bd.bytes
  have hml : c.maxLocals = 3 := hml0
  have hown : s.vm.findClass "java/lang/String" = some m.cls := findClass_of_methodNamed Bd.named
  have hnm := (name_of_methodNamed Bd.named Bd.method).1
  have X0 : Stand p l e ({ frames := 1, cells := 0, slots := 0, locals := 14 } : Room) s m #[(.ref sa), (.ref sc)] below meth c s₁ [] 0 0 := Stand.of_body Bd
  have e0 : s₁.heap = h0 := by rw [← hh, Bd.state]; rfl
  have N0 := Fr.nil n0
  suffices hgo : own_Go p e below (fun o U' => ∃ v L, o = .returned v ∧ own_Q_own_eq Z sa sc ba bc n n2 g g2 zc h0 n0 v U'.heap L ∧ FrameEnd s o U' L ({ frames := 1, cells := 0, slots := 0, locals := 14 } : Room).cells ({ frames := 1, cells := 0, slots := 0, locals := 14 } : Room).slots) (s₁.setTop (mkF m 0 #[.val (.ref sa), .val (.ref sc), .unset] [])) by
    obtain ⟨s₂, o, h1, h2, h3, h4⟩ := hgo
    exact ⟨s₂, o, castTop (own_ef11 m sa sc) h1, h2, h3, h4⟩
  show own_Go p e below _ (s₁.setTop (mkF m 0 #[.val (.ref sa), .val (.ref sc), .unset] []))
  refine own_Go.st (fun _ kt => XS.aloadN X0.here hx rfl (hb hby own_d_jdk_42_66_0) rfl rfl kt) ?_
  show own_Go p e below _ (s₁.setTop (mkF m 1 #[.val (.ref sa), .val (.ref sc), .unset] [(.ref sa)]))
  refine own_Go.st (fun _ kt => XS.aloadN X0.here hx rfl (hb hby own_d_jdk_42_66_1) rfl rfl kt) ?_
  show own_Go p e below _ (s₁.setTop (mkF m 2 #[.val (.ref sa), .val (.ref sc), .unset] [(.ref sc), (.ref sa)]))
  by_cases hcq : sa = sc
  · refine own_Go.st (fun _ kt => Jvm.RoadKit.acmp (g := (mkF m 2 #[.val (.ref sa), .val (.ref sc), .unset] [(.ref sc), (.ref sa)])) X0 hx rfl rfl rfl (pc0 := 2) (pc' := 5) (same := true) rfl (hb hby own_d_jdk_42_66_2) rfl (decide_eq_true (congrArg Value.ref hcq)) (by decide) (by decide) kt) ?_
    show own_Go p e below _ (s₁.setTop (mkF m 5 #[.val (.ref sa), .val (.ref sc), .unset] []))
    refine own_Go.st (fun _ kt => XS.iconst X0.here hx rfl (hb hby own_d_jdk_42_66_5) kt) ?_
    show own_Go p e below _ (s₁.setTop (mkF m 6 #[.val (.ref sa), .val (.ref sc), .unset] [(.int (1 : Int32))]))
    exact own_retZ X0 hx Bd.notSynchronized Bd.returns (Or.inr rfl) (hb hby own_d_jdk_42_66_6) (by decide) (by decide) ⟨_, rfl, N0, Or.inl ⟨rfl, by rw [hcq] at fa; exact fa.det fc⟩, e0⟩
  · refine own_Go.st (fun _ kt => Jvm.RoadKit.acmp (g := (mkF m 2 #[.val (.ref sa), .val (.ref sc), .unset] [(.ref sc), (.ref sa)])) X0 hx rfl rfl rfl (pc0 := 2) (pc' := 7) (same := false) rfl (hb hby own_d_jdk_42_66_2) rfl (decide_eq_false fun q => hcq (Value.ref.inj q)) (by decide) (by decide) kt) ?_
    show own_Go p e below _ (s₁.setTop (mkF m 7 #[.val (.ref sa), .val (.ref sc), .unset] []))
    refine own_Go.st (fun _ kt => XS.aloadN X0.here hx rfl (hb hby own_d_jdk_42_66_7) rfl rfl kt) ?_
    show own_Go p e below _ (s₁.setTop (mkF m 8 #[.val (.ref sa), .val (.ref sc), .unset] [(.ref sc)]))
    obtain ⟨T1, X1, e1, st1⟩ := instY X0 hx hZ hown (hw _ (List.mem_of_getElem? (i := 36) rfl)) e0 (Ins.self fc.1) (g := (mkF m 8 #[.val (.ref sa), .val (.ref sc), .unset] [(.ref sc)])) rfl rfl (hb hby own_d_jdk_42_66_8)
    refine own_Go.st st1 ?_
    show own_Go p e below _ (T1.setTop (mkF m 11 #[.val (.ref sa), .val (.ref sc), .unset] [(.int (1 : Int32))]))
    refine own_Go.st (fun _ kt => XS.ifNo X1.here hx rfl (hb hby own_d_jdk_42_66_11) rfl ((if0 _ _).trans (feq (by decide)).1) kt) ?_
    show own_Go p e below _ (T1.setTop (mkF m 14 #[.val (.ref sa), .val (.ref sc), .unset] []))
    refine own_Go.st (fun _ kt => XS.aloadN X1.here hx rfl (hb hby own_d_jdk_42_66_14) rfl rfl kt) ?_
    show own_Go p e below _ (T1.setTop (mkF m 15 #[.val (.ref sa), .val (.ref sc), .unset] [(.ref sc)]))
    obtain ⟨T2, X2, e2, st2⟩ := castY X1 hx hZ hown (hw _ (List.mem_of_getElem? (i := 36) rfl)) e1 (Ins.self fc.1) (g := (mkF m 15 #[.val (.ref sa), .val (.ref sc), .unset] [(.ref sc)])) rfl rfl (hb hby own_d_jdk_42_66_15)
    refine own_Go.st st2 ?_
    show own_Go p e below _ (T2.setTop (mkF m 18 #[.val (.ref sa), .val (.ref sc), .unset] [(.ref sc)]))
    refine own_Go.st (fun _ kt => XS.astoreN X2.here hx rfl (hb hby own_d_jdk_42_66_18) rfl rfl (l' := #[.val (.ref sa), .val (.ref sc), .val (.ref sc)]) rfl kt) ?_
    show own_Go p e below _ (T2.setTop (mkF m 19 #[.val (.ref sa), .val (.ref sc), .val (.ref sc)] []))
    obtain ⟨T3, X3, e3, st3⟩ := getS2 X2 hx hZ hown (host := "") (Or.inl (hw _ (List.mem_of_getElem? (i := 37) rfl))) Via.refl e2 cs (g := (mkF m 19 #[.val (.ref sa), .val (.ref sc), .val (.ref sc)] [])) rfl (hb hby own_d_jdk_42_66_19)
    refine own_Go.st st3 ?_
    show own_Go p e below _ (T3.setTop (mkF m 22 #[.val (.ref sa), .val (.ref sc), .val (.ref sc)] [(.int zc)]))
    refine own_Go.st (fun _ kt => XS.ifNo X3.here hx rfl (hb hby own_d_jdk_42_66_22) rfl ((if0 _ _).trans (feq hzc).1) kt) ?_
    show own_Go p e below _ (T3.setTop (mkF m 25 #[.val (.ref sa), .val (.ref sc), .val (.ref sc)] []))
    refine own_Go.st (fun _ kt => XS.aloadN X3.here hx rfl (hb hby own_d_jdk_42_66_25) rfl rfl kt) ?_
    show own_Go p e below _ (T3.setTop (mkF m 26 #[.val (.ref sa), .val (.ref sc), .val (.ref sc)] [(.ref sa)]))
    obtain ⟨T4, X4, e4, st4⟩ := getF X3 hx hZ hown (host := "") (Or.inl (hw _ (List.mem_of_getElem? (i := 29) rfl))) Via.refl e3 fa.2.1 (g := (mkF m 26 #[.val (.ref sa), .val (.ref sc), .val (.ref sc)] [(.ref sa)])) rfl rfl (hb hby own_d_jdk_42_66_26)
    refine own_Go.st st4 ?_
    show own_Go p e below _ (T4.setTop (mkF m 29 #[.val (.ref sa), .val (.ref sc), .val (.ref sc)] [(.int (0 : Int32))]))
    refine own_Go.st (fun _ kt => XS.aloadN X4.here hx rfl (hb hby own_d_jdk_42_66_29) rfl rfl kt) ?_
    show own_Go p e below _ (T4.setTop (mkF m 30 #[.val (.ref sa), .val (.ref sc), .val (.ref sc)] [(.ref sc), (.int (0 : Int32))]))
    obtain ⟨T5, X5, e5, st5⟩ := getF X4 hx hZ hown (host := "") (Or.inl (hw _ (List.mem_of_getElem? (i := 29) rfl))) Via.refl e4 fc.2.1 (g := (mkF m 30 #[.val (.ref sa), .val (.ref sc), .val (.ref sc)] [(.ref sc), (.int (0 : Int32))])) rfl rfl (hb hby own_d_jdk_42_66_30)
    refine own_Go.st st5 ?_
    show own_Go p e below _ (T5.setTop (mkF m 33 #[.val (.ref sa), .val (.ref sc), .val (.ref sc)] [(.int (0 : Int32)), (.int (0 : Int32))]))
    refine own_Go.st (fun _ kt => XS.icmpNo X5.here hx rfl (hb hby own_d_jdk_42_66_33) rfl (teq rfl).2 kt) ?_
    show own_Go p e below _ (T5.setTop (mkF m 36 #[.val (.ref sa), .val (.ref sc), .val (.ref sc)] []))
    refine own_Go.st (fun _ kt => XS.aloadN X5.here hx rfl (hb hby own_d_jdk_42_66_36) rfl rfl kt) ?_
    show own_Go p e below _ (T5.setTop (mkF m 37 #[.val (.ref sa), .val (.ref sc), .val (.ref sc)] [(.ref sa)]))
    obtain ⟨T6, X6, e6, st6⟩ := getF X5 hx hZ hown (host := "") (Or.inl (hw _ (List.mem_of_getElem? (i := 28) rfl))) Via.refl e5 fa.2.2.1 (g := (mkF m 37 #[.val (.ref sa), .val (.ref sc), .val (.ref sc)] [(.ref sa)])) rfl rfl (hb hby own_d_jdk_42_66_37)
    refine own_Go.st st6 ?_
    show own_Go p e below _ (T6.setTop (mkF m 40 #[.val (.ref sa), .val (.ref sc), .val (.ref sc)] [(.ref ba)]))
    refine own_Go.st (fun _ kt => XS.aloadN X6.here hx rfl (hb hby own_d_jdk_42_66_40) rfl rfl kt) ?_
    show own_Go p e below _ (T6.setTop (mkF m 41 #[.val (.ref sa), .val (.ref sc), .val (.ref sc)] [(.ref sc), (.ref ba)]))
    obtain ⟨T7, X7, e7, st7⟩ := getF X6 hx hZ hown (host := "") (Or.inl (hw _ (List.mem_of_getElem? (i := 28) rfl))) Via.refl e6 fc.2.2.1 (g := (mkF m 41 #[.val (.ref sa), .val (.ref sc), .val (.ref sc)] [(.ref sc), (.ref ba)])) rfl rfl (hb hby own_d_jdk_42_66_41)
    refine own_Go.st st7 ?_
    show own_Go p e below _ (T7.setTop (mkF m 44 #[.val (.ref sa), .val (.ref sc), .val (.ref sc)] [(.ref bc), (.ref ba)]))
    obtain ⟨_, _, ⟨T8, L8, k8, n8⟩, -, X8, ⟨Lc8, hQ8, l8, y8, z8⟩, st8⟩ := Jvm.LawKit.callS X7 hx (y := (⟨"java/lang/StringLatin1", "equals", "([B[B)Z"⟩ : MethodName)) hown (mvT hZ (hw _ (List.mem_of_getElem? (i := 38) rfl))) (mvT hZ (hw _ (List.mem_of_getElem? (i := 39) rfl))) (mvT hZ (hw _ (List.mem_of_getElem? (i := 40) rfl))) (mvT hZ (hw _ (List.mem_of_getElem? (i := 41) rfl))) (by decide) (backOf (W := 0) (own_leq l Z a0 hw [] ba bc n n2 g g2 h0 n0 Z0 fa.2.2.2 fc.2.2.2 hl hl2) hZ (hw _ (List.mem_of_getElem? (i := 41) rfl)) (hw _ (List.mem_of_getElem? (i := 40) rfl)) (by decide) (by decide)) (g := (mkF m 44 #[.val (.ref sa), .val (.ref sc), .val (.ref sc)] [(.ref bc), (.ref ba)])) rfl (by rw [hml]; rfl) (argsL := [(.ref ba), (.ref bc)]) (rest := []) (lenOf own_pd4 rfl) rfl (by show 2 * 0 + _ ≤ _; exact Nat.le_of_eq rfl) (hb hby own_d_jdk_42_66_44) (fun _ _ => ⟨rfl, e7, (by decide : 0 + 0 ≤ _), (by decide : 0 + 0 ≤ _)⟩)
    dsimp only [Pt.U, Pt.locs, Pt.cells, Pt.slots] at X8 l8 y8 z8 st8 hQ8
    subst l8 y8 z8
    obtain ⟨z, rfl, N8q, hB8, hh8⟩ := hQ8
    have N8 := Fr.app N0 N8q
    refine own_Go.st (fun _ kt => st8 _ kt) ?_
    show own_Go p e below _ (T8.setTop (mkF m 47 #[.val (.ref sa), .val (.ref sc), .val (.ref sc)] [(.int z)]))
    rcases hB8 with ⟨rfl, q⟩ | ⟨rfl, q⟩
    · show own_Go p e below _ (T8.setTop (mkF m 47 #[.val (.ref sa), .val (.ref sc), .val (.ref sc)] [(.int (1 : Int32))]))
      refine own_Go.st (fun _ kt => XS.ifNo X8.here hx rfl (hb hby own_d_jdk_42_66_47) rfl ((if0 _ _).trans (feq (by decide)).1) kt) ?_
      show own_Go p e below _ (T8.setTop (mkF m 50 #[.val (.ref sa), .val (.ref sc), .val (.ref sc)] []))
      refine own_Go.st (fun _ kt => XS.iconst X8.here hx rfl (hb hby own_d_jdk_42_66_50) kt) ?_
      show own_Go p e below _ (T8.setTop (mkF m 51 #[.val (.ref sa), .val (.ref sc), .val (.ref sc)] [(.int (1 : Int32))]))
      refine own_Go.st (fun _ kt => XS.goto X8.here hx rfl (pc0 := 51) (pc' := 55) rfl (hb hby own_d_jdk_42_66_51) (by decide) (by decide) kt) ?_
      show own_Go p e below _ (T8.setTop (mkF m 55 #[.val (.ref sa), .val (.ref sc), .val (.ref sc)] [(.int (1 : Int32))]))
      exact own_retZ X8 hx Bd.notSynchronized Bd.returns (Or.inr rfl) (hb hby own_d_jdk_42_66_55) (by decide) (by decide) ⟨_, rfl, N8, Or.inl ⟨rfl, q⟩, hh8⟩
    · show own_Go p e below _ (T8.setTop (mkF m 47 #[.val (.ref sa), .val (.ref sc), .val (.ref sc)] [(.int (0 : Int32))]))
      refine own_Go.st (fun _ kt => XS.ifYes X8.here hx rfl (pc0 := 47) (pc' := 54) rfl (hb hby own_d_jdk_42_66_47) rfl ((if0 _ _).trans (teq rfl).1) (by decide) (by decide) kt) ?_
      show own_Go p e below _ (T8.setTop (mkF m 54 #[.val (.ref sa), .val (.ref sc), .val (.ref sc)] []))
      refine own_Go.st (fun _ kt => XS.iconst X8.here hx rfl (hb hby own_d_jdk_42_66_54) kt) ?_
      show own_Go p e below _ (T8.setTop (mkF m 55 #[.val (.ref sa), .val (.ref sc), .val (.ref sc)] [(.int (0 : Int32))]))
      exact own_retZ X8 hx Bd.notSynchronized Bd.returns (Or.inl rfl) (hb hby own_d_jdk_42_66_55) (by decide) (by decide) ⟨_, rfl, N8, Or.inr ⟨rfl, q⟩, hh8⟩
theorem own_pn4 : plainName "com/example/marshal/marshal/variables/VariableType" = true := by first | (simp [plainName, overriddenIn]; done) | decide +kernel
theorem own_ef12 (m : MethodId)  : entryFrame m #[] 0 = mkF m 0 #[] [] := by first | (simp [entryFrame, mkF, argsToLocals, Value.category]; done) | rfl
theorem own_d_prog_52_1_0 : decode prog_52_method_1_code 0 = .ok (.getstatic 10, 3) := by decide +kernel
theorem own_d_prog_52_1_3 : decode prog_52_method_1_code 3 = .ok (.invokevirtual 14, 3) := by decide +kernel
theorem own_d_prog_52_1_6 : decode prog_52_method_1_code 6 = .ok (.checkcast 15, 3) := by decide +kernel
theorem own_d_prog_52_1_9 : decode prog_52_method_1_code 9 = .ok (.areturn, 1) := by decide +kernel
def own_Q_own_values (Z : State) (rv : Addr) (fv : Nat → Value) (h0 : Heap) (n0 : Nat) (v : Option Value) (h : Heap) (L : List Loc) : Prop := ∃ r2, v = some (.ref r2) ∧ Fr n0 L ∧ own_Ar Z h r2 (.object "com/example/marshal/marshal/variables/VariableType") 2 fv ∧ Keep h0 h []
set_option maxRecDepth 65536 in
set_option maxHeartbeats 40000000 in
theorem own_values (l : Launch) (Z : State) (a0 : Array Value) (hw : ∀ d ∈ tables_1, d.before a0 Z = true) (ws : List Jvm.Cond) (rv : Addr) (fv : Nat → Value) (h0 : Heap) (n0 : Nat) (Z0 : n0 ≤ h0.size) (sV : Sta Z h0 "com/example/marshal/marshal/variables/VariableType" "$VALUES" "[Lcom/example/marshal/marshal/variables/VariableType;" (.ref rv)) (aV : own_Ar Z h0 rv (.object "com/example/marshal/marshal/variables/VariableType") 2 fv) (eV : Exa Z h0 rv "[Lcom/example/marshal/marshal/variables/VariableType;") (hF : ∀ c : Cell, Arr Z h0 rv c (.object "com/example/marshal/marshal/variables/VariableType") → FitC Z c) :
    MetFree l (⟨"com/example/marshal/marshal/variables/VariableType", "values", "()[Lcom/example/marshal/marshal/variables/VariableType;"⟩ : MethodName) (head1 (Jvm.Cond.code (⟨"com/example/marshal/marshal/variables/VariableType", "values", "()[Lcom/example/marshal/marshal/variables/VariableType;"⟩ : MethodName) prog_52_method_1_code 0 (some (.array (.object "com/example/marshal/marshal/variables/VariableType"))) :: ws) ({ frames := 1, cells := 1, slots := 2, locals := 14 } : Room)) (fun av_ U => av_ = #[] ∧ Z.Warmed39 U.vm ∧ U.heap = h0) (fun _ _ _ _ _ => True) (fun _ U o U' => ∃ v L, o = .returned v ∧ own_Q_own_values Z rv fv h0 n0 v U'.heap L ∧ FrameEnd U o U' L ({ frames := 1, cells := 1, slots := 2, locals := 14 } : Room).cells ({ frames := 1, cells := 1, slots := 2, locals := 14 } : Room).slots) := by
  refine MetFree.of_bodySF (plainFor_of_name own_pn4) hisR ?_
  intro p e s m args below meth c s₁ Bd hml0 hP hK
  obtain ⟨rfl, hZ, hh⟩ := hP
  have hx := Bd.exec
  have hby := Bd.bytes
  have hml : c.maxLocals = 0 := hml0
  have hown : s.vm.findClass "com/example/marshal/marshal/variables/VariableType" = some m.cls := findClass_of_methodNamed Bd.named
  have hnm := (name_of_methodNamed Bd.named Bd.method).1
  have X0 : Stand p l e ({ frames := 1, cells := 1, slots := 2, locals := 14 } : Room) s m #[] below meth c s₁ [] 0 0 := Stand.of_body Bd
  have e0 : s₁.heap = h0 := by rw [← hh, Bd.state]; rfl
  have N0 := Fr.nil n0
  suffices hgo : own_Go p e below (fun o U' => ∃ v L, o = .returned v ∧ own_Q_own_values Z rv fv h0 n0 v U'.heap L ∧ FrameEnd s o U' L ({ frames := 1, cells := 1, slots := 2, locals := 14 } : Room).cells ({ frames := 1, cells := 1, slots := 2, locals := 14 } : Room).slots) (s₁.setTop (mkF m 0 #[] [])) by
    obtain ⟨s₂, o, h1, h2, h3, h4⟩ := hgo
    exact ⟨s₂, o, castTop (own_ef12 m ) h1, h2, h3, h4⟩
  have kk0 : Keep h0 h0 [] := Keep.refl _ _
  show own_Go p e below _ (s₁.setTop (mkF m 0 #[] []))
  obtain ⟨T1, X1, e1, st1⟩ := getS2 X0 hx hZ hown (host := "") (Or.inl (hw _ (List.mem_of_getElem? (i := 50) rfl))) Via.refl e0 sV (g := (mkF m 0 #[] [])) rfl (hb hby own_d_prog_52_1_0)
  refine own_Go.st st1 ?_
  show own_Go p e below _ (T1.setTop (mkF m 3 #[] [(.ref rv)]))
  have ac2 := aV
  obtain ⟨cc2, AA2, SS2, HH2⟩ := ac2
  obtain ⟨T2, h2, X2, e2, E2, A2, B2, st2⟩ := cloneA X1 hx hZ hown (hw _ (List.mem_of_getElem? (i := 52) rfl)) (hw _ (List.mem_of_getElem? (i := 53) rfl)) (hw _ (List.mem_of_getElem? (i := 57) rfl)) (hw _ (List.mem_of_getElem? (i := 55) rfl)) (hw _ (List.mem_of_getElem? (i := 56) rfl)) (hw _ (List.mem_of_getElem? (i := 58) rfl)) e1 AA2 eV (hF _ AA2) (g := (mkF m 3 #[] [(.ref rv)])) rfl (by rw [hml]; rfl) rfl (hb hby own_d_prog_52_1_3) (by decide) (W := 0) (cap := 2) (by show 2 * 0 + _ ≤ _; exact Nat.le_of_eq rfl) (by decide) (by rw [SS2]; decide) (by decide) (by decide)
  obtain ⟨r2, g2⟩ : ∃ z, z = Array.size h0 := ⟨_, rfl⟩
  rw [← g2] at A2 B2 st2
  refine own_Go.st st2 ?_
  have ne_rv_r2 : rv ≠ r2 := Nat.ne_of_lt (Nat.lt_of_lt_of_le (aV).lt (Nat.le_of_eq g2.symm))
  have n0_r2 : n0 ≤ r2 := Nat.le_trans Z0 (Nat.le_of_eq g2.symm)
  have b_r2 : Array.size h0 ≤ r2 := Nat.le_trans kk0.1 (Nat.le_of_eq g2.symm)
  have zz3 : n0 ≤ Array.size h2 := Nat.le_trans Z0 E2.1
  have kk3 : Keep h0 h2 [] := kk0.ext E2
  show own_Go p e below _ (T2.setTop (mkF m 6 #[] [(.ref r2)]))
  have ar2 : own_Ar Z h2 r2 (.object "com/example/marshal/marshal/variables/VariableType") 2 fv := ⟨_, A2, SS2, HH2⟩
  obtain ⟨T4, X4, e4, st4⟩ := castY X2 hx hZ hown (hw _ (List.mem_of_getElem? (i := 62) rfl)) e2 (Ins.self B2) (g := (mkF m 6 #[] [(.ref r2)])) rfl rfl (hb hby own_d_prog_52_1_6)
  refine own_Go.st st4 ?_
  show own_Go p e below _ (T4.setTop (mkF m 9 #[] [(.ref r2)]))
  have fin := ar2
  have kk := kk3
  rw [← e4] at fin kk
  exact own_retA X4 hx Bd.notSynchronized Bd.returns rfl rfl (hb hby own_d_prog_52_1_9) (by decide) (by decide) ⟨r2, rfl, N0, fin, kk⟩
theorem own_pn5 : plainName "java/util/Optional" = true := by first | (simp [plainName, overriddenIn]; done) | decide +kernel
theorem own_ef13 (m : MethodId)  : entryFrame m #[] 1 = mkF m 0 #[.unset] [] := by first | (simp [entryFrame, mkF, argsToLocals, Value.category]; done) | rfl
theorem own_d_jdk_32_1_0 : decode jdk_32_method_1_code 0 = .ok (.getstatic 1, 3) := by decide +kernel
theorem own_d_jdk_32_1_3 : decode jdk_32_method_1_code 3 = .ok (.astore_n 0, 1) := by decide +kernel
theorem own_d_jdk_32_1_4 : decode jdk_32_method_1_code 4 = .ok (.aload_n 0, 1) := by decide +kernel
theorem own_d_jdk_32_1_5 : decode jdk_32_method_1_code 5 = .ok (.areturn, 1) := by decide +kernel
def own_Q_own_empty (Z : State) (ro : Addr) (h0 : Heap) (n0 : Nat) (v : Option Value) (h : Heap) (L : List Loc) : Prop := v = some (.ref ro) ∧ Fr n0 L ∧ h = h0
set_option maxRecDepth 65536 in
set_option maxHeartbeats 40000000 in
theorem own_empty (l : Launch) (Z : State) (a0 : Array Value) (hw : ∀ d ∈ tables_1, d.before a0 Z = true) (ws : List Jvm.Cond) (ro : Addr) (h0 : Heap) (n0 : Nat) (Z0 : n0 ≤ h0.size) (sE : Sta Z h0 "java/util/Optional" "EMPTY" "Ljava/util/Optional;" (.ref ro)) :
    MetFree l (⟨"java/util/Optional", "empty", "()Ljava/util/Optional;"⟩ : MethodName) (head1 (Jvm.Cond.code (⟨"java/util/Optional", "empty", "()Ljava/util/Optional;"⟩ : MethodName) jdk_32_method_1_code 1 (some (.object "java/util/Optional")) :: ws) ({ frames := 0, cells := 0, slots := 0, locals := 0 } : Room)) (fun av_ U => av_ = #[] ∧ Z.Warmed39 U.vm ∧ U.heap = h0) (fun _ _ _ _ _ => True) (fun _ U o U' => ∃ v L, o = .returned v ∧ own_Q_own_empty Z ro h0 n0 v U'.heap L ∧ FrameEnd U o U' L ({ frames := 0, cells := 0, slots := 0, locals := 0 } : Room).cells ({ frames := 0, cells := 0, slots := 0, locals := 0 } : Room).slots) := by
  refine MetFree.of_bodySF (plainFor_of_name own_pn5) hisR ?_
  intro p e s m args below meth c s₁ Bd hml0 hP hK
  obtain ⟨rfl, hZ, hh⟩ := hP
  have hx := Bd.exec
  have hby := Bd.bytes
  have hml : c.maxLocals = 1 := hml0
  have hown : s.vm.findClass "java/util/Optional" = some m.cls := findClass_of_methodNamed Bd.named
  have hnm := (name_of_methodNamed Bd.named Bd.method).1
  have X0 : Stand p l e ({ frames := 0, cells := 0, slots := 0, locals := 0 } : Room) s m #[] below meth c s₁ [] 0 0 := Stand.of_body Bd
  have e0 : s₁.heap = h0 := by rw [← hh, Bd.state]; rfl
  have N0 := Fr.nil n0
  suffices hgo : own_Go p e below (fun o U' => ∃ v L, o = .returned v ∧ own_Q_own_empty Z ro h0 n0 v U'.heap L ∧ FrameEnd s o U' L ({ frames := 0, cells := 0, slots := 0, locals := 0 } : Room).cells ({ frames := 0, cells := 0, slots := 0, locals := 0 } : Room).slots) (s₁.setTop (mkF m 0 #[.unset] [])) by
    obtain ⟨s₂, o, h1, h2, h3, h4⟩ := hgo
    exact ⟨s₂, o, castTop (own_ef13 m ) h1, h2, h3, h4⟩
  show own_Go p e below _ (s₁.setTop (mkF m 0 #[.unset] []))
  obtain ⟨T1, X1, e1, st1⟩ := getS2 X0 hx hZ hown (host := "") (Or.inl (hw _ (List.mem_of_getElem? (i := 71) rfl))) Via.refl e0 sE (g := (mkF m 0 #[.unset] [])) rfl (hb hby own_d_jdk_32_1_0)
  refine own_Go.st st1 ?_
  show own_Go p e below _ (T1.setTop (mkF m 3 #[.unset] [(.ref ro)]))
  refine own_Go.st (fun _ kt => XS.astoreN X1.here hx rfl (hb hby own_d_jdk_32_1_3) rfl rfl (l' := #[.val (.ref ro)]) rfl kt) ?_
  show own_Go p e below _ (T1.setTop (mkF m 4 #[.val (.ref ro)] []))
  refine own_Go.st (fun _ kt => XS.aloadN X1.here hx rfl (hb hby own_d_jdk_32_1_4) rfl rfl kt) ?_
  show own_Go p e below _ (T1.setTop (mkF m 5 #[.val (.ref ro)] [(.ref ro)]))
  exact own_retA X1 hx Bd.notSynchronized Bd.returns rfl rfl (hb hby own_d_jdk_32_1_5) (by decide) (by decide) ⟨rfl, N0, e1⟩
theorem own_ef14 (m : MethodId) (x0 : Addr) : entryFrame m #[(.ref x0)] 1 = mkF m 0 #[.val (.ref x0)] [] := by first | (simp [entryFrame, mkF, argsToLocals, Value.category]; done) | rfl
theorem own_d_jdk_32_6_0 : decode jdk_32_method_6_code 0 = .ok (.aload_n 0, 1) := by decide +kernel
theorem own_d_jdk_32_6_1 : decode jdk_32_method_6_code 1 = .ok (.getfield 13, 3) := by decide +kernel
theorem own_d_jdk_32_6_4 : decode jdk_32_method_6_code 4 = .ok (.ifnull 7, 3) := by decide +kernel
theorem own_d_jdk_32_6_11 : decode jdk_32_method_6_code 11 = .ok (.iconst 0, 1) := by decide +kernel
theorem own_d_jdk_32_6_12 : decode jdk_32_method_6_code 12 = .ok (.ireturn, 1) := by decide +kernel
def own_Q_own_isP0 (Z : State) (ro aw : Addr) (h0 : Heap) (n0 : Nat) (v : Option Value) (h : Heap) (L : List Loc) : Prop := v = some (.int 0) ∧ Fr n0 L ∧ h = h0
set_option maxRecDepth 65536 in
set_option maxHeartbeats 40000000 in
theorem own_isP0 (l : Launch) (Z : State) (a0 : Array Value) (hw : ∀ d ∈ tables_1, d.before a0 Z = true) (ws : List Jvm.Cond) (ro aw : Addr) (h0 : Heap) (n0 : Nat) (Z0 : n0 ≤ h0.size) (fv : Fld Z h0 ro "java/util/Optional" "value" "Ljava/lang/Object;" .null) :
    MetFree l (⟨"java/util/Optional", "isPresent", "()Z"⟩ : MethodName) (head1 (Jvm.Cond.code (⟨"java/util/Optional", "isPresent", "()Z"⟩ : MethodName) jdk_32_method_6_code 1 (some .boolean) :: ws) ({ frames := 0, cells := 0, slots := 0, locals := 0 } : Room)) (fun av_ U => av_ = #[(.ref ro)] ∧ Z.Warmed39 U.vm ∧ U.heap = h0) (fun _ _ _ _ _ => True) (fun _ U o U' => ∃ v L, o = .returned v ∧ own_Q_own_isP0 Z ro aw h0 n0 v U'.heap L ∧ FrameEnd U o U' L ({ frames := 0, cells := 0, slots := 0, locals := 0 } : Room).cells ({ frames := 0, cells := 0, slots := 0, locals := 0 } : Room).slots) := by
  refine MetFree.of_bodySF (plainFor_of_name own_pn5) hisR ?_
  intro p e s m args below meth c s₁ Bd hml0 hP hK
  obtain ⟨rfl, hZ, hh⟩ := hP
  have hx := Bd.exec
  have hby := Bd.bytes
  have hml : c.maxLocals = 1 := hml0
  have hown : s.vm.findClass "java/util/Optional" = some m.cls := findClass_of_methodNamed Bd.named
  have hnm := (name_of_methodNamed Bd.named Bd.method).1
  have X0 : Stand p l e ({ frames := 0, cells := 0, slots := 0, locals := 0 } : Room) s m #[(.ref ro)] below meth c s₁ [] 0 0 := Stand.of_body Bd
  have e0 : s₁.heap = h0 := by rw [← hh, Bd.state]; rfl
  have N0 := Fr.nil n0
  suffices hgo : own_Go p e below (fun o U' => ∃ v L, o = .returned v ∧ own_Q_own_isP0 Z ro aw h0 n0 v U'.heap L ∧ FrameEnd s o U' L ({ frames := 0, cells := 0, slots := 0, locals := 0 } : Room).cells ({ frames := 0, cells := 0, slots := 0, locals := 0 } : Room).slots) (s₁.setTop (mkF m 0 #[.val (.ref ro)] [])) by
    obtain ⟨s₂, o, h1, h2, h3, h4⟩ := hgo
    exact ⟨s₂, o, castTop (own_ef14 m ro) h1, h2, h3, h4⟩
  show own_Go p e below _ (s₁.setTop (mkF m 0 #[.val (.ref ro)] []))
  refine own_Go.st (fun _ kt => XS.aloadN X0.here hx rfl (hb hby own_d_jdk_32_6_0) rfl rfl kt) ?_
  show own_Go p e below _ (s₁.setTop (mkF m 1 #[.val (.ref ro)] [(.ref ro)]))
  obtain ⟨T1, X1, e1, st1⟩ := getF X0 hx hZ hown (host := "") (Or.inl (hw _ (List.mem_of_getElem? (i := 77) rfl))) Via.refl e0 fv (g := (mkF m 1 #[.val (.ref ro)] [(.ref ro)])) rfl rfl (hb hby own_d_jdk_32_6_1)
  refine own_Go.st st1 ?_
  show own_Go p e below _ (T1.setTop (mkF m 4 #[.val (.ref ro)] [.null]))
  refine own_Go.st (fun _ kt => XS.ifnullYes X1.here hx rfl (pc0 := 4) (pc' := 11) rfl (hb hby own_d_jdk_32_6_4) rfl (by decide) (by decide) kt) ?_
  show own_Go p e below _ (T1.setTop (mkF m 11 #[.val (.ref ro)] []))
  refine own_Go.st (fun _ kt => XS.iconst X1.here hx rfl (hb hby own_d_jdk_32_6_11) kt) ?_
  show own_Go p e below _ (T1.setTop (mkF m 12 #[.val (.ref ro)] [(.int (0 : Int32))]))
  exact own_retZ X1 hx Bd.notSynchronized Bd.returns (Or.inl rfl) (hb hby own_d_jdk_32_6_12) (by decide) (by decide) ⟨rfl, N0, e1⟩
theorem own_ef15 (m : MethodId) (x0 : Addr) : entryFrame m #[(.ref x0)] 1 = mkF m 0 #[.val (.ref x0)] [] := by first | (simp [entryFrame, mkF, argsToLocals, Value.category]; done) | rfl
theorem own_d_jdk_32_6_7 : decode jdk_32_method_6_code 7 = .ok (.iconst 1, 1) := by decide +kernel
theorem own_d_jdk_32_6_8 : decode jdk_32_method_6_code 8 = .ok (.goto 4, 3) := by decide +kernel
def own_Q_own_isP1 (Z : State) (ro aw : Addr) (h0 : Heap) (n0 : Nat) (v : Option Value) (h : Heap) (L : List Loc) : Prop := v = some (.int 1) ∧ Fr n0 L ∧ h = h0
set_option maxRecDepth 65536 in
set_option maxHeartbeats 40000000 in
theorem own_isP1 (l : Launch) (Z : State) (a0 : Array Value) (hw : ∀ d ∈ tables_1, d.before a0 Z = true) (ws : List Jvm.Cond) (ro aw : Addr) (h0 : Heap) (n0 : Nat) (Z0 : n0 ≤ h0.size) (fv : Fld Z h0 ro "java/util/Optional" "value" "Ljava/lang/Object;" (.ref aw)) :
    MetFree l (⟨"java/util/Optional", "isPresent", "()Z"⟩ : MethodName) (head1 (Jvm.Cond.code (⟨"java/util/Optional", "isPresent", "()Z"⟩ : MethodName) jdk_32_method_6_code 1 (some .boolean) :: ws) ({ frames := 0, cells := 0, slots := 0, locals := 0 } : Room)) (fun av_ U => av_ = #[(.ref ro)] ∧ Z.Warmed39 U.vm ∧ U.heap = h0) (fun _ _ _ _ _ => True) (fun _ U o U' => ∃ v L, o = .returned v ∧ own_Q_own_isP1 Z ro aw h0 n0 v U'.heap L ∧ FrameEnd U o U' L ({ frames := 0, cells := 0, slots := 0, locals := 0 } : Room).cells ({ frames := 0, cells := 0, slots := 0, locals := 0 } : Room).slots) := by
  refine MetFree.of_bodySF (plainFor_of_name own_pn5) hisR ?_
  intro p e s m args below meth c s₁ Bd hml0 hP hK
  obtain ⟨rfl, hZ, hh⟩ := hP
  have hx := Bd.exec
  have hby := Bd.bytes
  have hml : c.maxLocals = 1 := hml0
  have hown : s.vm.findClass "java/util/Optional" = some m.cls := findClass_of_methodNamed Bd.named
  have hnm := (name_of_methodNamed Bd.named Bd.method).1
  have X0 : Stand p l e ({ frames := 0, cells := 0, slots := 0, locals := 0 } : Room) s m #[(.ref ro)] below meth c s₁ [] 0 0 := Stand.of_body Bd
  have e0 : s₁.heap = h0 := by rw [← hh, Bd.state]; rfl
  have N0 := Fr.nil n0
  suffices hgo : own_Go p e below (fun o U' => ∃ v L, o = .returned v ∧ own_Q_own_isP1 Z ro aw h0 n0 v U'.heap L ∧ FrameEnd s o U' L ({ frames := 0, cells := 0, slots := 0, locals := 0 } : Room).cells ({ frames := 0, cells := 0, slots := 0, locals := 0 } : Room).slots) (s₁.setTop (mkF m 0 #[.val (.ref ro)] [])) by
    obtain ⟨s₂, o, h1, h2, h3, h4⟩ := hgo
    exact ⟨s₂, o, castTop (own_ef15 m ro) h1, h2, h3, h4⟩
  show own_Go p e below _ (s₁.setTop (mkF m 0 #[.val (.ref ro)] []))
  refine own_Go.st (fun _ kt => XS.aloadN X0.here hx rfl (hb hby own_d_jdk_32_6_0) rfl rfl kt) ?_
  show own_Go p e below _ (s₁.setTop (mkF m 1 #[.val (.ref ro)] [(.ref ro)]))
  obtain ⟨T1, X1, e1, st1⟩ := getF X0 hx hZ hown (host := "") (Or.inl (hw _ (List.mem_of_getElem? (i := 77) rfl))) Via.refl e0 fv (g := (mkF m 1 #[.val (.ref ro)] [(.ref ro)])) rfl rfl (hb hby own_d_jdk_32_6_1)
  refine own_Go.st st1 ?_
  show own_Go p e below _ (T1.setTop (mkF m 4 #[.val (.ref ro)] [(.ref aw)]))
  refine own_Go.st (fun _ kt => XS.ifnullNo X1.here hx rfl (hb hby own_d_jdk_32_6_4) rfl kt) ?_
  show own_Go p e below _ (T1.setTop (mkF m 7 #[.val (.ref ro)] []))
  refine own_Go.st (fun _ kt => XS.iconst X1.here hx rfl (hb hby own_d_jdk_32_6_7) kt) ?_
  show own_Go p e below _ (T1.setTop (mkF m 8 #[.val (.ref ro)] [(.int (1 : Int32))]))
  refine own_Go.st (fun _ kt => XS.goto X1.here hx rfl (pc0 := 8) (pc' := 12) rfl (hb hby own_d_jdk_32_6_8) (by decide) (by decide) kt) ?_
  show own_Go p e below _ (T1.setTop (mkF m 12 #[.val (.ref ro)] [(.int (1 : Int32))]))
  exact own_retZ X1 hx Bd.notSynchronized Bd.returns (Or.inr rfl) (hb hby own_d_jdk_32_6_12) (by decide) (by decide) ⟨rfl, N0, e1⟩
theorem own_ef16 (m : MethodId) (x0 : Addr) : entryFrame m #[(.ref x0)] 1 = mkF m 0 #[.val (.ref x0)] [] := by first | (simp [entryFrame, mkF, argsToLocals, Value.category]; done) | rfl
theorem own_d_jdk_32_5_0 : decode jdk_32_method_5_code 0 = .ok (.aload_n 0, 1) := by decide +kernel
theorem own_d_jdk_32_5_1 : decode jdk_32_method_5_code 1 = .ok (.getfield 13, 3) := by decide +kernel
theorem own_d_jdk_32_5_4 : decode jdk_32_method_5_code 4 = .ok (.ifnonnull 13, 3) := by decide +kernel
theorem own_d_jdk_32_5_17 : decode jdk_32_method_5_code 17 = .ok (.aload_n 0, 1) := by decide +kernel
theorem own_d_jdk_32_5_18 : decode jdk_32_method_5_code 18 = .ok (.getfield 13, 3) := by decide +kernel
theorem own_d_jdk_32_5_21 : decode jdk_32_method_5_code 21 = .ok (.areturn, 1) := by decide +kernel
def own_Q_own_get (Z : State) (ro aw : Addr) (h0 : Heap) (n0 : Nat) (v : Option Value) (h : Heap) (L : List Loc) : Prop := v = some (.ref aw) ∧ Fr n0 L ∧ h = h0
set_option maxRecDepth 65536 in
set_option maxHeartbeats 40000000 in
theorem own_get (l : Launch) (Z : State) (a0 : Array Value) (hw : ∀ d ∈ tables_1, d.before a0 Z = true) (ws : List Jvm.Cond) (ro aw : Addr) (h0 : Heap) (n0 : Nat) (Z0 : n0 ≤ h0.size) (fv : Fld Z h0 ro "java/util/Optional" "value" "Ljava/lang/Object;" (.ref aw)) :
    MetFree l (⟨"java/util/Optional", "get", "()Ljava/lang/Object;"⟩ : MethodName) (head1 (Jvm.Cond.code (⟨"java/util/Optional", "get", "()Ljava/lang/Object;"⟩ : MethodName) jdk_32_method_5_code 1 (some (.object "java/lang/Object")) :: ws) ({ frames := 0, cells := 0, slots := 0, locals := 0 } : Room)) (fun av_ U => av_ = #[(.ref ro)] ∧ Z.Warmed39 U.vm ∧ U.heap = h0) (fun _ _ _ _ _ => True) (fun _ U o U' => ∃ v L, o = .returned v ∧ own_Q_own_get Z ro aw h0 n0 v U'.heap L ∧ FrameEnd U o U' L ({ frames := 0, cells := 0, slots := 0, locals := 0 } : Room).cells ({ frames := 0, cells := 0, slots := 0, locals := 0 } : Room).slots) := by
  refine MetFree.of_bodySF (plainFor_of_name own_pn5) hisR ?_
  intro p e s m args below meth c s₁ Bd hml0 hP hK
  obtain ⟨rfl, hZ, hh⟩ := hP
  have hx := Bd.exec
  have hby := Bd.bytes
  have hml : c.maxLocals = 1 := hml0
  have hown : s.vm.findClass "java/util/Optional" = some m.cls := findClass_of_methodNamed Bd.named
  have hnm := (name_of_methodNamed Bd.named Bd.method).1
  have X0 : Stand p l e ({ frames := 0, cells := 0, slots := 0, locals := 0 } : Room) s m #[(.ref ro)] below meth c s₁ [] 0 0 := Stand.of_body Bd
  have e0 : s₁.heap = h0 := by rw [← hh, Bd.state]; rfl
  have N0 := Fr.nil n0
  suffices hgo : own_Go p e below (fun o U' => ∃ v L, o = .returned v ∧ own_Q_own_get Z ro aw h0 n0 v U'.heap L ∧ FrameEnd s o U' L ({ frames := 0, cells := 0, slots := 0, locals := 0 } : Room).cells ({ frames := 0, cells := 0, slots := 0, locals := 0 } : Room).slots) (s₁.setTop (mkF m 0 #[.val (.ref ro)] [])) by
    obtain ⟨s₂, o, h1, h2, h3, h4⟩ := hgo
    exact ⟨s₂, o, castTop (own_ef16 m ro) h1, h2, h3, h4⟩
  show own_Go p e below _ (s₁.setTop (mkF m 0 #[.val (.ref ro)] []))
  refine own_Go.st (fun _ kt => XS.aloadN X0.here hx rfl (hb hby own_d_jdk_32_5_0) rfl rfl kt) ?_
  show own_Go p e below _ (s₁.setTop (mkF m 1 #[.val (.ref ro)] [(.ref ro)]))
  obtain ⟨T1, X1, e1, st1⟩ := getF X0 hx hZ hown (host := "") (Or.inl (hw _ (List.mem_of_getElem? (i := 77) rfl))) Via.refl e0 fv (g := (mkF m 1 #[.val (.ref ro)] [(.ref ro)])) rfl rfl (hb hby own_d_jdk_32_5_1)
  refine own_Go.st st1 ?_
  show own_Go p e below _ (T1.setTop (mkF m 4 #[.val (.ref ro)] [(.ref aw)]))
  refine own_Go.st (fun _ kt => XS.ifnonnullYes X1.here hx rfl (pc0 := 4) (pc' := 17) rfl (hb hby own_d_jdk_32_5_4) rfl (by decide) (by decide) kt) ?_
  show own_Go p e below _ (T1.setTop (mkF m 17 #[.val (.ref ro)] []))
  refine own_Go.st (fun _ kt => XS.aloadN X1.here hx rfl (hb hby own_d_jdk_32_5_17) rfl rfl kt) ?_
  show own_Go p e below _ (T1.setTop (mkF m 18 #[.val (.ref ro)] [(.ref ro)]))
  obtain ⟨T2, X2, e2, st2⟩ := getF X1 hx hZ hown (host := "") (Or.inl (hw _ (List.mem_of_getElem? (i := 77) rfl))) Via.refl e1 fv (g := (mkF m 18 #[.val (.ref ro)] [(.ref ro)])) rfl rfl (hb hby own_d_jdk_32_5_18)
  refine own_Go.st st2 ?_
  show own_Go p e below _ (T2.setTop (mkF m 21 #[.val (.ref ro)] [(.ref aw)]))
  exact own_retA X2 hx Bd.notSynchronized Bd.returns rfl rfl (hb hby own_d_jdk_32_5_21) (by decide) (by decide) ⟨rfl, N0, e2⟩
theorem own_pn6 : plainName "java/util/Objects" = true := by first | (simp [plainName, overriddenIn]; done) | decide +kernel
theorem own_ef17 (m : MethodId) (x0 : Addr) : entryFrame m #[(.ref x0)] 1 = mkF m 0 #[.val (.ref x0)] [] := by first | (simp [entryFrame, mkF, argsToLocals, Value.category]; done) | rfl
theorem own_d_jdk_31_10_0 : decode jdk_31_method_10_code 0 = .ok (.aload_n 0, 1) := by decide +kernel
theorem own_d_jdk_31_10_1 : decode jdk_31_method_10_code 1 = .ok (.ifnonnull 11, 3) := by decide +kernel
theorem own_d_jdk_31_10_12 : decode jdk_31_method_10_code 12 = .ok (.aload_n 0, 1) := by decide +kernel
theorem own_d_jdk_31_10_13 : decode jdk_31_method_10_code 13 = .ok (.areturn, 1) := by decide +kernel
def own_Q_own_rnn (Z : State) (aw : Addr) (h0 : Heap) (n0 : Nat) (v : Option Value) (h : Heap) (L : List Loc) : Prop := v = some (.ref aw) ∧ Fr n0 L ∧ h = h0
set_option maxRecDepth 65536 in
set_option maxHeartbeats 40000000 in
theorem own_rnn (l : Launch) (Z : State) (a0 : Array Value) (hw : ∀ d ∈ tables_1, d.before a0 Z = true) (ws : List Jvm.Cond) (aw : Addr) (h0 : Heap) (n0 : Nat) (Z0 : n0 ≤ h0.size)  :
    MetFree l (⟨"java/util/Objects", "requireNonNull", "(Ljava/lang/Object;)Ljava/lang/Object;"⟩ : MethodName) (head1 (Jvm.Cond.code (⟨"java/util/Objects", "requireNonNull", "(Ljava/lang/Object;)Ljava/lang/Object;"⟩ : MethodName) jdk_31_method_10_code 1 (some (.object "java/lang/Object")) :: ws) ({ frames := 0, cells := 0, slots := 0, locals := 0 } : Room)) (fun av_ U => av_ = #[(.ref aw)] ∧ Z.Warmed39 U.vm ∧ U.heap = h0) (fun _ _ _ _ _ => True) (fun _ U o U' => ∃ v L, o = .returned v ∧ own_Q_own_rnn Z aw h0 n0 v U'.heap L ∧ FrameEnd U o U' L ({ frames := 0, cells := 0, slots := 0, locals := 0 } : Room).cells ({ frames := 0, cells := 0, slots := 0, locals := 0 } : Room).slots) := by
  refine MetFree.of_bodySF (plainFor_of_name own_pn6) hisR ?_
  intro p e s m args below meth c s₁ Bd hml0 hP hK
  obtain ⟨rfl, hZ, hh⟩ := hP
  have hx := Bd.exec
  have hby := Bd.bytes
  have hml : c.maxLocals = 1 := hml0
  have hown : s.vm.findClass "java/util/Objects" = some m.cls := findClass_of_methodNamed Bd.named
  have hnm := (name_of_methodNamed Bd.named Bd.method).1
  have X0 : Stand p l e ({ frames := 0, cells := 0, slots := 0, locals := 0 } : Room) s m #[(.ref aw)] below meth c s₁ [] 0 0 := Stand.of_body Bd
  have e0 : s₁.heap = h0 := by rw [← hh, Bd.state]; rfl
  have N0 := Fr.nil n0
  suffices hgo : own_Go p e below (fun o U' => ∃ v L, o = .returned v ∧ own_Q_own_rnn Z aw h0 n0 v U'.heap L ∧ FrameEnd s o U' L ({ frames := 0, cells := 0, slots := 0, locals := 0 } : Room).cells ({ frames := 0, cells := 0, slots := 0, locals := 0 } : Room).slots) (s₁.setTop (mkF m 0 #[.val (.ref aw)] [])) by
    obtain ⟨s₂, o, h1, h2, h3, h4⟩ := hgo
    exact ⟨s₂, o, castTop (own_ef17 m aw) h1, h2, h3, h4⟩
  show own_Go p e below _ (s₁.setTop (mkF m 0 #[.val (.ref aw)] []))
  refine own_Go.st (fun _ kt => XS.aloadN X0.here hx rfl (hb hby own_d_jdk_31_10_0) rfl rfl kt) ?_
  show own_Go p e below _ (s₁.setTop (mkF m 1 #[.val (.ref aw)] [(.ref aw)]))
  refine own_Go.st (fun _ kt => XS.ifnonnullYes X0.here hx rfl (pc0 := 1) (pc' := 12) rfl (hb hby own_d_jdk_31_10_1) rfl (by decide) (by decide) kt) ?_
  show own_Go p e below _ (s₁.setTop (mkF m 12 #[.val (.ref aw)] []))
  refine own_Go.st (fun _ kt => XS.aloadN X0.here hx rfl (hb hby own_d_jdk_31_10_12) rfl rfl kt) ?_
  show own_Go p e below _ (s₁.setTop (mkF m 13 #[.val (.ref aw)] [(.ref aw)]))
  exact own_retA X0 hx Bd.notSynchronized Bd.returns rfl rfl (hb hby own_d_jdk_31_10_13) (by decide) (by decide) ⟨rfl, N0, e0⟩
theorem own_ef18 (m : MethodId) (x0 : Addr) (x1 : Addr) : entryFrame m #[(.ref x0), (.ref x1)] 2 = mkF m 0 #[.val (.ref x0), .val (.ref x1)] [] := by first | (simp [entryFrame, mkF, argsToLocals, Value.category]; done) | rfl
theorem own_d_jdk_32_2_0 : decode jdk_32_method_2_code 0 = .ok (.aload_n 0, 1) := by decide +kernel
theorem own_d_jdk_32_2_1 : decode jdk_32_method_2_code 1 = .ok (.invokespecial 7, 3) := by decide +kernel
theorem own_d_jdk_32_2_4 : decode jdk_32_method_2_code 4 = .ok (.aload_n 0, 1) := by decide +kernel
theorem own_d_jdk_32_2_5 : decode jdk_32_method_2_code 5 = .ok (.aload_n 1, 1) := by decide +kernel
theorem own_d_jdk_32_2_6 : decode jdk_32_method_2_code 6 = .ok (.putfield 13, 3) := by decide +kernel
theorem own_d_jdk_32_2_9 : decode jdk_32_method_2_code 9 = .ok (.return_, 1) := by decide +kernel
def own_Q_own_oi (Z : State) (ro aw : Addr) (h0 : Heap) (n0 : Nat) (v : Option Value) (h : Heap) (L : List Loc) : Prop := v = none ∧ Fr n0 L ∧ Fld Z h ro "java/util/Optional" "value" "Ljava/lang/Object;" (.ref aw) ∧ Keep h0 h [ro]
set_option maxRecDepth 65536 in
set_option maxHeartbeats 40000000 in
theorem own_oi (l : Launch) (Z : State) (a0 : Array Value) (hw : ∀ d ∈ tables_1, d.before a0 Z = true) (ws : List Jvm.Cond) (ro aw : Addr) (h0 : Heap) (n0 : Nat) (Z0 : n0 ≤ h0.size) (fE : Exa Z h0 ro "java/util/Optional") (fv : Fld Z h0 ro "java/util/Optional" "value" "Ljava/lang/Object;" .null) (go : n0 ≤ ro) :
    MetFree l (⟨"java/util/Optional", "<init>", "(Ljava/lang/Object;)V"⟩ : MethodName) (head1 (Jvm.Cond.code (⟨"java/util/Optional", "<init>", "(Ljava/lang/Object;)V"⟩ : MethodName) jdk_32_method_2_code 2 none :: ws) ({ frames := 1, cells := 0, slots := 0, locals := 12 } : Room)) (fun av_ U => av_ = #[(.ref ro), (.ref aw)] ∧ Z.Warmed39 U.vm ∧ U.heap = h0) (fun _ _ _ _ _ => True) (fun _ U o U' => ∃ v L, o = .returned v ∧ own_Q_own_oi Z ro aw h0 n0 v U'.heap L ∧ FrameEnd U o U' L ({ frames := 1, cells := 0, slots := 0, locals := 12 } : Room).cells ({ frames := 1, cells := 0, slots := 0, locals := 12 } : Room).slots) := by
  refine MetFree.of_bodySF (plainFor_of_name own_pn5) hisR ?_
  intro p e s m args below meth c s₁ Bd hml0 hP hK
  obtain ⟨rfl, hZ, hh⟩ := hP
  have hx := Bd.exec
  have hby := Bd.bytes
  have hml : c.maxLocals = 2 := hml0
  have hown : s.vm.findClass "java/util/Optional" = some m.cls := findClass_of_methodNamed Bd.named
  have hnm := (name_of_methodNamed Bd.named Bd.method).1
  have X0 : Stand p l e ({ frames := 1, cells := 0, slots := 0, locals := 12 } : Room) s m #[(.ref ro), (.ref aw)] below meth c s₁ [] 0 0 := Stand.of_body Bd
  have e0 : s₁.heap = h0 := by rw [← hh, Bd.state]; rfl
  have N0 := Fr.nil n0
  suffices hgo : own_Go p e below (fun o U' => ∃ v L, o = .returned v ∧ own_Q_own_oi Z ro aw h0 n0 v U'.heap L ∧ FrameEnd s o U' L ({ frames := 1, cells := 0, slots := 0, locals := 12 } : Room).cells ({ frames := 1, cells := 0, slots := 0, locals := 12 } : Room).slots) (s₁.setTop (mkF m 0 #[.val (.ref ro), .val (.ref aw)] [])) by
    obtain ⟨s₂, o, h1, h2, h3, h4⟩ := hgo
    exact ⟨s₂, o, castTop (own_ef18 m ro aw) h1, h2, h3, h4⟩
  have kk0 : Keep h0 h0 [ro] := Keep.refl _ _
  show own_Go p e below _ (s₁.setTop (mkF m 0 #[.val (.ref ro), .val (.ref aw)] []))
  refine own_Go.st (fun _ kt => XS.aloadN X0.here hx rfl (hb hby own_d_jdk_32_2_0) rfl rfl kt) ?_
  show own_Go p e below _ (s₁.setTop (mkF m 1 #[.val (.ref ro), .val (.ref aw)] [(.ref ro)]))
  obtain ⟨T1, X1, e1, st1⟩ := initO X0 hx hZ hown (hw _ (List.mem_of_getElem? (i := 103) rfl)) (hw _ (List.mem_of_getElem? (i := 20) rfl)) (hw _ (List.mem_of_getElem? (i := 21) rfl)) e0 (g := (mkF m 1 #[.val (.ref ro), .val (.ref aw)] [(.ref ro)])) rfl (by rw [hml]; rfl) rfl (hb hby own_d_jdk_32_2_1) (by decide) (W := 0) (by show 2 * 0 + _ ≤ _; exact Nat.le_of_eq rfl) (by decide)
  refine own_Go.st st1 ?_
  show own_Go p e below _ (T1.setTop (mkF m 4 #[.val (.ref ro), .val (.ref aw)] []))
  refine own_Go.st (fun _ kt => XS.aloadN X1.here hx rfl (hb hby own_d_jdk_32_2_4) rfl rfl kt) ?_
  show own_Go p e below _ (T1.setTop (mkF m 5 #[.val (.ref ro), .val (.ref aw)] [(.ref ro)]))
  refine own_Go.st (fun _ kt => XS.aloadN X1.here hx rfl (hb hby own_d_jdk_32_2_5) rfl rfl kt) ?_
  show own_Go p e below _ (T1.setTop (mkF m 6 #[.val (.ref ro), .val (.ref aw)] [(.ref aw), (.ref ro)]))
  obtain ⟨T2, h2, X2, e2, W2, st2⟩ := putF X1 hx hZ hown (host := "") (Or.inl (hw _ (List.mem_of_getElem? (i := 77) rfl))) Via.refl e1 fv fE (Or.inr ⟨(hw _ (List.mem_of_getElem? (i := 78) rfl)), rfl, hnm⟩) (hw _ (List.mem_of_getElem? (i := 94) rfl)) (ty := (.object "java/lang/Object")) (by decide) rfl rfl (g := (mkF m 6 #[.val (.ref ro), .val (.ref aw)] [(.ref aw), (.ref ro)])) rfl rfl (hb hby own_d_jdk_32_2_6)
  refine own_Go.st st2 ?_
  have N2 := Fr.snoc X2 N0 go
  have f2_value := Fld.same W2 fv
  have zz3 : n0 ≤ Array.size h2 := Nat.le_trans Z0 (Nat.le_of_eq (Wr.size W2).symm)
  have kk3 : Keep h0 h2 [ro] := kk0.wr W2 (Or.inl (List.mem_of_getElem? (i := 0) rfl))
  show own_Go p e below _ (T2.setTop (mkF m 9 #[.val (.ref ro), .val (.ref aw)] []))
  have fin := f2_value
  have kk := kk3
  rw [← e2] at fin kk
  exact own_retV X2 hx Bd.notSynchronized Bd.returns (hb hby own_d_jdk_32_2_9) (by decide) (by decide) ⟨rfl, N2, fin, kk⟩
theorem own_ef19 (m : MethodId) (x0 : Addr) : entryFrame m #[(.ref x0)] 1 = mkF m 0 #[.val (.ref x0)] [] := by first | (simp [entryFrame, mkF, argsToLocals, Value.category]; done) | rfl
theorem own_d_jdk_32_3_0 : decode jdk_32_method_3_code 0 = .ok (.new 2, 3) := by decide +kernel
theorem own_d_jdk_32_3_3 : decode jdk_32_method_3_code 3 = .ok (.dup, 1) := by decide +kernel
theorem own_d_jdk_32_3_4 : decode jdk_32_method_3_code 4 = .ok (.aload_n 0, 1) := by decide +kernel
theorem own_d_jdk_32_3_5 : decode jdk_32_method_3_code 5 = .ok (.invokestatic 17, 3) := by decide +kernel
theorem own_pd5 : parseMethodDescriptor "(Ljava/lang/Object;)Ljava/lang/Object;" = some ⟨[(.object "java/lang/Object")], some (.object "java/lang/Object")⟩ := by decide +kernel
theorem own_pd6 : parseMethodDescriptor "(Ljava/lang/Object;)V" = some ⟨[(.object "java/lang/Object")], none⟩ := by decide +kernel
theorem own_d_jdk_32_3_8 : decode jdk_32_method_3_code 8 = .ok (.invokespecial 23, 3) := by decide +kernel
theorem own_d_jdk_32_3_11 : decode jdk_32_method_3_code 11 = .ok (.areturn, 1) := by decide +kernel
def own_Q_own_of (Z : State) (aw : Addr) (h0 : Heap) (n0 : Nat) (v : Option Value) (h : Heap) (L : List Loc) : Prop := ∃ ro, v = some (.ref ro) ∧ Fr n0 L ∧ Exa Z h ro "java/util/Optional" ∧ Fld Z h ro "java/util/Optional" "value" "Ljava/lang/Object;" (.ref aw) ∧ Keep h0 h []
set_option maxRecDepth 65536 in
set_option maxHeartbeats 40000000 in
theorem own_of (l : Launch) (Z : State) (a0 : Array Value) (hw : ∀ d ∈ tables_1, d.before a0 Z = true) (ws : List Jvm.Cond) (aw : Addr) (h0 : Heap) (n0 : Nat) (Z0 : n0 ≤ h0.size)  :
    MetFree l (⟨"java/util/Optional", "of", "(Ljava/lang/Object;)Ljava/util/Optional;"⟩ : MethodName) (head1 (Jvm.Cond.code (⟨"java/util/Optional", "of", "(Ljava/lang/Object;)Ljava/util/Optional;"⟩ : MethodName) jdk_32_method_3_code 1 (some (.object "java/util/Optional")) :: ws) ({ frames := 2, cells := 1, slots := 1, locals := 26 } : Room)) (fun av_ U => av_ = #[(.ref aw)] ∧ Z.Warmed39 U.vm ∧ U.heap = h0) (fun _ _ _ _ _ => True) (fun _ U o U' => ∃ v L, o = .returned v ∧ own_Q_own_of Z aw h0 n0 v U'.heap L ∧ FrameEnd U o U' L ({ frames := 2, cells := 1, slots := 1, locals := 26 } : Room).cells ({ frames := 2, cells := 1, slots := 1, locals := 26 } : Room).slots) := by
  refine MetFree.of_bodySF (plainFor_of_name own_pn5) hisR ?_
  intro p e s m args below meth c s₁ Bd hml0 hP hK
  obtain ⟨rfl, hZ, hh⟩ := hP
  have hx := Bd.exec
  have hby := Bd.bytes
  have hml : c.maxLocals = 1 := hml0
  have hown : s.vm.findClass "java/util/Optional" = some m.cls := findClass_of_methodNamed Bd.named
  have hnm := (name_of_methodNamed Bd.named Bd.method).1
  have X0 : Stand p l e ({ frames := 2, cells := 1, slots := 1, locals := 26 } : Room) s m #[(.ref aw)] below meth c s₁ [] 0 0 := Stand.of_body Bd
  have e0 : s₁.heap = h0 := by rw [← hh, Bd.state]; rfl
  have N0 := Fr.nil n0
  suffices hgo : own_Go p e below (fun o U' => ∃ v L, o = .returned v ∧ own_Q_own_of Z aw h0 n0 v U'.heap L ∧ FrameEnd s o U' L ({ frames := 2, cells := 1, slots := 1, locals := 26 } : Room).cells ({ frames := 2, cells := 1, slots := 1, locals := 26 } : Room).slots) (s₁.setTop (mkF m 0 #[.val (.ref aw)] [])) by
    obtain ⟨s₂, o, h1, h2, h3, h4⟩ := hgo
    exact ⟨s₂, o, castTop (own_ef19 m aw) h1, h2, h3, h4⟩
  have kk0 : Keep h0 h0 [] := Keep.refl _ _
  show own_Go p e below _ (s₁.setTop (mkF m 0 #[.val (.ref aw)] []))
  obtain ⟨T1, h1, X1, e1, E1, A1, D1, U1, st1⟩ := newO X0 hx hZ hown (hw _ (List.mem_of_getElem? (i := 93) rfl)) (hw _ (List.mem_of_getElem? (i := 94) rfl)) (hw _ (List.mem_of_getElem? (i := 69) rfl)) e0 (g := (mkF m 0 #[.val (.ref aw)] [])) rfl (hb hby own_d_jdk_32_3_0) (by decide) (by decide)
  obtain ⟨ro, g1⟩ : ∃ z, z = Array.size h0 := ⟨_, rfl⟩
  rw [← g1] at A1 D1 U1 st1
  refine own_Go.st st1 ?_
  have n0_ro : n0 ≤ ro := Nat.le_trans Z0 (Nat.le_of_eq g1.symm)
  have b_ro : Array.size h0 ≤ ro := Nat.le_trans kk0.1 (Nat.le_of_eq g1.symm)
  have zz2 : n0 ≤ Array.size h1 := Nat.le_trans Z0 E1.1
  have kk2 : Keep h0 h1 [] := kk0.ext E1
  have D1_value : Fld Z h1 ro "java/util/Optional" "value" "Ljava/lang/Object;" .null := D1 (Or.inr (hw _ (List.mem_of_getElem? (i := 78) rfl))) (ty := (.object "java/lang/Object")) (by decide)
  show own_Go p e below _ (T1.setTop (mkF m 3 #[.val (.ref aw)] [(.ref ro)]))
  refine own_Go.st (fun _ kt => XS.dup X1.here hx rfl (hb hby own_d_jdk_32_3_3) rfl rfl kt) ?_
  show own_Go p e below _ (T1.setTop (mkF m 4 #[.val (.ref aw)] [(.ref ro), (.ref ro)]))
  refine own_Go.st (fun _ kt => XS.aloadN X1.here hx rfl (hb hby own_d_jdk_32_3_4) rfl rfl kt) ?_
  show own_Go p e below _ (T1.setTop (mkF m 5 #[.val (.ref aw)] [(.ref aw), (.ref ro), (.ref ro)]))
  obtain ⟨_, _, ⟨T3, L3, k3, n3⟩, -, X3, ⟨Lc3, hQ3, l3, y3, z3⟩, st3⟩ := Jvm.LawKit.callS X1 hx (y := (⟨"java/util/Objects", "requireNonNull", "(Ljava/lang/Object;)Ljava/lang/Object;"⟩ : MethodName)) hown (mvT hZ (hw _ (List.mem_of_getElem? (i := 95) rfl))) (mvT hZ (hw _ (List.mem_of_getElem? (i := 96) rfl))) (mvT hZ (hw _ (List.mem_of_getElem? (i := 97) rfl))) (mvT hZ (hw _ (List.mem_of_getElem? (i := 98) rfl))) (by decide) (backOf (W := 2) (own_rnn l Z a0 hw [] aw h1 n0 zz2 ) hZ (hw _ (List.mem_of_getElem? (i := 98) rfl)) (hw _ (List.mem_of_getElem? (i := 97) rfl)) (by decide) (by decide)) (g := (mkF m 5 #[.val (.ref aw)] [(.ref aw), (.ref ro), (.ref ro)])) rfl (by rw [hml]; rfl) (argsL := [(.ref aw)]) (rest := [(.ref ro), (.ref ro)]) (lenOf own_pd5 rfl) rfl (by show 2 * 0 + _ ≤ _; exact Nat.le_of_eq rfl) (hb hby own_d_jdk_32_3_5) (fun _ _ => ⟨rfl, e1, (by decide : 1 + 0 ≤ _), (by decide : 1 + 0 ≤ _)⟩)
  dsimp only [Pt.U, Pt.locs, Pt.cells, Pt.slots] at X3 l3 y3 z3 st3 hQ3
  subst l3 y3 z3
  obtain ⟨rfl, N3q, hh3⟩ := hQ3
  have N3 := Fr.app N0 N3q
  refine own_Go.st (fun _ kt => st3 _ kt) ?_
  show own_Go p e below _ (T3.setTop (mkF m 8 #[.val (.ref aw)] [(.ref aw), (.ref ro), (.ref ro)]))
  obtain ⟨_, _, ⟨T4, L4, k4, n4⟩, -, X4, ⟨Lc4, hQ4, l4, y4, z4⟩, st4⟩ := X3.specialBack hx (y := (⟨"java/util/Optional", "<init>", "(Ljava/lang/Object;)V"⟩ : MethodName)) rfl hown (mvT hZ (hw _ (List.mem_of_getElem? (i := 99) rfl))) (mvT hZ (hw _ (List.mem_of_getElem? (i := 100) rfl))) (mvT hZ (hw _ (List.mem_of_getElem? (i := 102) rfl))) (by decide) (backOf (W := 1) (own_oi l Z a0 hw [] ro aw h1 n0 zz2 A1 D1_value n0_ro) hZ (hw _ (List.mem_of_getElem? (i := 102) rfl)) (hw _ (List.mem_of_getElem? (i := 69) rfl)) (by decide) (by decide)) (g := (mkF m 8 #[.val (.ref aw)] [(.ref aw), (.ref ro), (.ref ro)])) rfl (by rw [hml]; rfl) (Steps.refl _) (a := ro) (argsL := [(.ref aw)]) (rest := [(.ref ro)]) (lenOf own_pd6 rfl) rfl (by show 2 * 0 + _ ≤ _; exact Nat.le_of_eq rfl) (hb hby own_d_jdk_32_3_8) (fun _ _ => ⟨rfl, hh3, (by decide : 1 + 0 ≤ _), (by decide : 1 + 0 ≤ _)⟩)
  dsimp only [Pt.U, Pt.locs, Pt.cells, Pt.slots] at X4 l4 y4 z4 st4 hQ4
  subst l4 y4 z4
  obtain ⟨rfl, N4q, fv4, KF4⟩ := hQ4
  have N4 := Fr.app N3 N4q
  refine own_Go.st (fun _ kt => st4.trans kt) ?_
  have zz5 : n0 ≤ Array.size T4.heap := Nat.le_trans zz2 KF4.1
  have kk5 : Keep h0 T4.heap [] := kk2.trans KF4 (allS (P := fun x => x ∈ [] ∨ _) (Or.inr b_ro) all0)
  show own_Go p e below _ (T4.setTop (mkF m 11 #[.val (.ref aw)] [(.ref ro)]))
  have f6 := (A1.keep KF4)
  have fin := f6
  have fin2 := fv4
  have kk := kk5
  exact own_retA X4 hx Bd.notSynchronized Bd.returns rfl rfl (hb hby own_d_jdk_32_3_11) (by decide) (by decide) ⟨ro, rfl, N4, fin, fin2, kk⟩
def own_N (P Q : Prop) (aE aF : Addr) (w : Value) : Prop := (P ∧ w = .ref aE) ∨ (¬ P ∧ Q ∧ w = .ref aF) ∨ (¬ P ∧ ¬ Q ∧ w = .null)
theorem own_eqt_symm {n n2 : Nat} {g g2 : Nat → Int32} (h : own_eqt n g n2 g2) : own_eqt n2 g2 n g := ⟨h.1.symm, fun j hj => (h.2 j (by rw [h.1]; exact hj)).symm⟩
theorem own_ef20 (m : MethodId) (x0 : Addr) : entryFrame m #[(.ref x0)] 5 = mkF m 0 #[.val (.ref x0), .unset, .unset, .unset, .unset] [] := by first | (simp [entryFrame, mkF, argsToLocals, Value.category]; done) | rfl
theorem own_pd7 : parseMethodDescriptor "()[Lcom/example/marshal/marshal/variables/VariableType;" = some ⟨[], some (.array (.object "com/example/marshal/marshal/variables/VariableType"))⟩ := by decide +kernel
theorem own_d_prog_52_4_0 : decode prog_52_method_4_code 0 = .ok (.invokestatic 33, 3) := by decide +kernel
theorem own_d_prog_52_4_3 : decode prog_52_method_4_code 3 = .ok (.astore_n 1, 1) := by decide +kernel
theorem own_d_prog_52_4_4 : decode prog_52_method_4_code 4 = .ok (.aload_n 1, 1) := by decide +kernel
theorem own_d_prog_52_4_5 : decode prog_52_method_4_code 5 = .ok (.arraylength, 1) := by decide +kernel
theorem own_d_prog_52_4_6 : decode prog_52_method_4_code 6 = .ok (.istore_n 2, 1) := by decide +kernel
theorem own_d_prog_52_4_7 : decode prog_52_method_4_code 7 = .ok (.iconst 0, 1) := by decide +kernel
theorem own_d_prog_52_4_8 : decode prog_52_method_4_code 8 = .ok (.istore_n 3, 1) := by decide +kernel
theorem own_d_prog_52_4_9 : decode prog_52_method_4_code 9 = .ok (.iload_n 3, 1) := by decide +kernel
theorem own_d_prog_52_4_10 : decode prog_52_method_4_code 10 = .ok (.iload_n 2, 1) := by decide +kernel
theorem own_d_prog_52_4_11 : decode prog_52_method_4_code 11 = .ok (.if_icmp .ge 32, 3) := by decide +kernel
theorem own_d_prog_52_4_14 : decode prog_52_method_4_code 14 = .ok (.aload_n 1, 1) := by decide +kernel
theorem own_d_prog_52_4_15 : decode prog_52_method_4_code 15 = .ok (.iload_n 3, 1) := by decide +kernel
theorem own_d_prog_52_4_16 : decode prog_52_method_4_code 16 = .ok (.aaload, 1) := by decide +kernel
theorem own_d_prog_52_4_17 : decode prog_52_method_4_code 17 = .ok (.astore 4, 2) := by decide +kernel
theorem own_d_prog_52_4_19 : decode prog_52_method_4_code 19 = .ok (.aload 4, 2) := by decide +kernel
theorem own_d_prog_52_4_21 : decode prog_52_method_4_code 21 = .ok (.getfield 29, 3) := by decide +kernel
theorem own_d_prog_52_4_24 : decode prog_52_method_4_code 24 = .ok (.aload_n 0, 1) := by decide +kernel
theorem own_d_prog_52_4_25 : decode prog_52_method_4_code 25 = .ok (.invokevirtual 37, 3) := by decide +kernel
theorem own_pd8 : parseMethodDescriptor "(Ljava/lang/Object;)Z" = some ⟨[(.object "java/lang/Object")], some .boolean⟩ := by decide +kernel
theorem own_d_prog_52_4_28 : decode prog_52_method_4_code 28 = .ok (.ifCond .eq 9, 3) := by decide +kernel
theorem own_d_prog_52_4_31 : decode prog_52_method_4_code 31 = .ok (.aload 4, 2) := by decide +kernel
theorem own_d_prog_52_4_33 : decode prog_52_method_4_code 33 = .ok (.invokestatic 43, 3) := by decide +kernel
theorem own_pd9 : parseMethodDescriptor "(Ljava/lang/Object;)Ljava/util/Optional;" = some ⟨[(.object "java/lang/Object")], some (.object "java/util/Optional")⟩ := by decide +kernel
theorem own_d_prog_52_4_36 : decode prog_52_method_4_code 36 = .ok (.areturn, 1) := by decide +kernel
theorem own_d_prog_52_4_37 : decode prog_52_method_4_code 37 = .ok (.iinc 3 1, 3) := by decide +kernel
theorem own_d_prog_52_4_40 : decode prog_52_method_4_code 40 = .ok (.goto (-31), 3) := by decide +kernel
theorem own_d_prog_52_4_43 : decode prog_52_method_4_code 43 = .ok (.invokestatic 49, 3) := by decide +kernel
theorem own_pd10 : parseMethodDescriptor "()Ljava/util/Optional;" = some ⟨[], some (.object "java/util/Optional")⟩ := by decide +kernel
theorem own_d_prog_52_4_46 : decode prog_52_method_4_code 46 = .ok (.areturn, 1) := by decide +kernel
def own_Q_own_named (Z : State) (sx bx : Addr) (n : Nat) (g : Nat → Int32) (rv : Addr) (fv : Nat → Value) (aE aF nE nF bE bF ro0 : Addr) (zc : Int32) (h0 : Heap) (n0 : Nat) (v : Option Value) (h : Heap) (L : List Loc) : Prop := ∃ ro u, v = some (.ref ro) ∧ Fr n0 L ∧ Exa Z h ro "java/util/Optional" ∧ Fld Z h ro "java/util/Optional" "value" "Ljava/lang/Object;" u ∧ own_N (own_eqt 7 (fun j => ([101, 110, 118, 95, 118, 97, 114] : List Int32).getD j 0) n g) (own_eqt 4 (fun j => ([102, 105, 108, 101] : List Int32).getD j 0) n g) aE aF u ∧ Keep h0 h []
set_option maxRecDepth 65536 in
set_option maxHeartbeats 40000000 in
theorem own_named (l : Launch) (Z : State) (a0 : Array Value) (hw : ∀ d ∈ tables_1, d.before a0 Z = true) (ws : List Jvm.Cond) (sx bx : Addr) (n : Nat) (g : Nat → Int32) (rv : Addr) (fv : Nat → Value) (aE aF nE nF bE bF ro0 : Addr) (zc : Int32) (h0 : Heap) (n0 : Nat) (Z0 : n0 ≤ h0.size) (fs : own_Str Z h0 sx bx n g) (hl : n ≤ 8) (sV : Sta Z h0 "com/example/marshal/marshal/variables/VariableType" "$VALUES" "[Lcom/example/marshal/marshal/variables/VariableType;" (.ref rv)) (aV : own_Ar Z h0 rv (.object "com/example/marshal/marshal/variables/VariableType") 2 fv) (eV : Exa Z h0 rv "[Lcom/example/marshal/marshal/variables/VariableType;") (hF : ∀ c : Cell, Arr Z h0 rv c (.object "com/example/marshal/marshal/variables/VariableType") → FitC Z c) (fAE : Fld Z h0 aE "com/example/marshal/marshal/variables/VariableType" "apiName" "Ljava/lang/String;" (.ref nE)) (fAF : Fld Z h0 aF "com/example/marshal/marshal/variables/VariableType" "apiName" "Ljava/lang/String;" (.ref nF)) (fSE : own_Str Z h0 nE bE 7 (fun j => ([101, 110, 118, 95, 118, 97, 114] : List Int32).getD j 0)) (fSF : own_Str Z h0 nF bF 4 (fun j => ([102, 105, 108, 101] : List Int32).getD j 0)) (hv0 : fv 0 = .ref aE) (hv1 : fv 1 = .ref aF) (sE : Sta Z h0 "java/util/Optional" "EMPTY" "Ljava/util/Optional;" (.ref ro0)) (eO : Exa Z h0 ro0 "java/util/Optional") (fO : Fld Z h0 ro0 "java/util/Optional" "value" "Ljava/lang/Object;" .null) (cs : Sta Z h0 "java/lang/String" "COMPACT_STRINGS" "Z" (.int zc)) (hzc : ¬ zc = 0) :
    MetFree l (⟨"com/example/marshal/marshal/variables/VariableType", "named", "(Ljava/lang/String;)Ljava/util/Optional;"⟩ : MethodName) (head1 (Jvm.Cond.code (⟨"com/example/marshal/marshal/variables/VariableType", "named", "(Ljava/lang/String;)Ljava/util/Optional;"⟩ : MethodName) prog_52_method_4_code 5 (some (.object "java/util/Optional")) :: ws) ({ frames := 3, cells := 2, slots := 3, locals := 38 } : Room)) (fun av_ U => av_ = #[(.ref sx)] ∧ Z.Warmed39 U.vm ∧ U.heap = h0) (fun _ _ _ _ _ => True) (fun _ U o U' => ∃ v L, o = .returned v ∧ own_Q_own_named Z sx bx n g rv fv aE aF nE nF bE bF ro0 zc h0 n0 v U'.heap L ∧ FrameEnd U o U' L ({ frames := 3, cells := 2, slots := 3, locals := 38 } : Room).cells ({ frames := 3, cells := 2, slots := 3, locals := 38 } : Room).slots) := by
  refine MetFree.of_bodySF (plainFor_of_name own_pn4) hisR ?_
  intro p e s m args below meth c s₁ Bd hml0 hP hK
  obtain ⟨rfl, hZ, hh⟩ := hP
  have hx := Bd.exec
  have hby := Bd.bytes
  have hml : c.maxLocals = 5 := hml0
  have hown : s.vm.findClass "com/example/marshal/marshal/variables/VariableType" = some m.cls := findClass_of_methodNamed Bd.named
  have hnm := (name_of_methodNamed Bd.named Bd.method).1
  have X0 : Stand p l e ({ frames := 3, cells := 2, slots := 3, locals := 38 } : Room) s m #[(.ref sx)] below meth c s₁ [] 0 0 := Stand.of_body Bd
  have e0 : s₁.heap = h0 := by rw [← hh, Bd.state]; rfl
  have N0 := Fr.nil n0
  suffices hgo : own_Go p e below (fun o U' => ∃ v L, o = .returned v ∧ own_Q_own_named Z sx bx n g rv fv aE aF nE nF bE bF ro0 zc h0 n0 v U'.heap L ∧ FrameEnd s o U' L ({ frames := 3, cells := 2, slots := 3, locals := 38 } : Room).cells ({ frames := 3, cells := 2, slots := 3, locals := 38 } : Room).slots) (s₁.setTop (mkF m 0 #[.val (.ref sx), .unset, .unset, .unset, .unset] [])) by
    obtain ⟨s₂, o, h1, h2, h3, h4⟩ := hgo
    exact ⟨s₂, o, castTop (own_ef20 m sx) h1, h2, h3, h4⟩
  have kk0 : Keep h0 h0 [] := Keep.refl _ _
  show own_Go p e below _ (s₁.setTop (mkF m 0 #[.val (.ref sx), .unset, .unset, .unset, .unset] []))
  obtain ⟨_, _, ⟨T1, L1, k1, n1⟩, -, X1, ⟨Lc1, hQ1, l1, y1, z1⟩, st1⟩ := Jvm.LawKit.callS X0 hx (y := (⟨"com/example/marshal/marshal/variables/VariableType", "values", "()[Lcom/example/marshal/marshal/variables/VariableType;"⟩ : MethodName)) hown (mvT hZ (hw _ (List.mem_of_getElem? (i := 47) rfl))) (mvT hZ (hw _ (List.mem_of_getElem? (i := 48) rfl))) (mvT hZ (hw _ (List.mem_of_getElem? (i := 45) rfl))) (mvT hZ (hw _ (List.mem_of_getElem? (i := 49) rfl))) (by decide) (backOf (W := 0) (own_values l Z a0 hw [] rv fv h0 n0 Z0 sV aV eV hF) hZ (hw _ (List.mem_of_getElem? (i := 49) rfl)) (hw _ (List.mem_of_getElem? (i := 45) rfl)) (by decide) (by decide)) (g := (mkF m 0 #[.val (.ref sx), .unset, .unset, .unset, .unset] [])) rfl (by rw [hml]; rfl) (argsL := []) (rest := []) (lenOf own_pd7 rfl) rfl (by show 2 * 0 + _ ≤ _; exact Nat.le_of_eq rfl) (hb hby own_d_prog_52_4_0) (fun _ _ => ⟨rfl, e0, (by decide : 0 + 1 ≤ _), (by decide : 0 + 2 ≤ _)⟩)
  dsimp only [Pt.U, Pt.locs, Pt.cells, Pt.slots] at X1 l1 y1 z1 st1 hQ1
  subst l1 y1 z1
  obtain ⟨r2, rfl, N1q, ar1, KF1⟩ := hQ1
  have N1 := Fr.app N0 N1q
  refine own_Go.st (fun _ kt => st1 _ kt) ?_
  have zz2 : n0 ≤ Array.size T1.heap := Nat.le_trans Z0 KF1.1
  have kk2 : Keep h0 T1.heap [] := kk0.trans KF1 all0
  show own_Go p e below _ (T1.setTop (mkF m 3 #[.val (.ref sx), .unset, .unset, .unset, .unset] [(.ref r2)]))
  have fs1 := fs.keep KF1 nin0 nin0
  have fSE1 := fSE.keep KF1 nin0 nin0
  have fSF1 := fSF.keep KF1 nin0 nin0
  refine own_Go.st (fun _ kt => XS.astoreN X1.here hx rfl (hb hby own_d_prog_52_4_3) rfl rfl (l' := #[.val (.ref sx), .val (.ref r2), .unset, .unset, .unset]) rfl kt) ?_
  show own_Go p e below _ (T1.setTop (mkF m 4 #[.val (.ref sx), .val (.ref r2), .unset, .unset, .unset] []))
  refine own_Go.st (fun _ kt => XS.aloadN X1.here hx rfl (hb hby own_d_prog_52_4_4) rfl rfl kt) ?_
  show own_Go p e below _ (T1.setTop (mkF m 5 #[.val (.ref sx), .val (.ref r2), .unset, .unset, .unset] [(.ref r2)]))
  refine own_Go.st (fun _ kt => own_alen X1 hx hZ rfl ar1 (z := (2 : Int32)) (by decide) (g := (mkF m 5 #[.val (.ref sx), .val (.ref r2), .unset, .unset, .unset] [(.ref r2)])) rfl rfl (hb hby own_d_prog_52_4_5) _ kt) ?_
  show own_Go p e below _ (T1.setTop (mkF m 6 #[.val (.ref sx), .val (.ref r2), .unset, .unset, .unset] [(.int (2 : Int32))]))
  refine own_Go.st (fun _ kt => XS.istoreN X1.here hx rfl (hb hby own_d_prog_52_4_6) rfl (l' := #[.val (.ref sx), .val (.ref r2), .val (.int (2 : Int32)), .unset, .unset]) rfl kt) ?_
  show own_Go p e below _ (T1.setTop (mkF m 7 #[.val (.ref sx), .val (.ref r2), .val (.int (2 : Int32)), .unset, .unset] []))
  refine own_Go.st (fun _ kt => XS.iconst X1.here hx rfl (hb hby own_d_prog_52_4_7) kt) ?_
  show own_Go p e below _ (T1.setTop (mkF m 8 #[.val (.ref sx), .val (.ref r2), .val (.int (2 : Int32)), .unset, .unset] [(.int (0 : Int32))]))
  refine own_Go.st (fun _ kt => XS.istoreN X1.here hx rfl (hb hby own_d_prog_52_4_8) rfl (l' := #[.val (.ref sx), .val (.ref r2), .val (.int (2 : Int32)), .val (.int (0 : Int32)), .unset]) rfl kt) ?_
  show own_Go p e below _ (T1.setTop (mkF m 9 #[.val (.ref sx), .val (.ref r2), .val (.int (2 : Int32)), .val (.int (0 : Int32)), .unset] []))
  refine own_Go.st (fun _ kt => XS.iloadN X1.here hx rfl (hb hby own_d_prog_52_4_9) rfl kt) ?_
  show own_Go p e below _ (T1.setTop (mkF m 10 #[.val (.ref sx), .val (.ref r2), .val (.int (2 : Int32)), .val (.int (0 : Int32)), .unset] [(.int (0 : Int32))]))
  refine own_Go.st (fun _ kt => XS.iloadN X1.here hx rfl (hb hby own_d_prog_52_4_10) rfl kt) ?_
  show own_Go p e below _ (T1.setTop (mkF m 11 #[.val (.ref sx), .val (.ref r2), .val (.int (2 : Int32)), .val (.int (0 : Int32)), .unset] [(.int (2 : Int32)), (.int (0 : Int32))]))
  refine own_Go.st (fun _ kt => XS.icmpNo X1.here hx rfl (hb hby own_d_prog_52_4_11) rfl (tlt (by decide)).2.1 kt) ?_
  show own_Go p e below _ (T1.setTop (mkF m 14 #[.val (.ref sx), .val (.ref r2), .val (.int (2 : Int32)), .val (.int (0 : Int32)), .unset] []))
  refine own_Go.st (fun _ kt => XS.aloadN X1.here hx rfl (hb hby own_d_prog_52_4_14) rfl rfl kt) ?_
  show own_Go p e below _ (T1.setTop (mkF m 15 #[.val (.ref sx), .val (.ref r2), .val (.int (2 : Int32)), .val (.int (0 : Int32)), .unset] [(.ref r2)]))
  refine own_Go.st (fun _ kt => XS.iloadN X1.here hx rfl (hb hby own_d_prog_52_4_15) rfl kt) ?_
  show own_Go p e below _ (T1.setTop (mkF m 16 #[.val (.ref sx), .val (.ref r2), .val (.int (2 : Int32)), .val (.int (0 : Int32)), .unset] [(.int (0 : Int32)), (.ref r2)]))
  refine own_Go.st (fun _ kt => own_rald rfl X1 hx hZ rfl ar1 (i := 0) (by decide) (by decide) (v := (.ref aE)) hv0 (g := (mkF m 16 #[.val (.ref sx), .val (.ref r2), .val (.int (2 : Int32)), .val (.int (0 : Int32)), .unset] [(.int (0 : Int32)), (.ref r2)])) rfl rfl (hb hby own_d_prog_52_4_16) _ kt) ?_
  show own_Go p e below _ (T1.setTop (mkF m 17 #[.val (.ref sx), .val (.ref r2), .val (.int (2 : Int32)), .val (.int (0 : Int32)), .unset] [(.ref aE)]))
  refine own_Go.st (fun _ kt => XS.astore X1.here hx rfl (hb hby own_d_prog_52_4_17) rfl rfl (l' := #[.val (.ref sx), .val (.ref r2), .val (.int (2 : Int32)), .val (.int (0 : Int32)), .val (.ref aE)]) rfl kt) ?_
  show own_Go p e below _ (T1.setTop (mkF m 19 #[.val (.ref sx), .val (.ref r2), .val (.int (2 : Int32)), .val (.int (0 : Int32)), .val (.ref aE)] []))
  refine own_Go.st (fun _ kt => XS.aload X1.here hx rfl (hb hby own_d_prog_52_4_19) rfl rfl kt) ?_
  show own_Go p e below _ (T1.setTop (mkF m 21 #[.val (.ref sx), .val (.ref r2), .val (.int (2 : Int32)), .val (.int (0 : Int32)), .val (.ref aE)] [(.ref aE)]))
  have f3 := (fAE.keep KF1 nin0)
  obtain ⟨T4, X4, e4, st4⟩ := getF X1 hx hZ hown (host := "") (Or.inl (hw _ (List.mem_of_getElem? (i := 64) rfl))) Via.refl rfl f3 (g := (mkF m 21 #[.val (.ref sx), .val (.ref r2), .val (.int (2 : Int32)), .val (.int (0 : Int32)), .val (.ref aE)] [(.ref aE)])) rfl rfl (hb hby own_d_prog_52_4_21)
  refine own_Go.st st4 ?_
  show own_Go p e below _ (T4.setTop (mkF m 24 #[.val (.ref sx), .val (.ref r2), .val (.int (2 : Int32)), .val (.int (0 : Int32)), .val (.ref aE)] [(.ref nE)]))
  refine own_Go.st (fun _ kt => XS.aloadN X4.here hx rfl (hb hby own_d_prog_52_4_24) rfl rfl kt) ?_
  show own_Go p e below _ (T4.setTop (mkF m 25 #[.val (.ref sx), .val (.ref r2), .val (.int (2 : Int32)), .val (.int (0 : Int32)), .val (.ref aE)] [(.ref sx), (.ref nE)]))
  have f5 := (own_stakeep cs KF1 (fun x hx _ _ => absurd hx List.not_mem_nil))
  obtain ⟨cq6, kq6, q6a, q6b, q6c⟩ := isOf hZ e4 fSE1.1
  obtain ⟨_, _, ⟨T6, L6, k6, n6⟩, -, X6, ⟨Lc6, hQ6, l6, y6, z6⟩, st6⟩ := X4.virtualBack hx (y := (⟨"java/lang/String", "equals", "(Ljava/lang/Object;)Z"⟩ : MethodName)) (z := (⟨"java/lang/String", "equals", "(Ljava/lang/Object;)Z"⟩ : MethodName)) hown (mvT hZ (hw _ (List.mem_of_getElem? (i := 66) rfl))) (mvT hZ (hw _ (List.mem_of_getElem? (i := 32) rfl))) (notFace_of_selects (args := #[]) (mvT hZ (hw _ (List.mem_of_getElem? (i := 34) rfl)))) (mvT hZ (hw _ (List.mem_of_getElem? (i := 34) rfl))) (mvT hZ (hw _ (List.mem_of_getElem? (i := 33) rfl))) (by decide) (backOf (W := 0) (own_eq l Z a0 hw [] nE sx bE bx 7 n (fun j => ([101, 110, 118, 95, 118, 97, 114] : List Int32).getD j 0) g zc T1.heap n0 zz2 fSE1 fs1 f5 hzc (by decide) hl) hZ (hw _ (List.mem_of_getElem? (i := 35) rfl)) (hw _ (List.mem_of_getElem? (i := 8) rfl)) (by decide) (by decide)) q6a q6c (g := (mkF m 25 #[.val (.ref sx), .val (.ref r2), .val (.int (2 : Int32)), .val (.int (0 : Int32)), .val (.ref aE)] [(.ref sx), (.ref nE)])) rfl (by rw [hml]; rfl) (Steps.refl _) (argsL := [(.ref sx)]) (rest := []) (lenOf own_pd8 rfl) rfl (by show 2 * 0 + _ ≤ _; exact Nat.le_of_eq rfl) (hb hby own_d_prog_52_4_25) (fun _ _ => ⟨rfl, e4, (by decide : 1 + 0 ≤ _), (by decide : 2 + 0 ≤ _)⟩)
  dsimp only [Pt.U, Pt.locs, Pt.cells, Pt.slots] at X6 l6 y6 z6 st6 hQ6
  subst l6 y6 z6
  obtain ⟨z0, rfl, N6q, hB6, hh6⟩ := hQ6
  have N6 := Fr.app N1 N6q
  refine own_Go.st (fun _ kt => st6.trans kt) ?_
  show own_Go p e below _ (T6.setTop (mkF m 28 #[.val (.ref sx), .val (.ref r2), .val (.int (2 : Int32)), .val (.int (0 : Int32)), .val (.ref aE)] [(.int z0)]))
  rcases hB6 with ⟨rfl, q0⟩ | ⟨rfl, q0⟩
  · show own_Go p e below _ (T6.setTop (mkF m 28 #[.val (.ref sx), .val (.ref r2), .val (.int (2 : Int32)), .val (.int (0 : Int32)), .val (.ref aE)] [(.int (1 : Int32))]))
    refine own_Go.st (fun _ kt => XS.ifNo X6.here hx rfl (hb hby own_d_prog_52_4_28) rfl ((if0 _ _).trans (feq (by decide)).1) kt) ?_
    show own_Go p e below _ (T6.setTop (mkF m 31 #[.val (.ref sx), .val (.ref r2), .val (.int (2 : Int32)), .val (.int (0 : Int32)), .val (.ref aE)] []))
    refine own_Go.st (fun _ kt => XS.aload X6.here hx rfl (hb hby own_d_prog_52_4_31) rfl rfl kt) ?_
    show own_Go p e below _ (T6.setTop (mkF m 33 #[.val (.ref sx), .val (.ref r2), .val (.int (2 : Int32)), .val (.int (0 : Int32)), .val (.ref aE)] [(.ref aE)]))
    obtain ⟨_, _, ⟨T7, L7, k7, n7⟩, -, X7, ⟨Lc7, hQ7, l7, y7, z7⟩, st7⟩ := Jvm.LawKit.callS X6 hx (y := (⟨"java/util/Optional", "of", "(Ljava/lang/Object;)Ljava/util/Optional;"⟩ : MethodName)) hown (mvT hZ (hw _ (List.mem_of_getElem? (i := 90) rfl))) (mvT hZ (hw _ (List.mem_of_getElem? (i := 91) rfl))) (mvT hZ (hw _ (List.mem_of_getElem? (i := 69) rfl))) (mvT hZ (hw _ (List.mem_of_getElem? (i := 92) rfl))) (by decide) (backOf (W := 0) (own_of l Z a0 hw [] aE T1.heap n0 zz2 ) hZ (hw _ (List.mem_of_getElem? (i := 92) rfl)) (hw _ (List.mem_of_getElem? (i := 69) rfl)) (by decide) (by decide)) (g := (mkF m 33 #[.val (.ref sx), .val (.ref r2), .val (.int (2 : Int32)), .val (.int (0 : Int32)), .val (.ref aE)] [(.ref aE)])) rfl (by rw [hml]; rfl) (argsL := [(.ref aE)]) (rest := []) (lenOf own_pd9 rfl) rfl (by show 2 * 0 + _ ≤ _; exact Nat.le_of_eq rfl) (hb hby own_d_prog_52_4_33) (fun _ _ => ⟨rfl, hh6, (by decide : 1 + 1 ≤ _), (by decide : 2 + 1 ≤ _)⟩)
    dsimp only [Pt.U, Pt.locs, Pt.cells, Pt.slots] at X7 l7 y7 z7 st7 hQ7
    subst l7 y7 z7
    obtain ⟨ro, rfl, N7q, eo7, fo7, KF7⟩ := hQ7
    have N7 := Fr.app N6 N7q
    refine own_Go.st (fun _ kt => st7 _ kt) ?_
    have zz8 : n0 ≤ Array.size T7.heap := Nat.le_trans zz2 KF7.1
    have kk8 : Keep h0 T7.heap [] := kk2.trans KF7 all0
    show own_Go p e below _ (T7.setTop (mkF m 36 #[.val (.ref sx), .val (.ref r2), .val (.int (2 : Int32)), .val (.int (0 : Int32)), .val (.ref aE)] [(.ref ro)]))
    have kk := kk8
    exact own_retA X7 hx Bd.notSynchronized Bd.returns rfl rfl (hb hby own_d_prog_52_4_36) (by decide) (by decide) ⟨_, _, rfl, N7, eo7, fo7, Or.inl ⟨q0, rfl⟩, kk⟩
  · show own_Go p e below _ (T6.setTop (mkF m 28 #[.val (.ref sx), .val (.ref r2), .val (.int (2 : Int32)), .val (.int (0 : Int32)), .val (.ref aE)] [(.int (0 : Int32))]))
    refine own_Go.st (fun _ kt => XS.ifYes X6.here hx rfl (pc0 := 28) (pc' := 37) rfl (hb hby own_d_prog_52_4_28) rfl ((if0 _ _).trans (teq rfl).1) (by decide) (by decide) kt) ?_
    show own_Go p e below _ (T6.setTop (mkF m 37 #[.val (.ref sx), .val (.ref r2), .val (.int (2 : Int32)), .val (.int (0 : Int32)), .val (.ref aE)] []))
    refine own_Go.st (fun _ kt => XS.iinc X6.here hx rfl (hb hby own_d_prog_52_4_37) rfl (l' := #[.val (.ref sx), .val (.ref r2), .val (.int (2 : Int32)), .val (.int ((0 : Int32) + (1 : Int32))), .val (.ref aE)]) rfl kt) ?_
    show own_Go p e below _ (T6.setTop (mkF m 40 #[.val (.ref sx), .val (.ref r2), .val (.int (2 : Int32)), .val (.int ((0 : Int32) + (1 : Int32))), .val (.ref aE)] []))
    refine own_Go.st (fun _ kt => XS.goto X6.here hx rfl (pc0 := 40) (pc' := 9) rfl (hb hby own_d_prog_52_4_40) (by decide) (by decide) kt) ?_
    show own_Go p e below _ (T6.setTop (mkF m 9 #[.val (.ref sx), .val (.ref r2), .val (.int (2 : Int32)), .val (.int ((0 : Int32) + (1 : Int32))), .val (.ref aE)] []))
    rw [show ((0 : Int32) + (1 : Int32)) = (1 : Int32) from (by decide)]
    show own_Go p e below _ (T6.setTop (mkF m 9 #[.val (.ref sx), .val (.ref r2), .val (.int (2 : Int32)), .val (.int (1 : Int32)), .val (.ref aE)] []))
    refine own_Go.st (fun _ kt => XS.iloadN X6.here hx rfl (hb hby own_d_prog_52_4_9) rfl kt) ?_
    show own_Go p e below _ (T6.setTop (mkF m 10 #[.val (.ref sx), .val (.ref r2), .val (.int (2 : Int32)), .val (.int (1 : Int32)), .val (.ref aE)] [(.int (1 : Int32))]))
    refine own_Go.st (fun _ kt => XS.iloadN X6.here hx rfl (hb hby own_d_prog_52_4_10) rfl kt) ?_
    show own_Go p e below _ (T6.setTop (mkF m 11 #[.val (.ref sx), .val (.ref r2), .val (.int (2 : Int32)), .val (.int (1 : Int32)), .val (.ref aE)] [(.int (2 : Int32)), (.int (1 : Int32))]))
    refine own_Go.st (fun _ kt => XS.icmpNo X6.here hx rfl (hb hby own_d_prog_52_4_11) rfl (tlt (by decide)).2.1 kt) ?_
    show own_Go p e below _ (T6.setTop (mkF m 14 #[.val (.ref sx), .val (.ref r2), .val (.int (2 : Int32)), .val (.int (1 : Int32)), .val (.ref aE)] []))
    refine own_Go.st (fun _ kt => XS.aloadN X6.here hx rfl (hb hby own_d_prog_52_4_14) rfl rfl kt) ?_
    show own_Go p e below _ (T6.setTop (mkF m 15 #[.val (.ref sx), .val (.ref r2), .val (.int (2 : Int32)), .val (.int (1 : Int32)), .val (.ref aE)] [(.ref r2)]))
    refine own_Go.st (fun _ kt => XS.iloadN X6.here hx rfl (hb hby own_d_prog_52_4_15) rfl kt) ?_
    show own_Go p e below _ (T6.setTop (mkF m 16 #[.val (.ref sx), .val (.ref r2), .val (.int (2 : Int32)), .val (.int (1 : Int32)), .val (.ref aE)] [(.int (1 : Int32)), (.ref r2)]))
    refine own_Go.st (fun _ kt => own_rald rfl X6 hx hZ hh6 ar1 (i := 1) (by decide) (by decide) (v := (.ref aF)) hv1 (g := (mkF m 16 #[.val (.ref sx), .val (.ref r2), .val (.int (2 : Int32)), .val (.int (1 : Int32)), .val (.ref aE)] [(.int (1 : Int32)), (.ref r2)])) rfl rfl (hb hby own_d_prog_52_4_16) _ kt) ?_
    show own_Go p e below _ (T6.setTop (mkF m 17 #[.val (.ref sx), .val (.ref r2), .val (.int (2 : Int32)), .val (.int (1 : Int32)), .val (.ref aE)] [(.ref aF)]))
    refine own_Go.st (fun _ kt => XS.astore X6.here hx rfl (hb hby own_d_prog_52_4_17) rfl rfl (l' := #[.val (.ref sx), .val (.ref r2), .val (.int (2 : Int32)), .val (.int (1 : Int32)), .val (.ref aF)]) rfl kt) ?_
    show own_Go p e below _ (T6.setTop (mkF m 19 #[.val (.ref sx), .val (.ref r2), .val (.int (2 : Int32)), .val (.int (1 : Int32)), .val (.ref aF)] []))
    refine own_Go.st (fun _ kt => XS.aload X6.here hx rfl (hb hby own_d_prog_52_4_19) rfl rfl kt) ?_
    show own_Go p e below _ (T6.setTop (mkF m 21 #[.val (.ref sx), .val (.ref r2), .val (.int (2 : Int32)), .val (.int (1 : Int32)), .val (.ref aF)] [(.ref aF)]))
    have f9 := (fAF.keep KF1 nin0)
    obtain ⟨T10, X10, e10, st10⟩ := getF X6 hx hZ hown (host := "") (Or.inl (hw _ (List.mem_of_getElem? (i := 64) rfl))) Via.refl hh6 f9 (g := (mkF m 21 #[.val (.ref sx), .val (.ref r2), .val (.int (2 : Int32)), .val (.int (1 : Int32)), .val (.ref aF)] [(.ref aF)])) rfl rfl (hb hby own_d_prog_52_4_21)
    refine own_Go.st st10 ?_
    show own_Go p e below _ (T10.setTop (mkF m 24 #[.val (.ref sx), .val (.ref r2), .val (.int (2 : Int32)), .val (.int (1 : Int32)), .val (.ref aF)] [(.ref nF)]))
    refine own_Go.st (fun _ kt => XS.aloadN X10.here hx rfl (hb hby own_d_prog_52_4_24) rfl rfl kt) ?_
    show own_Go p e below _ (T10.setTop (mkF m 25 #[.val (.ref sx), .val (.ref r2), .val (.int (2 : Int32)), .val (.int (1 : Int32)), .val (.ref aF)] [(.ref sx), (.ref nF)]))
    obtain ⟨cq11, kq11, q11a, q11b, q11c⟩ := isOf hZ e10 fSF1.1
    obtain ⟨_, _, ⟨T11, L11, k11, n11⟩, -, X11, ⟨Lc11, hQ11, l11, y11, z11⟩, st11⟩ := X10.virtualBack hx (y := (⟨"java/lang/String", "equals", "(Ljava/lang/Object;)Z"⟩ : MethodName)) (z := (⟨"java/lang/String", "equals", "(Ljava/lang/Object;)Z"⟩ : MethodName)) hown (mvT hZ (hw _ (List.mem_of_getElem? (i := 66) rfl))) (mvT hZ (hw _ (List.mem_of_getElem? (i := 32) rfl))) (notFace_of_selects (args := #[]) (mvT hZ (hw _ (List.mem_of_getElem? (i := 34) rfl)))) (mvT hZ (hw _ (List.mem_of_getElem? (i := 34) rfl))) (mvT hZ (hw _ (List.mem_of_getElem? (i := 33) rfl))) (by decide) (backOf (W := 0) (own_eq l Z a0 hw [] nF sx bF bx 4 n (fun j => ([102, 105, 108, 101] : List Int32).getD j 0) g zc T1.heap n0 zz2 fSF1 fs1 f5 hzc (by decide) hl) hZ (hw _ (List.mem_of_getElem? (i := 35) rfl)) (hw _ (List.mem_of_getElem? (i := 8) rfl)) (by decide) (by decide)) q11a q11c (g := (mkF m 25 #[.val (.ref sx), .val (.ref r2), .val (.int (2 : Int32)), .val (.int (1 : Int32)), .val (.ref aF)] [(.ref sx), (.ref nF)])) rfl (by rw [hml]; rfl) (Steps.refl _) (argsL := [(.ref sx)]) (rest := []) (lenOf own_pd8 rfl) rfl (by show 2 * 0 + _ ≤ _; exact Nat.le_of_eq rfl) (hb hby own_d_prog_52_4_25) (fun _ _ => ⟨rfl, e10, (by decide : 1 + 0 ≤ _), (by decide : 2 + 0 ≤ _)⟩)
    dsimp only [Pt.U, Pt.locs, Pt.cells, Pt.slots] at X11 l11 y11 z11 st11 hQ11
    subst l11 y11 z11
    obtain ⟨z1, rfl, N11q, hB11, hh11⟩ := hQ11
    have N11 := Fr.app N6 N11q
    refine own_Go.st (fun _ kt => st11.trans kt) ?_
    show own_Go p e below _ (T11.setTop (mkF m 28 #[.val (.ref sx), .val (.ref r2), .val (.int (2 : Int32)), .val (.int (1 : Int32)), .val (.ref aF)] [(.int z1)]))
    rcases hB11 with ⟨rfl, q1⟩ | ⟨rfl, q1⟩
    · show own_Go p e below _ (T11.setTop (mkF m 28 #[.val (.ref sx), .val (.ref r2), .val (.int (2 : Int32)), .val (.int (1 : Int32)), .val (.ref aF)] [(.int (1 : Int32))]))
      refine own_Go.st (fun _ kt => XS.ifNo X11.here hx rfl (hb hby own_d_prog_52_4_28) rfl ((if0 _ _).trans (feq (by decide)).1) kt) ?_
      show own_Go p e below _ (T11.setTop (mkF m 31 #[.val (.ref sx), .val (.ref r2), .val (.int (2 : Int32)), .val (.int (1 : Int32)), .val (.ref aF)] []))
      refine own_Go.st (fun _ kt => XS.aload X11.here hx rfl (hb hby own_d_prog_52_4_31) rfl rfl kt) ?_
      show own_Go p e below _ (T11.setTop (mkF m 33 #[.val (.ref sx), .val (.ref r2), .val (.int (2 : Int32)), .val (.int (1 : Int32)), .val (.ref aF)] [(.ref aF)]))
      obtain ⟨_, _, ⟨T12, L12, k12, n12⟩, -, X12, ⟨Lc12, hQ12, l12, y12, z12⟩, st12⟩ := Jvm.LawKit.callS X11 hx (y := (⟨"java/util/Optional", "of", "(Ljava/lang/Object;)Ljava/util/Optional;"⟩ : MethodName)) hown (mvT hZ (hw _ (List.mem_of_getElem? (i := 90) rfl))) (mvT hZ (hw _ (List.mem_of_getElem? (i := 91) rfl))) (mvT hZ (hw _ (List.mem_of_getElem? (i := 69) rfl))) (mvT hZ (hw _ (List.mem_of_getElem? (i := 92) rfl))) (by decide) (backOf (W := 0) (own_of l Z a0 hw [] aF T1.heap n0 zz2 ) hZ (hw _ (List.mem_of_getElem? (i := 92) rfl)) (hw _ (List.mem_of_getElem? (i := 69) rfl)) (by decide) (by decide)) (g := (mkF m 33 #[.val (.ref sx), .val (.ref r2), .val (.int (2 : Int32)), .val (.int (1 : Int32)), .val (.ref aF)] [(.ref aF)])) rfl (by rw [hml]; rfl) (argsL := [(.ref aF)]) (rest := []) (lenOf own_pd9 rfl) rfl (by show 2 * 0 + _ ≤ _; exact Nat.le_of_eq rfl) (hb hby own_d_prog_52_4_33) (fun _ _ => ⟨rfl, hh11, (by decide : 1 + 1 ≤ _), (by decide : 2 + 1 ≤ _)⟩)
      dsimp only [Pt.U, Pt.locs, Pt.cells, Pt.slots] at X12 l12 y12 z12 st12 hQ12
      subst l12 y12 z12
      obtain ⟨ro, rfl, N12q, eo12, fo12, KF12⟩ := hQ12
      have N12 := Fr.app N11 N12q
      refine own_Go.st (fun _ kt => st12 _ kt) ?_
      have zz13 : n0 ≤ Array.size T12.heap := Nat.le_trans zz2 KF12.1
      have kk13 : Keep h0 T12.heap [] := kk2.trans KF12 all0
      show own_Go p e below _ (T12.setTop (mkF m 36 #[.val (.ref sx), .val (.ref r2), .val (.int (2 : Int32)), .val (.int (1 : Int32)), .val (.ref aF)] [(.ref ro)]))
      have kk := kk13
      exact own_retA X12 hx Bd.notSynchronized Bd.returns rfl rfl (hb hby own_d_prog_52_4_36) (by decide) (by decide) ⟨_, _, rfl, N12, eo12, fo12, Or.inr (Or.inl ⟨q0, q1, rfl⟩), kk⟩
    · show own_Go p e below _ (T11.setTop (mkF m 28 #[.val (.ref sx), .val (.ref r2), .val (.int (2 : Int32)), .val (.int (1 : Int32)), .val (.ref aF)] [(.int (0 : Int32))]))
      refine own_Go.st (fun _ kt => XS.ifYes X11.here hx rfl (pc0 := 28) (pc' := 37) rfl (hb hby own_d_prog_52_4_28) rfl ((if0 _ _).trans (teq rfl).1) (by decide) (by decide) kt) ?_
      show own_Go p e below _ (T11.setTop (mkF m 37 #[.val (.ref sx), .val (.ref r2), .val (.int (2 : Int32)), .val (.int (1 : Int32)), .val (.ref aF)] []))
      refine own_Go.st (fun _ kt => XS.iinc X11.here hx rfl (hb hby own_d_prog_52_4_37) rfl (l' := #[.val (.ref sx), .val (.ref r2), .val (.int (2 : Int32)), .val (.int ((1 : Int32) + (1 : Int32))), .val (.ref aF)]) rfl kt) ?_
      show own_Go p e below _ (T11.setTop (mkF m 40 #[.val (.ref sx), .val (.ref r2), .val (.int (2 : Int32)), .val (.int ((1 : Int32) + (1 : Int32))), .val (.ref aF)] []))
      refine own_Go.st (fun _ kt => XS.goto X11.here hx rfl (pc0 := 40) (pc' := 9) rfl (hb hby own_d_prog_52_4_40) (by decide) (by decide) kt) ?_
      show own_Go p e below _ (T11.setTop (mkF m 9 #[.val (.ref sx), .val (.ref r2), .val (.int (2 : Int32)), .val (.int ((1 : Int32) + (1 : Int32))), .val (.ref aF)] []))
      rw [show ((1 : Int32) + (1 : Int32)) = (2 : Int32) from (by decide)]
      show own_Go p e below _ (T11.setTop (mkF m 9 #[.val (.ref sx), .val (.ref r2), .val (.int (2 : Int32)), .val (.int (2 : Int32)), .val (.ref aF)] []))
      refine own_Go.st (fun _ kt => XS.iloadN X11.here hx rfl (hb hby own_d_prog_52_4_9) rfl kt) ?_
      show own_Go p e below _ (T11.setTop (mkF m 10 #[.val (.ref sx), .val (.ref r2), .val (.int (2 : Int32)), .val (.int (2 : Int32)), .val (.ref aF)] [(.int (2 : Int32))]))
      refine own_Go.st (fun _ kt => XS.iloadN X11.here hx rfl (hb hby own_d_prog_52_4_10) rfl kt) ?_
      show own_Go p e below _ (T11.setTop (mkF m 11 #[.val (.ref sx), .val (.ref r2), .val (.int (2 : Int32)), .val (.int (2 : Int32)), .val (.ref aF)] [(.int (2 : Int32)), (.int (2 : Int32))]))
      refine own_Go.st (fun _ kt => XS.icmpYes X11.here hx rfl (pc0 := 11) (pc' := 43) rfl (hb hby own_d_prog_52_4_11) rfl (flt (by decide)).2.1 (by decide) (by decide) kt) ?_
      show own_Go p e below _ (T11.setTop (mkF m 43 #[.val (.ref sx), .val (.ref r2), .val (.int (2 : Int32)), .val (.int (2 : Int32)), .val (.ref aF)] []))
      have f14 := (own_stakeep sE KF1 (fun x hx _ _ => absurd hx List.not_mem_nil))
      obtain ⟨_, _, ⟨T15, L15, k15, n15⟩, -, X15, ⟨Lc15, hQ15, l15, y15, z15⟩, st15⟩ := Jvm.LawKit.callS X11 hx (y := (⟨"java/util/Optional", "empty", "()Ljava/util/Optional;"⟩ : MethodName)) hown (mvT hZ (hw _ (List.mem_of_getElem? (i := 67) rfl))) (mvT hZ (hw _ (List.mem_of_getElem? (i := 68) rfl))) (mvT hZ (hw _ (List.mem_of_getElem? (i := 69) rfl))) (mvT hZ (hw _ (List.mem_of_getElem? (i := 70) rfl))) (by decide) (backOf (W := 0) (own_empty l Z a0 hw [] ro0 T1.heap n0 zz2 f14) hZ (hw _ (List.mem_of_getElem? (i := 70) rfl)) (hw _ (List.mem_of_getElem? (i := 69) rfl)) (by decide) (by decide)) (g := (mkF m 43 #[.val (.ref sx), .val (.ref r2), .val (.int (2 : Int32)), .val (.int (2 : Int32)), .val (.ref aF)] [])) rfl (by rw [hml]; rfl) (argsL := []) (rest := []) (lenOf own_pd10 rfl) rfl (by show 2 * 0 + _ ≤ _; exact Nat.le_of_eq rfl) (hb hby own_d_prog_52_4_43) (fun _ _ => ⟨rfl, hh11, (by decide : 1 + 0 ≤ _), (by decide : 2 + 0 ≤ _)⟩)
      dsimp only [Pt.U, Pt.locs, Pt.cells, Pt.slots] at X15 l15 y15 z15 st15 hQ15
      subst l15 y15 z15
      obtain ⟨rfl, N15q, hh15⟩ := hQ15
      have N15 := Fr.app N11 N15q
      refine own_Go.st (fun _ kt => st15 _ kt) ?_
      show own_Go p e below _ (T15.setTop (mkF m 46 #[.val (.ref sx), .val (.ref r2), .val (.int (2 : Int32)), .val (.int (2 : Int32)), .val (.ref aF)] [(.ref ro0)]))
      have f16 := (eO.keep KF1)
      have f17 := (fO.keep KF1 nin0)
      have f1 := f16
      have f2 := f17
      rw [← hh15] at f1 f2
      have kk := kk2
      rw [← hh15] at kk
      exact own_retA X15 hx Bd.notSynchronized Bd.returns rfl rfl (hb hby own_d_prog_52_4_46) (by decide) (by decide) ⟨_, _, rfl, N15, f1, f2, Or.inr (Or.inr ⟨q0, q1, rfl⟩), kk⟩
theorem own_len9 (x : Int32) : ∃ n : Nat, (((x.toUInt32 >>> ((2 : Int32) &&& 31).toUInt32).toInt32 &&& (15 : Int32)) % (9 : Int32)).toInt = (n : Int) ∧ n ≤ 8 := by
  generalize (x.toUInt32 >>> ((2 : Int32) &&& 31).toUInt32).toInt32 = y
  have h := c_mask y 15 4 (by decide) (by decide)
  have h2 := (c_irem (y &&& 15) 9 9 (by decide)).1
  exact ⟨((y &&& 15) % 9).toInt.toNat, by omega, by omega⟩
theorem own_q16 (x : Int32) : ∃ n : Nat, ((x.toUInt32 >>> ((6 : Int32) &&& 31).toUInt32).toInt32 &&& (15 : Int32)).toInt = (n : Int) := by
  generalize (x.toUInt32 >>> ((6 : Int32) &&& 31).toUInt32).toInt32 = y
  have h := c_mask y 15 4 (by decide) (by decide)
  exact ⟨(y &&& 15).toInt.toNat, by omega⟩
theorem own_ef21 (m : MethodId) (x0 : Int32) (x1 : Int64) (x2 : Int32) : entryFrame m #[(.int x0), (.long x1), (.int x2)] maxLocals = mkF m 0 #[.val (.int x0), .val (.long x1), .second, .val (.int x2), .unset, .unset, .unset, .unset, .unset, .unset, .unset] [] := by first | (simp [entryFrame, mkF, argsToLocals, Value.category, maxLocals]; done) | rfl
theorem own_pd11 : parseMethodDescriptor "(JI)C" = some ⟨[.long, .int], some .char⟩ := by decide +kernel
theorem own_pd12 : parseMethodDescriptor "([CI)[C" = some ⟨[(.array .char), .int], some (.array .char)⟩ := by decide +kernel
theorem own_pd13 : parseMethodDescriptor "([C)V" = some ⟨[(.array .char)], none⟩ := by decide +kernel
theorem own_pd14 : parseMethodDescriptor "(Ljava/lang/String;)Ljava/util/Optional;" = some ⟨[(.object "java/lang/String")], some (.object "java/util/Optional")⟩ := by decide +kernel
theorem own_pd15 : parseMethodDescriptor "()Z" = some ⟨[], some .boolean⟩ := by decide +kernel
theorem own_pd16 : parseMethodDescriptor "()Ljava/lang/Object;" = some ⟨[], some (.object "java/lang/Object")⟩ := by decide +kernel
def own_Q_own_law (Z : State) (p0 : Int32) (p1 : Int64) (p2 : Int32) (rv : Addr) (fv : Nat → Value) (aE aF nE nF bE bF ro0 : Addr) (zc : Int32) (h0 : Heap) (n0 : Nat) (v : Option Value) (h : Heap) (L : List Loc) : Prop := v = some (.int 1) ∧ Fr n0 L
set_option maxRecDepth 65536 in
set_option maxHeartbeats 40000000 in
theorem own_law (l : Launch) (Z : State) (a0 : Array Value) (hw : ∀ d ∈ tables_1, d.before a0 Z = true) (ws : List Jvm.Cond) (p0 : Int32) (p1 : Int64) (p2 : Int32) (rv : Addr) (fv : Nat → Value) (aE aF nE nF bE bF ro0 : Addr) (zc : Int32) (h0 : Heap) (n0 : Nat) (Z0 : n0 ≤ h0.size) (sV : Sta Z h0 "com/example/marshal/marshal/variables/VariableType" "$VALUES" "[Lcom/example/marshal/marshal/variables/VariableType;" (.ref rv)) (aV : own_Ar Z h0 rv (.object "com/example/marshal/marshal/variables/VariableType") 2 fv) (eV : Exa Z h0 rv "[Lcom/example/marshal/marshal/variables/VariableType;") (hF : ∀ c : Cell, Arr Z h0 rv c (.object "com/example/marshal/marshal/variables/VariableType") → FitC Z c) (fAE : Fld Z h0 aE "com/example/marshal/marshal/variables/VariableType" "apiName" "Ljava/lang/String;" (.ref nE)) (fAF : Fld Z h0 aF "com/example/marshal/marshal/variables/VariableType" "apiName" "Ljava/lang/String;" (.ref nF)) (fSE : own_Str Z h0 nE bE 7 (fun j => ([101, 110, 118, 95, 118, 97, 114] : List Int32).getD j 0)) (fSF : own_Str Z h0 nF bF 4 (fun j => ([102, 105, 108, 101] : List Int32).getD j 0)) (hv0 : fv 0 = .ref aE) (hv1 : fv 1 = .ref aF) (sE : Sta Z h0 "java/util/Optional" "EMPTY" "Ljava/util/Optional;" (.ref ro0)) (eO : Exa Z h0 ro0 "java/util/Optional") (fO : Fld Z h0 ro0 "java/util/Optional" "value" "Ljava/lang/Object;" .null) (cs : Sta Z h0 "java/lang/String" "COMPACT_STRINGS" "Z" (.int zc)) (hzc : ¬ zc = 0) (sEV : Sta Z h0 "com/example/marshal/marshal/variables/VariableType" "ENV_VAR" "Lcom/example/marshal/marshal/variables/VariableType;" (.ref aE)) (sFI : Sta Z h0 "com/example/marshal/marshal/variables/VariableType" "FILE" "Lcom/example/marshal/marshal/variables/VariableType;" (.ref aF)) (hkp : ∀ (b : Addr) (cl : Cell), Z.heap[b]? = some cl → h0[b]? = some cl) (heldS : Jvm.Lit.constHeld Z "java/lang/String" 7) (heldE : Jvm.Lit.constHeld Z "com/example/marshal/marshal/variables/VariableTypeNamedPinLaw" 22) (heldF : Jvm.Lit.constHeld Z "com/example/marshal/marshal/variables/VariableTypeNamedPinLaw" 34) (hcw : Jvm.Lit.compactW.before a0 Z = true) (hn0 : n0 = Array.size h0) :
    MetFree l x (head1 (Jvm.Cond.code x code maxLocals ret :: ws) room_1) (fun av_ U => av_ = #[(.int p0), (.long p1), (.int p2)] ∧ Z.Warmed39 U.vm ∧ U.heap = h0 ∧ IB Z U.vm []) (fun _ _ _ _ _ => True) (fun _ U o U' => ∃ v L, o = .returned v ∧ own_Q_own_law Z p0 p1 p2 rv fv aE aF nE nF bE bF ro0 zc h0 n0 v U'.heap L ∧ ReturnedEndW U o U' L room_1.cells room_1.slots) := by
  refine MetFree.of_bodySF (plainFor_of_name own_pn0) hisR ?_
  intro p e s m args below meth c s₁ Bd hml0 hP hK
  obtain ⟨rfl, hZ, hh, hIB⟩ := hP
  have hx := Bd.exec
  have hby := Bd.bytes
  have hml : c.maxLocals = 11 := hml0
  have hown : s.vm.findClass "com/example/marshal/marshal/variables/VariableTypeNamedPinLaw" = some m.cls := findClass_of_methodNamed Bd.named
  have hnm := (name_of_methodNamed Bd.named Bd.method).1
  have X0 : Stand p l e room_1 (s.setVm s.vm) m #[(.int p0), (.long p1), (.int p2)] below meth c s₁ [] 0 0 := Stand.of_body Bd
  have e0 : s₁.heap = h0 := by rw [← hh, Bd.state]; rfl
  have N0 := Fr.nil n0
  suffices hgo : own_Go p e below (fun o U' => ∃ v L, o = .returned v ∧ own_Q_own_law Z p0 p1 p2 rv fv aE aF nE nF bE bF ro0 zc h0 n0 v U'.heap L ∧ ReturnedEndW s o U' L room_1.cells room_1.slots) (s₁.setTop (mkF m 0 #[.val (.int p0), .val (.long p1), .second, .val (.int p2), .unset, .unset, .unset, .unset, .unset, .unset, .unset] [])) by
    obtain ⟨s₂, o, h1, h2, h3, h4⟩ := hgo
    exact ⟨s₂, o, castTop (own_ef21 m p0 p1 p2) h1, h2, h3, h4⟩
  have hS0 : s.Since s.vm (Array.size h0) := State.WarmedH.since (State.WarmedH.refl _) _
  have kk0 : Keep h0 h0 [] := Keep.refl _ _
  show own_Go p e below _ (s₁.setTop (mkF m 0 #[.val (.int p0), .val (.long p1), .second, .val (.int p2), .unset, .unset, .unset, .unset, .unset, .unset, .unset] []))
  refine own_Go.st (fun _ kt => XS.iloadN X0.here hx rfl (hb hby at_0) rfl kt) ?_
  show own_Go p e below _ (s₁.setTop (mkF m 1 #[.val (.int p0), .val (.long p1), .second, .val (.int p2), .unset, .unset, .unset, .unset, .unset, .unset, .unset] [(.int p0)]))
  refine own_Go.st (fun _ kt => XS.iconst X0.here hx rfl (hb hby at_1) kt) ?_
  show own_Go p e below _ (s₁.setTop (mkF m 2 #[.val (.int p0), .val (.long p1), .second, .val (.int p2), .unset, .unset, .unset, .unset, .unset, .unset, .unset] [(.int (3 : Int32)), (.int p0)]))
  refine own_Go.st (fun _ kt => XS.iand X0.here hx rfl (hb hby at_2) rfl kt) ?_
  show own_Go p e below _ (s₁.setTop (mkF m 3 #[.val (.int p0), .val (.long p1), .second, .val (.int p2), .unset, .unset, .unset, .unset, .unset, .unset, .unset] [(.int (p0 &&& (3 : Int32)))]))
  generalize hxm : (p0 &&& (3 : Int32)) = xm
  show own_Go p e below _ (s₁.setTop (mkF m 3 #[.val (.int p0), .val (.long p1), .second, .val (.int p2), .unset, .unset, .unset, .unset, .unset, .unset, .unset] [(.int xm)]))
  refine own_Go.st (fun _ kt => XS.istore X0.here hx rfl (hb hby at_3) rfl (l' := #[.val (.int p0), .val (.long p1), .second, .val (.int p2), .val (.int xm), .unset, .unset, .unset, .unset, .unset, .unset]) rfl kt) ?_
  show own_Go p e below _ (s₁.setTop (mkF m 5 #[.val (.int p0), .val (.long p1), .second, .val (.int p2), .val (.int xm), .unset, .unset, .unset, .unset, .unset, .unset] []))
  refine own_Go.st (fun _ kt => XS.iloadN X0.here hx rfl (hb hby at_5) rfl kt) ?_
  show own_Go p e below _ (s₁.setTop (mkF m 6 #[.val (.int p0), .val (.long p1), .second, .val (.int p2), .val (.int xm), .unset, .unset, .unset, .unset, .unset, .unset] [(.int p0)]))
  refine own_Go.st (fun _ kt => XS.iconst X0.here hx rfl (hb hby at_6) kt) ?_
  show own_Go p e below _ (s₁.setTop (mkF m 7 #[.val (.int p0), .val (.long p1), .second, .val (.int p2), .val (.int xm), .unset, .unset, .unset, .unset, .unset, .unset] [(.int (2 : Int32)), (.int p0)]))
  refine own_Go.st (fun _ kt => XS.iushr X0.here hx rfl (hb hby at_7) rfl kt) ?_
  show own_Go p e below _ (s₁.setTop (mkF m 8 #[.val (.int p0), .val (.long p1), .second, .val (.int p2), .val (.int xm), .unset, .unset, .unset, .unset, .unset, .unset] [(.int ((p0.toUInt32 >>> ((2 : Int32) &&& 31).toUInt32).toInt32))]))
  refine own_Go.st (fun _ kt => XS.bipush X0.here hx rfl (hb hby at_8) kt) ?_
  show own_Go p e below _ (s₁.setTop (mkF m 10 #[.val (.int p0), .val (.long p1), .second, .val (.int p2), .val (.int xm), .unset, .unset, .unset, .unset, .unset, .unset] [(.int (15 : Int32)), (.int ((p0.toUInt32 >>> ((2 : Int32) &&& 31).toUInt32).toInt32))]))
  refine own_Go.st (fun _ kt => XS.iand X0.here hx rfl (hb hby at_10) rfl kt) ?_
  show own_Go p e below _ (s₁.setTop (mkF m 11 #[.val (.int p0), .val (.long p1), .second, .val (.int p2), .val (.int xm), .unset, .unset, .unset, .unset, .unset, .unset] [(.int (((p0.toUInt32 >>> ((2 : Int32) &&& 31).toUInt32).toInt32) &&& (15 : Int32)))]))
  refine own_Go.st (fun _ kt => XS.bipush X0.here hx rfl (hb hby at_11) kt) ?_
  show own_Go p e below _ (s₁.setTop (mkF m 13 #[.val (.int p0), .val (.long p1), .second, .val (.int p2), .val (.int xm), .unset, .unset, .unset, .unset, .unset, .unset] [(.int (9 : Int32)), (.int (((p0.toUInt32 >>> ((2 : Int32) &&& 31).toUInt32).toInt32) &&& (15 : Int32)))]))
  refine own_Go.st (fun _ kt => Jvm.RoadKit.iremM X0 hx rfl (hb hby at_13) rfl (by decide) kt) ?_
  show own_Go p e below _ (s₁.setTop (mkF m 14 #[.val (.int p0), .val (.long p1), .second, .val (.int p2), .val (.int xm), .unset, .unset, .unset, .unset, .unset, .unset] [(.int ((((p0.toUInt32 >>> ((2 : Int32) &&& 31).toUInt32).toInt32) &&& (15 : Int32)) % (9 : Int32)))]))
  obtain ⟨n, hn, hl⟩ := own_len9 p0
  generalize ((((p0.toUInt32 >>> ((2 : Int32) &&& 31).toUInt32).toInt32) &&& (15 : Int32)) % (9 : Int32)) = xl at hn ⊢
  show own_Go p e below _ (s₁.setTop (mkF m 14 #[.val (.int p0), .val (.long p1), .second, .val (.int p2), .val (.int xm), .unset, .unset, .unset, .unset, .unset, .unset] [(.int xl)]))
  refine own_Go.st (fun _ kt => XS.istore X0.here hx rfl (hb hby at_14) rfl (l' := #[.val (.int p0), .val (.long p1), .second, .val (.int p2), .val (.int xm), .val (.int xl), .unset, .unset, .unset, .unset, .unset]) rfl kt) ?_
  show own_Go p e below _ (s₁.setTop (mkF m 16 #[.val (.int p0), .val (.long p1), .second, .val (.int p2), .val (.int xm), .val (.int xl), .unset, .unset, .unset, .unset, .unset] []))
  refine own_Go.st (fun _ kt => XS.iloadN X0.here hx rfl (hb hby at_16) rfl kt) ?_
  show own_Go p e below _ (s₁.setTop (mkF m 17 #[.val (.int p0), .val (.long p1), .second, .val (.int p2), .val (.int xm), .val (.int xl), .unset, .unset, .unset, .unset, .unset] [(.int p0)]))
  refine own_Go.st (fun _ kt => XS.bipush X0.here hx rfl (hb hby at_17) kt) ?_
  show own_Go p e below _ (s₁.setTop (mkF m 19 #[.val (.int p0), .val (.long p1), .second, .val (.int p2), .val (.int xm), .val (.int xl), .unset, .unset, .unset, .unset, .unset] [(.int (6 : Int32)), (.int p0)]))
  refine own_Go.st (fun _ kt => XS.iushr X0.here hx rfl (hb hby at_19) rfl kt) ?_
  show own_Go p e below _ (s₁.setTop (mkF m 20 #[.val (.int p0), .val (.long p1), .second, .val (.int p2), .val (.int xm), .val (.int xl), .unset, .unset, .unset, .unset, .unset] [(.int ((p0.toUInt32 >>> ((6 : Int32) &&& 31).toUInt32).toInt32))]))
  refine own_Go.st (fun _ kt => XS.bipush X0.here hx rfl (hb hby at_20) kt) ?_
  show own_Go p e below _ (s₁.setTop (mkF m 22 #[.val (.int p0), .val (.long p1), .second, .val (.int p2), .val (.int xm), .val (.int xl), .unset, .unset, .unset, .unset, .unset] [(.int (15 : Int32)), (.int ((p0.toUInt32 >>> ((6 : Int32) &&& 31).toUInt32).toInt32))]))
  refine own_Go.st (fun _ kt => XS.iand X0.here hx rfl (hb hby at_22) rfl kt) ?_
  show own_Go p e below _ (s₁.setTop (mkF m 23 #[.val (.int p0), .val (.long p1), .second, .val (.int p2), .val (.int xm), .val (.int xl), .unset, .unset, .unset, .unset, .unset] [(.int (((p0.toUInt32 >>> ((6 : Int32) &&& 31).toUInt32).toInt32) &&& (15 : Int32)))]))
  obtain ⟨i6, hi6⟩ := own_q16 p0
  generalize (((p0.toUInt32 >>> ((6 : Int32) &&& 31).toUInt32).toInt32) &&& (15 : Int32)) = xq at hi6 ⊢
  show own_Go p e below _ (s₁.setTop (mkF m 23 #[.val (.int p0), .val (.long p1), .second, .val (.int p2), .val (.int xm), .val (.int xl), .unset, .unset, .unset, .unset, .unset] [(.int xq)]))
  refine own_Go.st (fun _ kt => XS.istore X0.here hx rfl (hb hby at_23) rfl (l' := #[.val (.int p0), .val (.long p1), .second, .val (.int p2), .val (.int xm), .val (.int xl), .val (.int xq), .unset, .unset, .unset, .unset]) rfl kt) ?_
  show own_Go p e below _ (s₁.setTop (mkF m 25 #[.val (.int p0), .val (.long p1), .second, .val (.int p2), .val (.int xm), .val (.int xl), .val (.int xq), .unset, .unset, .unset, .unset] []))
  refine own_Go.st (fun _ kt => XS.bipush X0.here hx rfl (hb hby at_25) kt) ?_
  show own_Go p e below _ (s₁.setTop (mkF m 27 #[.val (.int p0), .val (.long p1), .second, .val (.int p2), .val (.int xm), .val (.int xl), .val (.int xq), .unset, .unset, .unset, .unset] [(.int (8 : Int32))]))
  obtain ⟨T1, h1, k1, X1, e1, E1, A1, st1⟩ := newP X0 hx hZ (hw _ (List.mem_of_getElem? (i := 0) rfl)) e0 (g := (mkF m 27 #[.val (.int p0), .val (.long p1), .second, .val (.int p2), .val (.int xm), .val (.int xl), .val (.int xq), .unset, .unset, .unset, .unset] [(.int (8 : Int32))])) rfl (hb hby at_27) rfl (by decide) (cap := 8) (by decide) (by decide) (by decide) (by decide)
  obtain ⟨ra, g1⟩ : ∃ z, z = Array.size h0 := ⟨_, rfl⟩
  rw [← g1] at A1 st1
  refine own_Go.st st1 ?_
  have n0_ra : n0 ≤ ra := Nat.le_trans Z0 (Nat.le_of_eq g1.symm)
  have b_ra : Array.size h0 ≤ ra := Nat.le_trans kk0.1 (Nat.le_of_eq g1.symm)
  have zz2 : n0 ≤ Array.size h1 := Nat.le_trans Z0 E1.1
  have kk2 : Keep h0 h1 [] := kk0.ext E1
  have hk2 : Array.size h0 ≤ Array.size h1 := Nat.le_trans (Nat.le_refl _) E1.1
  show own_Go p e below _ (T1.setTop (mkF m 29 #[.val (.int p0), .val (.long p1), .second, .val (.int p2), .val (.int xm), .val (.int xl), .val (.int xq), .unset, .unset, .unset, .unset] [(.ref ra)]))
  obtain ⟨fc, hfc, har⟩ : ∃ f : Nat → Int32, (∀ j, j < 8 → own_C8 (f j)) ∧ own_Ar Z h1 ra .char 8 (fun j => .int (f j)) := ⟨fun _ => 0, fun _ _ => (show own_C8 0 from own_c8lit), (own_Ar.new A1 (n := 8) (by decide)).congr fun _ _ => rfl⟩
  refine own_Go.st (fun _ kt => XS.astore X1.here hx rfl (hb hby at_29) rfl rfl (l' := #[.val (.int p0), .val (.long p1), .second, .val (.int p2), .val (.int xm), .val (.int xl), .val (.int xq), .val (.ref ra), .unset, .unset, .unset]) rfl kt) ?_
  show own_Go p e below _ (T1.setTop (mkF m 31 #[.val (.int p0), .val (.long p1), .second, .val (.int p2), .val (.int xm), .val (.int xl), .val (.int xq), .val (.ref ra), .unset, .unset, .unset] []))
  refine own_Go.st (fun _ kt => XS.aload X1.here hx rfl (hb hby at_31) rfl rfl kt) ?_
  show own_Go p e below _ (T1.setTop (mkF m 33 #[.val (.int p0), .val (.long p1), .second, .val (.int p2), .val (.int xm), .val (.int xl), .val (.int xq), .val (.ref ra), .unset, .unset, .unset] [(.ref ra)]))
  refine own_Go.st (fun _ kt => XS.iconst X1.here hx rfl (hb hby at_33) kt) ?_
  show own_Go p e below _ (T1.setTop (mkF m 34 #[.val (.int p0), .val (.long p1), .second, .val (.int p2), .val (.int xm), .val (.int xl), .val (.int xq), .val (.ref ra), .unset, .unset, .unset] [(.int (0 : Int32)), (.ref ra)]))
  refine own_Go.st (fun _ kt => XS.lloadN X1.here hx rfl (hb hby at_34) rfl kt) ?_
  show own_Go p e below _ (T1.setTop (mkF m 35 #[.val (.int p0), .val (.long p1), .second, .val (.int p2), .val (.int xm), .val (.int xl), .val (.int xq), .val (.ref ra), .unset, .unset, .unset] [(.long p1), (.int (0 : Int32)), (.ref ra)]))
  refine own_Go.st (fun _ kt => XS.iconst X1.here hx rfl (hb hby at_35) kt) ?_
  show own_Go p e below _ (T1.setTop (mkF m 36 #[.val (.int p0), .val (.long p1), .second, .val (.int p2), .val (.int xm), .val (.int xl), .val (.int xq), .val (.ref ra), .unset, .unset, .unset] [(.int (0 : Int32)), (.long p1), (.int (0 : Int32)), (.ref ra)]))
  obtain ⟨_, _, ⟨T3, L3, k3, n3⟩, -, X3, ⟨Lc3, hQ3, l3, y3, z3⟩, st3⟩ := Jvm.LawKit.callS X1 hx (y := (⟨"com/example/marshal/marshal/variables/VariableTypeNamedPinLaw", "d", "(JI)C"⟩ : MethodName)) hown (mvT hZ (hw _ (List.mem_of_getElem? (i := 1) rfl))) (mvT hZ (hw _ (List.mem_of_getElem? (i := 2) rfl))) (mvT hZ (hw _ (List.mem_of_getElem? (i := 3) rfl))) (mvT hZ (hw _ (List.mem_of_getElem? (i := 4) rfl))) (by decide) (backOf (W := 2) (own_dd l Z a0 hw [] p1 (0 : Int32) h1 n0 zz2 ) hZ (hw _ (List.mem_of_getElem? (i := 4) rfl)) (hw _ (List.mem_of_getElem? (i := 3) rfl)) (by decide) (by decide)) (g := (mkF m 36 #[.val (.int p0), .val (.long p1), .second, .val (.int p2), .val (.int xm), .val (.int xl), .val (.int xq), .val (.ref ra), .unset, .unset, .unset] [(.int (0 : Int32)), (.long p1), (.int (0 : Int32)), (.ref ra)])) rfl (by rw [hml]; rfl) (argsL := [(.long p1), (.int (0 : Int32))]) (rest := [(.int (0 : Int32)), (.ref ra)]) (lenOf own_pd11 rfl) rfl (by show 2 * 0 + _ ≤ _; exact Nat.le_of_eq rfl) (hb hby at_36) (fun _ _ => ⟨rfl, e1, (by decide : 1 + 0 ≤ _), (by decide : 8 + 0 ≤ _)⟩)
  dsimp only [Pt.U, Pt.locs, Pt.cells, Pt.slots] at X3 l3 y3 z3 st3 hQ3
  subst l3 y3 z3
  obtain ⟨xd0, rfl, N3q, hd3, hh3⟩ := hQ3
  have N3 := Fr.app N0 N3q
  refine own_Go.st (fun _ kt => st3 _ kt) ?_
  show own_Go p e below _ (T3.setTop (mkF m 39 #[.val (.int p0), .val (.long p1), .second, .val (.int p2), .val (.int xm), .val (.int xl), .val (.int xq), .val (.ref ra), .unset, .unset, .unset] [(.int xd0), (.int (0 : Int32)), (.ref ra)]))
  obtain ⟨T4, h4, X4, e4, W4, st4⟩ := own_cast X3 hx hZ hh3 har (i := 0) (by decide) (by decide) (own_nar_char hd3) (g := (mkF m 39 #[.val (.int p0), .val (.long p1), .second, .val (.int p2), .val (.int xm), .val (.int xl), .val (.int xq), .val (.ref ra), .unset, .unset, .unset] [(.int xd0), (.int (0 : Int32)), (.ref ra)])) rfl rfl (hb hby at_39)
  refine own_Go.st st4 ?_
  have N4 := Fr.snoc X4 N3 n0_ra
  have a4 := own_Ar.set har W4
  have zz5 : n0 ≤ Array.size h4 := Nat.le_trans zz2 (Nat.le_of_eq (Wr.size W4).symm)
  have kk5 : Keep h0 h4 [] := kk2.wr W4 (Or.inr b_ra)
  have hk5 : Array.size h0 ≤ Array.size h4 := Nat.le_trans hk2 (Nat.le_of_eq (Wr.size W4).symm)
  show own_Go p e below _ (T4.setTop (mkF m 40 #[.val (.int p0), .val (.long p1), .second, .val (.int p2), .val (.int xm), .val (.int xl), .val (.int xq), .val (.ref ra), .unset, .unset, .unset] []))
  obtain ⟨fd0, hfd0, harfd0⟩ : ∃ f : Nat → Int32, (∀ j, j < 8 → own_C8 (f j)) ∧ own_Ar Z h4 ra .char 8 (fun j => .int (f j)) := ⟨_, own_c8set hfc hd3, a4.congr fun j _ => own_setc fc _ _ j⟩
  refine own_Go.st (fun _ kt => XS.aload X4.here hx rfl (hb hby at_40) rfl rfl kt) ?_
  show own_Go p e below _ (T4.setTop (mkF m 42 #[.val (.int p0), .val (.long p1), .second, .val (.int p2), .val (.int xm), .val (.int xl), .val (.int xq), .val (.ref ra), .unset, .unset, .unset] [(.ref ra)]))
  refine own_Go.st (fun _ kt => XS.iconst X4.here hx rfl (hb hby at_42) kt) ?_
  show own_Go p e below _ (T4.setTop (mkF m 43 #[.val (.int p0), .val (.long p1), .second, .val (.int p2), .val (.int xm), .val (.int xl), .val (.int xq), .val (.ref ra), .unset, .unset, .unset] [(.int (1 : Int32)), (.ref ra)]))
  refine own_Go.st (fun _ kt => XS.lloadN X4.here hx rfl (hb hby at_43) rfl kt) ?_
  show own_Go p e below _ (T4.setTop (mkF m 44 #[.val (.int p0), .val (.long p1), .second, .val (.int p2), .val (.int xm), .val (.int xl), .val (.int xq), .val (.ref ra), .unset, .unset, .unset] [(.long p1), (.int (1 : Int32)), (.ref ra)]))
  refine own_Go.st (fun _ kt => XS.iconst X4.here hx rfl (hb hby at_44) kt) ?_
  show own_Go p e below _ (T4.setTop (mkF m 45 #[.val (.int p0), .val (.long p1), .second, .val (.int p2), .val (.int xm), .val (.int xl), .val (.int xq), .val (.ref ra), .unset, .unset, .unset] [(.int (1 : Int32)), (.long p1), (.int (1 : Int32)), (.ref ra)]))
  obtain ⟨_, _, ⟨T6, L6, k6, n6⟩, -, X6, ⟨Lc6, hQ6, l6, y6, z6⟩, st6⟩ := Jvm.LawKit.callS X4 hx (y := (⟨"com/example/marshal/marshal/variables/VariableTypeNamedPinLaw", "d", "(JI)C"⟩ : MethodName)) hown (mvT hZ (hw _ (List.mem_of_getElem? (i := 1) rfl))) (mvT hZ (hw _ (List.mem_of_getElem? (i := 2) rfl))) (mvT hZ (hw _ (List.mem_of_getElem? (i := 3) rfl))) (mvT hZ (hw _ (List.mem_of_getElem? (i := 4) rfl))) (by decide) (backOf (W := 2) (own_dd l Z a0 hw [] p1 (1 : Int32) h4 n0 zz5 ) hZ (hw _ (List.mem_of_getElem? (i := 4) rfl)) (hw _ (List.mem_of_getElem? (i := 3) rfl)) (by decide) (by decide)) (g := (mkF m 45 #[.val (.int p0), .val (.long p1), .second, .val (.int p2), .val (.int xm), .val (.int xl), .val (.int xq), .val (.ref ra), .unset, .unset, .unset] [(.int (1 : Int32)), (.long p1), (.int (1 : Int32)), (.ref ra)])) rfl (by rw [hml]; rfl) (argsL := [(.long p1), (.int (1 : Int32))]) (rest := [(.int (1 : Int32)), (.ref ra)]) (lenOf own_pd11 rfl) rfl (by show 2 * 0 + _ ≤ _; exact Nat.le_of_eq rfl) (hb hby at_45) (fun _ _ => ⟨rfl, e4, (by decide : 1 + 0 ≤ _), (by decide : 8 + 0 ≤ _)⟩)
  dsimp only [Pt.U, Pt.locs, Pt.cells, Pt.slots] at X6 l6 y6 z6 st6 hQ6
  subst l6 y6 z6
  obtain ⟨xd1, rfl, N6q, hd6, hh6⟩ := hQ6
  have N6 := Fr.app N4 N6q
  refine own_Go.st (fun _ kt => st6 _ kt) ?_
  show own_Go p e below _ (T6.setTop (mkF m 48 #[.val (.int p0), .val (.long p1), .second, .val (.int p2), .val (.int xm), .val (.int xl), .val (.int xq), .val (.ref ra), .unset, .unset, .unset] [(.int xd1), (.int (1 : Int32)), (.ref ra)]))
  obtain ⟨T7, h7, X7, e7, W7, st7⟩ := own_cast X6 hx hZ hh6 harfd0 (i := 1) (by decide) (by decide) (own_nar_char hd6) (g := (mkF m 48 #[.val (.int p0), .val (.long p1), .second, .val (.int p2), .val (.int xm), .val (.int xl), .val (.int xq), .val (.ref ra), .unset, .unset, .unset] [(.int xd1), (.int (1 : Int32)), (.ref ra)])) rfl rfl (hb hby at_48)
  refine own_Go.st st7 ?_
  have N7 := Fr.snoc X7 N6 n0_ra
  have a7 := own_Ar.set harfd0 W7
  have zz8 : n0 ≤ Array.size h7 := Nat.le_trans zz5 (Nat.le_of_eq (Wr.size W7).symm)
  have kk8 : Keep h0 h7 [] := kk5.wr W7 (Or.inr b_ra)
  have hk8 : Array.size h0 ≤ Array.size h7 := Nat.le_trans hk5 (Nat.le_of_eq (Wr.size W7).symm)
  show own_Go p e below _ (T7.setTop (mkF m 49 #[.val (.int p0), .val (.long p1), .second, .val (.int p2), .val (.int xm), .val (.int xl), .val (.int xq), .val (.ref ra), .unset, .unset, .unset] []))
  obtain ⟨fd1, hfd1, harfd1⟩ : ∃ f : Nat → Int32, (∀ j, j < 8 → own_C8 (f j)) ∧ own_Ar Z h7 ra .char 8 (fun j => .int (f j)) := ⟨_, own_c8set hfd0 hd6, a7.congr fun j _ => own_setc fd0 _ _ j⟩
  refine own_Go.st (fun _ kt => XS.aload X7.here hx rfl (hb hby at_49) rfl rfl kt) ?_
  show own_Go p e below _ (T7.setTop (mkF m 51 #[.val (.int p0), .val (.long p1), .second, .val (.int p2), .val (.int xm), .val (.int xl), .val (.int xq), .val (.ref ra), .unset, .unset, .unset] [(.ref ra)]))
  refine own_Go.st (fun _ kt => XS.iconst X7.here hx rfl (hb hby at_51) kt) ?_
  show own_Go p e below _ (T7.setTop (mkF m 52 #[.val (.int p0), .val (.long p1), .second, .val (.int p2), .val (.int xm), .val (.int xl), .val (.int xq), .val (.ref ra), .unset, .unset, .unset] [(.int (2 : Int32)), (.ref ra)]))
  refine own_Go.st (fun _ kt => XS.lloadN X7.here hx rfl (hb hby at_52) rfl kt) ?_
  show own_Go p e below _ (T7.setTop (mkF m 53 #[.val (.int p0), .val (.long p1), .second, .val (.int p2), .val (.int xm), .val (.int xl), .val (.int xq), .val (.ref ra), .unset, .unset, .unset] [(.long p1), (.int (2 : Int32)), (.ref ra)]))
  refine own_Go.st (fun _ kt => XS.iconst X7.here hx rfl (hb hby at_53) kt) ?_
  show own_Go p e below _ (T7.setTop (mkF m 54 #[.val (.int p0), .val (.long p1), .second, .val (.int p2), .val (.int xm), .val (.int xl), .val (.int xq), .val (.ref ra), .unset, .unset, .unset] [(.int (2 : Int32)), (.long p1), (.int (2 : Int32)), (.ref ra)]))
  obtain ⟨_, _, ⟨T9, L9, k9, n9⟩, -, X9, ⟨Lc9, hQ9, l9, y9, z9⟩, st9⟩ := Jvm.LawKit.callS X7 hx (y := (⟨"com/example/marshal/marshal/variables/VariableTypeNamedPinLaw", "d", "(JI)C"⟩ : MethodName)) hown (mvT hZ (hw _ (List.mem_of_getElem? (i := 1) rfl))) (mvT hZ (hw _ (List.mem_of_getElem? (i := 2) rfl))) (mvT hZ (hw _ (List.mem_of_getElem? (i := 3) rfl))) (mvT hZ (hw _ (List.mem_of_getElem? (i := 4) rfl))) (by decide) (backOf (W := 2) (own_dd l Z a0 hw [] p1 (2 : Int32) h7 n0 zz8 ) hZ (hw _ (List.mem_of_getElem? (i := 4) rfl)) (hw _ (List.mem_of_getElem? (i := 3) rfl)) (by decide) (by decide)) (g := (mkF m 54 #[.val (.int p0), .val (.long p1), .second, .val (.int p2), .val (.int xm), .val (.int xl), .val (.int xq), .val (.ref ra), .unset, .unset, .unset] [(.int (2 : Int32)), (.long p1), (.int (2 : Int32)), (.ref ra)])) rfl (by rw [hml]; rfl) (argsL := [(.long p1), (.int (2 : Int32))]) (rest := [(.int (2 : Int32)), (.ref ra)]) (lenOf own_pd11 rfl) rfl (by show 2 * 0 + _ ≤ _; exact Nat.le_of_eq rfl) (hb hby at_54) (fun _ _ => ⟨rfl, e7, (by decide : 1 + 0 ≤ _), (by decide : 8 + 0 ≤ _)⟩)
  dsimp only [Pt.U, Pt.locs, Pt.cells, Pt.slots] at X9 l9 y9 z9 st9 hQ9
  subst l9 y9 z9
  obtain ⟨xd2, rfl, N9q, hd9, hh9⟩ := hQ9
  have N9 := Fr.app N7 N9q
  refine own_Go.st (fun _ kt => st9 _ kt) ?_
  show own_Go p e below _ (T9.setTop (mkF m 57 #[.val (.int p0), .val (.long p1), .second, .val (.int p2), .val (.int xm), .val (.int xl), .val (.int xq), .val (.ref ra), .unset, .unset, .unset] [(.int xd2), (.int (2 : Int32)), (.ref ra)]))
  obtain ⟨T10, h10, X10, e10, W10, st10⟩ := own_cast X9 hx hZ hh9 harfd1 (i := 2) (by decide) (by decide) (own_nar_char hd9) (g := (mkF m 57 #[.val (.int p0), .val (.long p1), .second, .val (.int p2), .val (.int xm), .val (.int xl), .val (.int xq), .val (.ref ra), .unset, .unset, .unset] [(.int xd2), (.int (2 : Int32)), (.ref ra)])) rfl rfl (hb hby at_57)
  refine own_Go.st st10 ?_
  have N10 := Fr.snoc X10 N9 n0_ra
  have a10 := own_Ar.set harfd1 W10
  have zz11 : n0 ≤ Array.size h10 := Nat.le_trans zz8 (Nat.le_of_eq (Wr.size W10).symm)
  have kk11 : Keep h0 h10 [] := kk8.wr W10 (Or.inr b_ra)
  have hk11 : Array.size h0 ≤ Array.size h10 := Nat.le_trans hk8 (Nat.le_of_eq (Wr.size W10).symm)
  show own_Go p e below _ (T10.setTop (mkF m 58 #[.val (.int p0), .val (.long p1), .second, .val (.int p2), .val (.int xm), .val (.int xl), .val (.int xq), .val (.ref ra), .unset, .unset, .unset] []))
  obtain ⟨fd2, hfd2, harfd2⟩ : ∃ f : Nat → Int32, (∀ j, j < 8 → own_C8 (f j)) ∧ own_Ar Z h10 ra .char 8 (fun j => .int (f j)) := ⟨_, own_c8set hfd1 hd9, a10.congr fun j _ => own_setc fd1 _ _ j⟩
  refine own_Go.st (fun _ kt => XS.aload X10.here hx rfl (hb hby at_58) rfl rfl kt) ?_
  show own_Go p e below _ (T10.setTop (mkF m 60 #[.val (.int p0), .val (.long p1), .second, .val (.int p2), .val (.int xm), .val (.int xl), .val (.int xq), .val (.ref ra), .unset, .unset, .unset] [(.ref ra)]))
  refine own_Go.st (fun _ kt => XS.iconst X10.here hx rfl (hb hby at_60) kt) ?_
  show own_Go p e below _ (T10.setTop (mkF m 61 #[.val (.int p0), .val (.long p1), .second, .val (.int p2), .val (.int xm), .val (.int xl), .val (.int xq), .val (.ref ra), .unset, .unset, .unset] [(.int (3 : Int32)), (.ref ra)]))
  refine own_Go.st (fun _ kt => XS.lloadN X10.here hx rfl (hb hby at_61) rfl kt) ?_
  show own_Go p e below _ (T10.setTop (mkF m 62 #[.val (.int p0), .val (.long p1), .second, .val (.int p2), .val (.int xm), .val (.int xl), .val (.int xq), .val (.ref ra), .unset, .unset, .unset] [(.long p1), (.int (3 : Int32)), (.ref ra)]))
  refine own_Go.st (fun _ kt => XS.iconst X10.here hx rfl (hb hby at_62) kt) ?_
  show own_Go p e below _ (T10.setTop (mkF m 63 #[.val (.int p0), .val (.long p1), .second, .val (.int p2), .val (.int xm), .val (.int xl), .val (.int xq), .val (.ref ra), .unset, .unset, .unset] [(.int (3 : Int32)), (.long p1), (.int (3 : Int32)), (.ref ra)]))
  obtain ⟨_, _, ⟨T12, L12, k12, n12⟩, -, X12, ⟨Lc12, hQ12, l12, y12, z12⟩, st12⟩ := Jvm.LawKit.callS X10 hx (y := (⟨"com/example/marshal/marshal/variables/VariableTypeNamedPinLaw", "d", "(JI)C"⟩ : MethodName)) hown (mvT hZ (hw _ (List.mem_of_getElem? (i := 1) rfl))) (mvT hZ (hw _ (List.mem_of_getElem? (i := 2) rfl))) (mvT hZ (hw _ (List.mem_of_getElem? (i := 3) rfl))) (mvT hZ (hw _ (List.mem_of_getElem? (i := 4) rfl))) (by decide) (backOf (W := 2) (own_dd l Z a0 hw [] p1 (3 : Int32) h10 n0 zz11 ) hZ (hw _ (List.mem_of_getElem? (i := 4) rfl)) (hw _ (List.mem_of_getElem? (i := 3) rfl)) (by decide) (by decide)) (g := (mkF m 63 #[.val (.int p0), .val (.long p1), .second, .val (.int p2), .val (.int xm), .val (.int xl), .val (.int xq), .val (.ref ra), .unset, .unset, .unset] [(.int (3 : Int32)), (.long p1), (.int (3 : Int32)), (.ref ra)])) rfl (by rw [hml]; rfl) (argsL := [(.long p1), (.int (3 : Int32))]) (rest := [(.int (3 : Int32)), (.ref ra)]) (lenOf own_pd11 rfl) rfl (by show 2 * 0 + _ ≤ _; exact Nat.le_of_eq rfl) (hb hby at_63) (fun _ _ => ⟨rfl, e10, (by decide : 1 + 0 ≤ _), (by decide : 8 + 0 ≤ _)⟩)
  dsimp only [Pt.U, Pt.locs, Pt.cells, Pt.slots] at X12 l12 y12 z12 st12 hQ12
  subst l12 y12 z12
  obtain ⟨xd3, rfl, N12q, hd12, hh12⟩ := hQ12
  have N12 := Fr.app N10 N12q
  refine own_Go.st (fun _ kt => st12 _ kt) ?_
  show own_Go p e below _ (T12.setTop (mkF m 66 #[.val (.int p0), .val (.long p1), .second, .val (.int p2), .val (.int xm), .val (.int xl), .val (.int xq), .val (.ref ra), .unset, .unset, .unset] [(.int xd3), (.int (3 : Int32)), (.ref ra)]))
  obtain ⟨T13, h13, X13, e13, W13, st13⟩ := own_cast X12 hx hZ hh12 harfd2 (i := 3) (by decide) (by decide) (own_nar_char hd12) (g := (mkF m 66 #[.val (.int p0), .val (.long p1), .second, .val (.int p2), .val (.int xm), .val (.int xl), .val (.int xq), .val (.ref ra), .unset, .unset, .unset] [(.int xd3), (.int (3 : Int32)), (.ref ra)])) rfl rfl (hb hby at_66)
  refine own_Go.st st13 ?_
  have N13 := Fr.snoc X13 N12 n0_ra
  have a13 := own_Ar.set harfd2 W13
  have zz14 : n0 ≤ Array.size h13 := Nat.le_trans zz11 (Nat.le_of_eq (Wr.size W13).symm)
  have kk14 : Keep h0 h13 [] := kk11.wr W13 (Or.inr b_ra)
  have hk14 : Array.size h0 ≤ Array.size h13 := Nat.le_trans hk11 (Nat.le_of_eq (Wr.size W13).symm)
  show own_Go p e below _ (T13.setTop (mkF m 67 #[.val (.int p0), .val (.long p1), .second, .val (.int p2), .val (.int xm), .val (.int xl), .val (.int xq), .val (.ref ra), .unset, .unset, .unset] []))
  obtain ⟨fd3, hfd3, harfd3⟩ : ∃ f : Nat → Int32, (∀ j, j < 8 → own_C8 (f j)) ∧ own_Ar Z h13 ra .char 8 (fun j => .int (f j)) := ⟨_, own_c8set hfd2 hd12, a13.congr fun j _ => own_setc fd2 _ _ j⟩
  refine own_Go.st (fun _ kt => XS.aload X13.here hx rfl (hb hby at_67) rfl rfl kt) ?_
  show own_Go p e below _ (T13.setTop (mkF m 69 #[.val (.int p0), .val (.long p1), .second, .val (.int p2), .val (.int xm), .val (.int xl), .val (.int xq), .val (.ref ra), .unset, .unset, .unset] [(.ref ra)]))
  refine own_Go.st (fun _ kt => XS.iconst X13.here hx rfl (hb hby at_69) kt) ?_
  show own_Go p e below _ (T13.setTop (mkF m 70 #[.val (.int p0), .val (.long p1), .second, .val (.int p2), .val (.int xm), .val (.int xl), .val (.int xq), .val (.ref ra), .unset, .unset, .unset] [(.int (4 : Int32)), (.ref ra)]))
  refine own_Go.st (fun _ kt => XS.lloadN X13.here hx rfl (hb hby at_70) rfl kt) ?_
  show own_Go p e below _ (T13.setTop (mkF m 71 #[.val (.int p0), .val (.long p1), .second, .val (.int p2), .val (.int xm), .val (.int xl), .val (.int xq), .val (.ref ra), .unset, .unset, .unset] [(.long p1), (.int (4 : Int32)), (.ref ra)]))
  refine own_Go.st (fun _ kt => XS.iconst X13.here hx rfl (hb hby at_71) kt) ?_
  show own_Go p e below _ (T13.setTop (mkF m 72 #[.val (.int p0), .val (.long p1), .second, .val (.int p2), .val (.int xm), .val (.int xl), .val (.int xq), .val (.ref ra), .unset, .unset, .unset] [(.int (4 : Int32)), (.long p1), (.int (4 : Int32)), (.ref ra)]))
  obtain ⟨_, _, ⟨T15, L15, k15, n15⟩, -, X15, ⟨Lc15, hQ15, l15, y15, z15⟩, st15⟩ := Jvm.LawKit.callS X13 hx (y := (⟨"com/example/marshal/marshal/variables/VariableTypeNamedPinLaw", "d", "(JI)C"⟩ : MethodName)) hown (mvT hZ (hw _ (List.mem_of_getElem? (i := 1) rfl))) (mvT hZ (hw _ (List.mem_of_getElem? (i := 2) rfl))) (mvT hZ (hw _ (List.mem_of_getElem? (i := 3) rfl))) (mvT hZ (hw _ (List.mem_of_getElem? (i := 4) rfl))) (by decide) (backOf (W := 2) (own_dd l Z a0 hw [] p1 (4 : Int32) h13 n0 zz14 ) hZ (hw _ (List.mem_of_getElem? (i := 4) rfl)) (hw _ (List.mem_of_getElem? (i := 3) rfl)) (by decide) (by decide)) (g := (mkF m 72 #[.val (.int p0), .val (.long p1), .second, .val (.int p2), .val (.int xm), .val (.int xl), .val (.int xq), .val (.ref ra), .unset, .unset, .unset] [(.int (4 : Int32)), (.long p1), (.int (4 : Int32)), (.ref ra)])) rfl (by rw [hml]; rfl) (argsL := [(.long p1), (.int (4 : Int32))]) (rest := [(.int (4 : Int32)), (.ref ra)]) (lenOf own_pd11 rfl) rfl (by show 2 * 0 + _ ≤ _; exact Nat.le_of_eq rfl) (hb hby at_72) (fun _ _ => ⟨rfl, e13, (by decide : 1 + 0 ≤ _), (by decide : 8 + 0 ≤ _)⟩)
  dsimp only [Pt.U, Pt.locs, Pt.cells, Pt.slots] at X15 l15 y15 z15 st15 hQ15
  subst l15 y15 z15
  obtain ⟨xd4, rfl, N15q, hd15, hh15⟩ := hQ15
  have N15 := Fr.app N13 N15q
  refine own_Go.st (fun _ kt => st15 _ kt) ?_
  show own_Go p e below _ (T15.setTop (mkF m 75 #[.val (.int p0), .val (.long p1), .second, .val (.int p2), .val (.int xm), .val (.int xl), .val (.int xq), .val (.ref ra), .unset, .unset, .unset] [(.int xd4), (.int (4 : Int32)), (.ref ra)]))
  obtain ⟨T16, h16, X16, e16, W16, st16⟩ := own_cast X15 hx hZ hh15 harfd3 (i := 4) (by decide) (by decide) (own_nar_char hd15) (g := (mkF m 75 #[.val (.int p0), .val (.long p1), .second, .val (.int p2), .val (.int xm), .val (.int xl), .val (.int xq), .val (.ref ra), .unset, .unset, .unset] [(.int xd4), (.int (4 : Int32)), (.ref ra)])) rfl rfl (hb hby at_75)
  refine own_Go.st st16 ?_
  have N16 := Fr.snoc X16 N15 n0_ra
  have a16 := own_Ar.set harfd3 W16
  have zz17 : n0 ≤ Array.size h16 := Nat.le_trans zz14 (Nat.le_of_eq (Wr.size W16).symm)
  have kk17 : Keep h0 h16 [] := kk14.wr W16 (Or.inr b_ra)
  have hk17 : Array.size h0 ≤ Array.size h16 := Nat.le_trans hk14 (Nat.le_of_eq (Wr.size W16).symm)
  show own_Go p e below _ (T16.setTop (mkF m 76 #[.val (.int p0), .val (.long p1), .second, .val (.int p2), .val (.int xm), .val (.int xl), .val (.int xq), .val (.ref ra), .unset, .unset, .unset] []))
  obtain ⟨fd4, hfd4, harfd4⟩ : ∃ f : Nat → Int32, (∀ j, j < 8 → own_C8 (f j)) ∧ own_Ar Z h16 ra .char 8 (fun j => .int (f j)) := ⟨_, own_c8set hfd3 hd15, a16.congr fun j _ => own_setc fd3 _ _ j⟩
  refine own_Go.st (fun _ kt => XS.aload X16.here hx rfl (hb hby at_76) rfl rfl kt) ?_
  show own_Go p e below _ (T16.setTop (mkF m 78 #[.val (.int p0), .val (.long p1), .second, .val (.int p2), .val (.int xm), .val (.int xl), .val (.int xq), .val (.ref ra), .unset, .unset, .unset] [(.ref ra)]))
  refine own_Go.st (fun _ kt => XS.iconst X16.here hx rfl (hb hby at_78) kt) ?_
  show own_Go p e below _ (T16.setTop (mkF m 79 #[.val (.int p0), .val (.long p1), .second, .val (.int p2), .val (.int xm), .val (.int xl), .val (.int xq), .val (.ref ra), .unset, .unset, .unset] [(.int (5 : Int32)), (.ref ra)]))
  refine own_Go.st (fun _ kt => XS.lloadN X16.here hx rfl (hb hby at_79) rfl kt) ?_
  show own_Go p e below _ (T16.setTop (mkF m 80 #[.val (.int p0), .val (.long p1), .second, .val (.int p2), .val (.int xm), .val (.int xl), .val (.int xq), .val (.ref ra), .unset, .unset, .unset] [(.long p1), (.int (5 : Int32)), (.ref ra)]))
  refine own_Go.st (fun _ kt => XS.iconst X16.here hx rfl (hb hby at_80) kt) ?_
  show own_Go p e below _ (T16.setTop (mkF m 81 #[.val (.int p0), .val (.long p1), .second, .val (.int p2), .val (.int xm), .val (.int xl), .val (.int xq), .val (.ref ra), .unset, .unset, .unset] [(.int (5 : Int32)), (.long p1), (.int (5 : Int32)), (.ref ra)]))
  obtain ⟨_, _, ⟨T18, L18, k18, n18⟩, -, X18, ⟨Lc18, hQ18, l18, y18, z18⟩, st18⟩ := Jvm.LawKit.callS X16 hx (y := (⟨"com/example/marshal/marshal/variables/VariableTypeNamedPinLaw", "d", "(JI)C"⟩ : MethodName)) hown (mvT hZ (hw _ (List.mem_of_getElem? (i := 1) rfl))) (mvT hZ (hw _ (List.mem_of_getElem? (i := 2) rfl))) (mvT hZ (hw _ (List.mem_of_getElem? (i := 3) rfl))) (mvT hZ (hw _ (List.mem_of_getElem? (i := 4) rfl))) (by decide) (backOf (W := 2) (own_dd l Z a0 hw [] p1 (5 : Int32) h16 n0 zz17 ) hZ (hw _ (List.mem_of_getElem? (i := 4) rfl)) (hw _ (List.mem_of_getElem? (i := 3) rfl)) (by decide) (by decide)) (g := (mkF m 81 #[.val (.int p0), .val (.long p1), .second, .val (.int p2), .val (.int xm), .val (.int xl), .val (.int xq), .val (.ref ra), .unset, .unset, .unset] [(.int (5 : Int32)), (.long p1), (.int (5 : Int32)), (.ref ra)])) rfl (by rw [hml]; rfl) (argsL := [(.long p1), (.int (5 : Int32))]) (rest := [(.int (5 : Int32)), (.ref ra)]) (lenOf own_pd11 rfl) rfl (by show 2 * 0 + _ ≤ _; exact Nat.le_of_eq rfl) (hb hby at_81) (fun _ _ => ⟨rfl, e16, (by decide : 1 + 0 ≤ _), (by decide : 8 + 0 ≤ _)⟩)
  dsimp only [Pt.U, Pt.locs, Pt.cells, Pt.slots] at X18 l18 y18 z18 st18 hQ18
  subst l18 y18 z18
  obtain ⟨xd5, rfl, N18q, hd18, hh18⟩ := hQ18
  have N18 := Fr.app N16 N18q
  refine own_Go.st (fun _ kt => st18 _ kt) ?_
  show own_Go p e below _ (T18.setTop (mkF m 84 #[.val (.int p0), .val (.long p1), .second, .val (.int p2), .val (.int xm), .val (.int xl), .val (.int xq), .val (.ref ra), .unset, .unset, .unset] [(.int xd5), (.int (5 : Int32)), (.ref ra)]))
  obtain ⟨T19, h19, X19, e19, W19, st19⟩ := own_cast X18 hx hZ hh18 harfd4 (i := 5) (by decide) (by decide) (own_nar_char hd18) (g := (mkF m 84 #[.val (.int p0), .val (.long p1), .second, .val (.int p2), .val (.int xm), .val (.int xl), .val (.int xq), .val (.ref ra), .unset, .unset, .unset] [(.int xd5), (.int (5 : Int32)), (.ref ra)])) rfl rfl (hb hby at_84)
  refine own_Go.st st19 ?_
  have N19 := Fr.snoc X19 N18 n0_ra
  have a19 := own_Ar.set harfd4 W19
  have zz20 : n0 ≤ Array.size h19 := Nat.le_trans zz17 (Nat.le_of_eq (Wr.size W19).symm)
  have kk20 : Keep h0 h19 [] := kk17.wr W19 (Or.inr b_ra)
  have hk20 : Array.size h0 ≤ Array.size h19 := Nat.le_trans hk17 (Nat.le_of_eq (Wr.size W19).symm)
  show own_Go p e below _ (T19.setTop (mkF m 85 #[.val (.int p0), .val (.long p1), .second, .val (.int p2), .val (.int xm), .val (.int xl), .val (.int xq), .val (.ref ra), .unset, .unset, .unset] []))
  obtain ⟨fd5, hfd5, harfd5⟩ : ∃ f : Nat → Int32, (∀ j, j < 8 → own_C8 (f j)) ∧ own_Ar Z h19 ra .char 8 (fun j => .int (f j)) := ⟨_, own_c8set hfd4 hd18, a19.congr fun j _ => own_setc fd4 _ _ j⟩
  refine own_Go.st (fun _ kt => XS.aload X19.here hx rfl (hb hby at_85) rfl rfl kt) ?_
  show own_Go p e below _ (T19.setTop (mkF m 87 #[.val (.int p0), .val (.long p1), .second, .val (.int p2), .val (.int xm), .val (.int xl), .val (.int xq), .val (.ref ra), .unset, .unset, .unset] [(.ref ra)]))
  refine own_Go.st (fun _ kt => XS.bipush X19.here hx rfl (hb hby at_87) kt) ?_
  show own_Go p e below _ (T19.setTop (mkF m 89 #[.val (.int p0), .val (.long p1), .second, .val (.int p2), .val (.int xm), .val (.int xl), .val (.int xq), .val (.ref ra), .unset, .unset, .unset] [(.int (6 : Int32)), (.ref ra)]))
  refine own_Go.st (fun _ kt => XS.lloadN X19.here hx rfl (hb hby at_89) rfl kt) ?_
  show own_Go p e below _ (T19.setTop (mkF m 90 #[.val (.int p0), .val (.long p1), .second, .val (.int p2), .val (.int xm), .val (.int xl), .val (.int xq), .val (.ref ra), .unset, .unset, .unset] [(.long p1), (.int (6 : Int32)), (.ref ra)]))
  refine own_Go.st (fun _ kt => XS.bipush X19.here hx rfl (hb hby at_90) kt) ?_
  show own_Go p e below _ (T19.setTop (mkF m 92 #[.val (.int p0), .val (.long p1), .second, .val (.int p2), .val (.int xm), .val (.int xl), .val (.int xq), .val (.ref ra), .unset, .unset, .unset] [(.int (6 : Int32)), (.long p1), (.int (6 : Int32)), (.ref ra)]))
  obtain ⟨_, _, ⟨T21, L21, k21, n21⟩, -, X21, ⟨Lc21, hQ21, l21, y21, z21⟩, st21⟩ := Jvm.LawKit.callS X19 hx (y := (⟨"com/example/marshal/marshal/variables/VariableTypeNamedPinLaw", "d", "(JI)C"⟩ : MethodName)) hown (mvT hZ (hw _ (List.mem_of_getElem? (i := 1) rfl))) (mvT hZ (hw _ (List.mem_of_getElem? (i := 2) rfl))) (mvT hZ (hw _ (List.mem_of_getElem? (i := 3) rfl))) (mvT hZ (hw _ (List.mem_of_getElem? (i := 4) rfl))) (by decide) (backOf (W := 2) (own_dd l Z a0 hw [] p1 (6 : Int32) h19 n0 zz20 ) hZ (hw _ (List.mem_of_getElem? (i := 4) rfl)) (hw _ (List.mem_of_getElem? (i := 3) rfl)) (by decide) (by decide)) (g := (mkF m 92 #[.val (.int p0), .val (.long p1), .second, .val (.int p2), .val (.int xm), .val (.int xl), .val (.int xq), .val (.ref ra), .unset, .unset, .unset] [(.int (6 : Int32)), (.long p1), (.int (6 : Int32)), (.ref ra)])) rfl (by rw [hml]; rfl) (argsL := [(.long p1), (.int (6 : Int32))]) (rest := [(.int (6 : Int32)), (.ref ra)]) (lenOf own_pd11 rfl) rfl (by show 2 * 0 + _ ≤ _; exact Nat.le_of_eq rfl) (hb hby at_92) (fun _ _ => ⟨rfl, e19, (by decide : 1 + 0 ≤ _), (by decide : 8 + 0 ≤ _)⟩)
  dsimp only [Pt.U, Pt.locs, Pt.cells, Pt.slots] at X21 l21 y21 z21 st21 hQ21
  subst l21 y21 z21
  obtain ⟨xd6, rfl, N21q, hd21, hh21⟩ := hQ21
  have N21 := Fr.app N19 N21q
  refine own_Go.st (fun _ kt => st21 _ kt) ?_
  show own_Go p e below _ (T21.setTop (mkF m 95 #[.val (.int p0), .val (.long p1), .second, .val (.int p2), .val (.int xm), .val (.int xl), .val (.int xq), .val (.ref ra), .unset, .unset, .unset] [(.int xd6), (.int (6 : Int32)), (.ref ra)]))
  obtain ⟨T22, h22, X22, e22, W22, st22⟩ := own_cast X21 hx hZ hh21 harfd5 (i := 6) (by decide) (by decide) (own_nar_char hd21) (g := (mkF m 95 #[.val (.int p0), .val (.long p1), .second, .val (.int p2), .val (.int xm), .val (.int xl), .val (.int xq), .val (.ref ra), .unset, .unset, .unset] [(.int xd6), (.int (6 : Int32)), (.ref ra)])) rfl rfl (hb hby at_95)
  refine own_Go.st st22 ?_
  have N22 := Fr.snoc X22 N21 n0_ra
  have a22 := own_Ar.set harfd5 W22
  have zz23 : n0 ≤ Array.size h22 := Nat.le_trans zz20 (Nat.le_of_eq (Wr.size W22).symm)
  have kk23 : Keep h0 h22 [] := kk20.wr W22 (Or.inr b_ra)
  have hk23 : Array.size h0 ≤ Array.size h22 := Nat.le_trans hk20 (Nat.le_of_eq (Wr.size W22).symm)
  show own_Go p e below _ (T22.setTop (mkF m 96 #[.val (.int p0), .val (.long p1), .second, .val (.int p2), .val (.int xm), .val (.int xl), .val (.int xq), .val (.ref ra), .unset, .unset, .unset] []))
  obtain ⟨fd6, hfd6, harfd6⟩ : ∃ f : Nat → Int32, (∀ j, j < 8 → own_C8 (f j)) ∧ own_Ar Z h22 ra .char 8 (fun j => .int (f j)) := ⟨_, own_c8set hfd5 hd21, a22.congr fun j _ => own_setc fd5 _ _ j⟩
  refine own_Go.st (fun _ kt => XS.aload X22.here hx rfl (hb hby at_96) rfl rfl kt) ?_
  show own_Go p e below _ (T22.setTop (mkF m 98 #[.val (.int p0), .val (.long p1), .second, .val (.int p2), .val (.int xm), .val (.int xl), .val (.int xq), .val (.ref ra), .unset, .unset, .unset] [(.ref ra)]))
  refine own_Go.st (fun _ kt => XS.bipush X22.here hx rfl (hb hby at_98) kt) ?_
  show own_Go p e below _ (T22.setTop (mkF m 100 #[.val (.int p0), .val (.long p1), .second, .val (.int p2), .val (.int xm), .val (.int xl), .val (.int xq), .val (.ref ra), .unset, .unset, .unset] [(.int (7 : Int32)), (.ref ra)]))
  refine own_Go.st (fun _ kt => XS.lloadN X22.here hx rfl (hb hby at_100) rfl kt) ?_
  show own_Go p e below _ (T22.setTop (mkF m 101 #[.val (.int p0), .val (.long p1), .second, .val (.int p2), .val (.int xm), .val (.int xl), .val (.int xq), .val (.ref ra), .unset, .unset, .unset] [(.long p1), (.int (7 : Int32)), (.ref ra)]))
  refine own_Go.st (fun _ kt => XS.bipush X22.here hx rfl (hb hby at_101) kt) ?_
  show own_Go p e below _ (T22.setTop (mkF m 103 #[.val (.int p0), .val (.long p1), .second, .val (.int p2), .val (.int xm), .val (.int xl), .val (.int xq), .val (.ref ra), .unset, .unset, .unset] [(.int (7 : Int32)), (.long p1), (.int (7 : Int32)), (.ref ra)]))
  obtain ⟨_, _, ⟨T24, L24, k24, n24⟩, -, X24, ⟨Lc24, hQ24, l24, y24, z24⟩, st24⟩ := Jvm.LawKit.callS X22 hx (y := (⟨"com/example/marshal/marshal/variables/VariableTypeNamedPinLaw", "d", "(JI)C"⟩ : MethodName)) hown (mvT hZ (hw _ (List.mem_of_getElem? (i := 1) rfl))) (mvT hZ (hw _ (List.mem_of_getElem? (i := 2) rfl))) (mvT hZ (hw _ (List.mem_of_getElem? (i := 3) rfl))) (mvT hZ (hw _ (List.mem_of_getElem? (i := 4) rfl))) (by decide) (backOf (W := 2) (own_dd l Z a0 hw [] p1 (7 : Int32) h22 n0 zz23 ) hZ (hw _ (List.mem_of_getElem? (i := 4) rfl)) (hw _ (List.mem_of_getElem? (i := 3) rfl)) (by decide) (by decide)) (g := (mkF m 103 #[.val (.int p0), .val (.long p1), .second, .val (.int p2), .val (.int xm), .val (.int xl), .val (.int xq), .val (.ref ra), .unset, .unset, .unset] [(.int (7 : Int32)), (.long p1), (.int (7 : Int32)), (.ref ra)])) rfl (by rw [hml]; rfl) (argsL := [(.long p1), (.int (7 : Int32))]) (rest := [(.int (7 : Int32)), (.ref ra)]) (lenOf own_pd11 rfl) rfl (by show 2 * 0 + _ ≤ _; exact Nat.le_of_eq rfl) (hb hby at_103) (fun _ _ => ⟨rfl, e22, (by decide : 1 + 0 ≤ _), (by decide : 8 + 0 ≤ _)⟩)
  dsimp only [Pt.U, Pt.locs, Pt.cells, Pt.slots] at X24 l24 y24 z24 st24 hQ24
  subst l24 y24 z24
  obtain ⟨xd7, rfl, N24q, hd24, hh24⟩ := hQ24
  have N24 := Fr.app N22 N24q
  refine own_Go.st (fun _ kt => st24 _ kt) ?_
  show own_Go p e below _ (T24.setTop (mkF m 106 #[.val (.int p0), .val (.long p1), .second, .val (.int p2), .val (.int xm), .val (.int xl), .val (.int xq), .val (.ref ra), .unset, .unset, .unset] [(.int xd7), (.int (7 : Int32)), (.ref ra)]))
  obtain ⟨T25, h25, X25, e25, W25, st25⟩ := own_cast X24 hx hZ hh24 harfd6 (i := 7) (by decide) (by decide) (own_nar_char hd24) (g := (mkF m 106 #[.val (.int p0), .val (.long p1), .second, .val (.int p2), .val (.int xm), .val (.int xl), .val (.int xq), .val (.ref ra), .unset, .unset, .unset] [(.int xd7), (.int (7 : Int32)), (.ref ra)])) rfl rfl (hb hby at_106)
  refine own_Go.st st25 ?_
  have N25 := Fr.snoc X25 N24 n0_ra
  have a25 := own_Ar.set harfd6 W25
  have zz26 : n0 ≤ Array.size h25 := Nat.le_trans zz23 (Nat.le_of_eq (Wr.size W25).symm)
  have kk26 : Keep h0 h25 [] := kk23.wr W25 (Or.inr b_ra)
  have hk26 : Array.size h0 ≤ Array.size h25 := Nat.le_trans hk23 (Nat.le_of_eq (Wr.size W25).symm)
  show own_Go p e below _ (T25.setTop (mkF m 107 #[.val (.int p0), .val (.long p1), .second, .val (.int p2), .val (.int xm), .val (.int xl), .val (.int xq), .val (.ref ra), .unset, .unset, .unset] []))
  obtain ⟨fd7, hfd7, harfd7⟩ : ∃ f : Nat → Int32, (∀ j, j < 8 → own_C8 (f j)) ∧ own_Ar Z h25 ra .char 8 (fun j => .int (f j)) := ⟨_, own_c8set hfd6 hd24, a25.congr fun j _ => own_setc fd6 _ _ j⟩
  refine own_Go.st (fun _ kt => XS.iload X25.here hx rfl (hb hby at_107) rfl kt) ?_
  show own_Go p e below _ (T25.setTop (mkF m 109 #[.val (.int p0), .val (.long p1), .second, .val (.int p2), .val (.int xm), .val (.int xl), .val (.int xq), .val (.ref ra), .unset, .unset, .unset] [(.int xm)]))
  have J206 : ∀ (td : Nat) (T27 : State) (lc27 : List Loc) (h27 : Heap) (X27 : Stand p l e room_1 (s.setVm s.vm) m #[(.int p0), (.long p1), (.int p2)] below meth c T27 lc27 1 8) (e27 : T27.heap = h27) (N27 : Fr n0 lc27) (ff : Nat → Int32) (hff : ∀ j, j < 8 → own_C8 (ff j)) (ar : own_Ar Z h27 ra .char 8 (fun j => .int (ff j))) (zz : n0 ≤ Array.size h27) (kk : Keep h0 h27 []), own_Go p e below (fun o U' => ∃ v L, o = .returned v ∧ own_Q_own_law Z p0 p1 p2 rv fv aE aF nE nF bE bF ro0 zc h0 n0 v U'.heap L ∧ ReturnedEndW s o U' L room_1.cells room_1.slots) (T27.setTop (mkF m 206 #[.val (.int p0), .val (.long p1), .second, .val (.int p2), .val (.int xm), .val (.int xl), .val (.int xq), .val (.ref ra), .unset, .unset, .unset] [])) := by
    intro td
    induction td using Nat.strongRecOn with
    | ind td IH =>
      intro T27 lc27 h27 X27 e27 N27 ff hff ar zz kk
      show own_Go p e below _ (T27.setTop (mkF m 206 #[.val (.int p0), .val (.long p1), .second, .val (.int p2), .val (.int xm), .val (.int xl), .val (.int xq), .val (.ref ra), .unset, .unset, .unset] []))
      have z_A_rv := aV.keep kk nin0
      have z_E_rv := eV.keep kk
      have z_F_aE_apiName := fAE.keep kk nin0
      have z_F_aF_apiName := fAF.keep kk nin0
      have z_E_ro0 := eO.keep kk
      have z_F_ro0_value := fO.keep kk nin0
      have z_E_nE := fSE.1.keep kk
      have z_F_nE_coder := fSE.2.1.keep kk nin0
      have z_F_nE_value := fSE.2.2.1.keep kk nin0
      have z_A_bE := fSE.2.2.2.keep kk nin0
      have z_E_nF := fSF.1.keep kk
      have z_F_nF_coder := fSF.2.1.keep kk nin0
      have z_F_nF_value := fSF.2.2.1.keep kk nin0
      have z_A_bF := fSF.2.2.2.keep kk nin0
      have z_S_cs := own_stakeep cs kk (fun x hx _ _ => absurd hx List.not_mem_nil)
      have z_S_VALUES := own_stakeep sV kk (fun x hx _ _ => absurd hx List.not_mem_nil)
      have z_S_EMPTY := own_stakeep sE kk (fun x hx _ _ => absurd hx List.not_mem_nil)
      have z_S_ENV_VAR := own_stakeep sEV kk (fun x hx _ _ => absurd hx List.not_mem_nil)
      have z_S_FILE := own_stakeep sFI kk (fun x hx _ _ => absurd hx List.not_mem_nil)
      obtain ⟨T28, h28, X28, e28, E28, A28, D28, U28, st28⟩ := newO X27 hx hZ hown (hw _ (List.mem_of_getElem? (i := 6) rfl)) (hw _ (List.mem_of_getElem? (i := 7) rfl)) (hw _ (List.mem_of_getElem? (i := 8) rfl)) e27 (g := (mkF m 206 #[.val (.int p0), .val (.long p1), .second, .val (.int p2), .val (.int xm), .val (.int xl), .val (.int xq), .val (.ref ra), .unset, .unset, .unset] [])) rfl (hb hby at_206) (by decide) (by decide)
      obtain ⟨sx, g28⟩ : ∃ z, z = Array.size h27 := ⟨_, rfl⟩
      rw [← g28] at A28 D28 U28 st28
      refine own_Go.st st28 ?_
      have ne_ra_sx : ra ≠ sx := Nat.ne_of_lt (Nat.lt_of_lt_of_le (ar).lt (Nat.le_of_eq g28.symm))
      have ne_rv_sx : rv ≠ sx := Nat.ne_of_lt (Nat.lt_of_lt_of_le (z_A_rv).lt (Nat.le_of_eq g28.symm))
      have ne_aE_sx : aE ≠ sx := Nat.ne_of_lt (Nat.lt_of_lt_of_le (z_F_aE_apiName).lt (Nat.le_of_eq g28.symm))
      have ne_aF_sx : aF ≠ sx := Nat.ne_of_lt (Nat.lt_of_lt_of_le (z_F_aF_apiName).lt (Nat.le_of_eq g28.symm))
      have ne_ro0_sx : ro0 ≠ sx := Nat.ne_of_lt (Nat.lt_of_lt_of_le (z_E_ro0).lt (Nat.le_of_eq g28.symm))
      have ne_nE_sx : nE ≠ sx := Nat.ne_of_lt (Nat.lt_of_lt_of_le (z_E_nE).lt (Nat.le_of_eq g28.symm))
      have ne_bE_sx : bE ≠ sx := Nat.ne_of_lt (Nat.lt_of_lt_of_le (z_A_bE).lt (Nat.le_of_eq g28.symm))
      have ne_nF_sx : nF ≠ sx := Nat.ne_of_lt (Nat.lt_of_lt_of_le (z_E_nF).lt (Nat.le_of_eq g28.symm))
      have ne_bF_sx : bF ≠ sx := Nat.ne_of_lt (Nat.lt_of_lt_of_le (z_A_bF).lt (Nat.le_of_eq g28.symm))
      have n0_sx : n0 ≤ sx := Nat.le_trans zz (Nat.le_of_eq g28.symm)
      have b_sx : Array.size h0 ≤ sx := Nat.le_trans kk.1 (Nat.le_of_eq g28.symm)
      have zz29 : n0 ≤ Array.size h28 := Nat.le_trans zz E28.1
      have kk29 : Keep h0 h28 [] := kk.ext E28
      have hk29 : Array.size h0 ≤ Array.size h28 := Nat.le_trans kk.1 E28.1
      have D28_value : Fld Z h28 sx "java/lang/String" "value" "[B" .null := D28 (Or.inr (hw _ (List.mem_of_getElem? (i := 24) rfl))) (ty := (.array .byte)) (by decide)
      have D28_coder : Fld Z h28 sx "java/lang/String" "coder" "B" (.int 0) := D28 (Or.inr (hw _ (List.mem_of_getElem? (i := 25) rfl))) (ty := .byte) (by decide)
      show own_Go p e below _ (T28.setTop (mkF m 209 #[.val (.int p0), .val (.long p1), .second, .val (.int p2), .val (.int xm), .val (.int xl), .val (.int xq), .val (.ref ra), .unset, .unset, .unset] [(.ref sx)]))
      refine own_Go.st (fun _ kt => XS.dup X28.here hx rfl (hb hby at_209) rfl rfl kt) ?_
      show own_Go p e below _ (T28.setTop (mkF m 210 #[.val (.int p0), .val (.long p1), .second, .val (.int p2), .val (.int xm), .val (.int xl), .val (.int xq), .val (.ref ra), .unset, .unset, .unset] [(.ref sx), (.ref sx)]))
      refine own_Go.st (fun _ kt => XS.aload X28.here hx rfl (hb hby at_210) rfl rfl kt) ?_
      show own_Go p e below _ (T28.setTop (mkF m 212 #[.val (.int p0), .val (.long p1), .second, .val (.int p2), .val (.int xm), .val (.int xl), .val (.int xq), .val (.ref ra), .unset, .unset, .unset] [(.ref ra), (.ref sx), (.ref sx)]))
      refine own_Go.st (fun _ kt => XS.iload X28.here hx rfl (hb hby at_212) rfl kt) ?_
      show own_Go p e below _ (T28.setTop (mkF m 214 #[.val (.int p0), .val (.long p1), .second, .val (.int p2), .val (.int xm), .val (.int xl), .val (.int xq), .val (.ref ra), .unset, .unset, .unset] [(.int xl), (.ref ra), (.ref sx), (.ref sx)]))
      have f30 := (ar.ext E28)
      obtain ⟨_, _, ⟨T31, L31, k31, n31⟩, -, X31, ⟨Lc31, hQ31, l31, y31, z31⟩, st31⟩ := Jvm.LawKit.callS X28 hx (y := (⟨"com/example/marshal/marshal/variables/VariableTypeNamedPinLaw", "take", "([CI)[C"⟩ : MethodName)) hown (mvT hZ (hw _ (List.mem_of_getElem? (i := 9) rfl))) (mvT hZ (hw _ (List.mem_of_getElem? (i := 10) rfl))) (mvT hZ (hw _ (List.mem_of_getElem? (i := 3) rfl))) (mvT hZ (hw _ (List.mem_of_getElem? (i := 11) rfl))) (by decide) (backOf (W := 2) (own_take l Z a0 hw [] ra xl n ff h28 n0 zz29 f30 hn hl hff) hZ (hw _ (List.mem_of_getElem? (i := 11) rfl)) (hw _ (List.mem_of_getElem? (i := 3) rfl)) (by decide) (by decide)) (g := (mkF m 214 #[.val (.int p0), .val (.long p1), .second, .val (.int p2), .val (.int xm), .val (.int xl), .val (.int xq), .val (.ref ra), .unset, .unset, .unset] [(.int xl), (.ref ra), (.ref sx), (.ref sx)])) rfl (by rw [hml]; rfl) (argsL := [(.ref ra), (.int xl)]) (rest := [(.ref sx), (.ref sx)]) (lenOf own_pd12 rfl) rfl (by show 2 * 0 + _ ≤ _; exact Nat.le_of_eq rfl) (hb hby at_214) (fun _ _ => ⟨rfl, e28, (by decide : 2 + 1 ≤ _), (by decide : 12 + 8 ≤ _)⟩)
      dsimp only [Pt.U, Pt.locs, Pt.cells, Pt.slots] at X31 l31 y31 z31 st31 hQ31
      subst l31 y31 z31
      obtain ⟨rt, rfl, N31q, at31, gt31, bt31, KF31⟩ := hQ31
      have N31 := Fr.app N27 N31q
      refine own_Go.st (fun _ kt => st31 _ kt) ?_
      have zz32 : n0 ≤ Array.size T31.heap := Nat.le_trans zz29 KF31.1
      have kk32 : Keep h0 T31.heap [] := kk29.trans KF31 all0
      have hk32 : Array.size h0 ≤ Array.size T31.heap := Nat.le_trans hk29 KF31.1
      show own_Go p e below _ (T31.setTop (mkF m 217 #[.val (.int p0), .val (.long p1), .second, .val (.int p2), .val (.int xm), .val (.int xl), .val (.int xq), .val (.ref ra), .unset, .unset, .unset] [(.ref rt), (.ref sx), (.ref sx)]))
      by_cases hz : n = 0
      · subst hz
        have f33 := (A28.keep KF31)
        have f34 := (D28_value.keep KF31 nin0)
        have f35 := (D28_coder.keep KF31 nin0)
        obtain ⟨_, _, ⟨T36, L36, k36, n36⟩, -, X36, hS36, hgr36, ⟨Lc36, hQ36, l36, y36, z36, ib36⟩, st36⟩ := X31.specialBackS hx (y := (⟨"java/lang/String", "<init>", "([C)V"⟩ : MethodName)) rfl hown (mvT hZ (hw _ (List.mem_of_getElem? (i := 12) rfl))) (mvT hZ (hw _ (List.mem_of_getElem? (i := 13) rfl))) (mvT hZ (hw _ (List.mem_of_getElem? (i := 14) rfl))) (by decide) (own_backSI (W := 1) (own_s10 l Z a0 hw [] sx rt _ T31.heap n0 zz32 f33 f34 f35 n0_sx (fun b cl q => (kk32).2.1 b cl (hkp b cl q) List.not_mem_nil) heldS hcw at31) hZ (hw _ (List.mem_of_getElem? (i := 14) rfl)) (hw _ (List.mem_of_getElem? (i := 8) rfl)) (by decide) (by decide) hIB) (g := (mkF m 217 #[.val (.int p0), .val (.long p1), .second, .val (.int p2), .val (.int xm), .val (.int xl), .val (.int xq), .val (.ref ra), .unset, .unset, .unset] [(.ref rt), (.ref sx), (.ref sx)])) rfl (by rw [hml]; rfl) (Steps.refl _) (a := sx) (argsL := [(.ref rt)]) (rest := [(.ref sx)]) (lenOf own_pd13 rfl) rfl (by show 2 * 0 + _ ≤ _; exact Nat.le_of_eq rfl) (hb hby at_217) (fun _ _ => ⟨rfl, rfl, (by decide : 3 + 2 ≤ _), (by decide : 20 + 4 ≤ _)⟩)
        dsimp only [Pt.U, Pt.locs, Pt.cells, Pt.slots] at X36 l36 y36 z36 st36 hQ36 hS36 hgr36 ib36
        subst l36 y36 z36
        obtain ⟨rb, rfl, N36q, st_36, KF36⟩ := hQ36
        have N36 := Fr.app N31 N36q
        refine own_Go.st (fun _ kt => st36.trans kt) ?_
        have hZ36 : Z.Warmed39 (s.setVm T36.vm).vm := State.Warmed39.trans (t := s.setVm s.vm) hZ hS36.1
        have ho36 : (s.setVm T36.vm).vm.findClass "com/example/marshal/marshal/variables/VariableTypeNamedPinLaw" = some m.cls := by rw [show (s.setVm T36.vm).vm = T36.vm from rfl, hS36.1.alike.findClass]; exact hown
        have hT36 : s.Since T36.vm (Array.size T36.heap) := State.Since.trans hS0 hS36 (Nat.le_trans hk32 (Nat.le_trans (Nat.le_of_eq (congrArg Array.size rfl).symm) hgr36))
        have zz37 : n0 ≤ Array.size T36.heap := Nat.le_trans zz32 KF36.1
        have kk37 : Keep h0 T36.heap [] := kk32.trans KF36 (allS (P := fun x => x ∈ [] ∨ _) (Or.inr b_sx) all0)
        show own_Go p e below _ (T36.setTop (mkF m 220 #[.val (.int p0), .val (.long p1), .second, .val (.int p2), .val (.int xm), .val (.int xl), .val (.int xq), .val (.ref ra), .unset, .unset, .unset] [(.ref sx)]))
        refine own_Go.st (fun _ kt => XS.astore X36.here hx rfl (hb hby at_220) rfl rfl (l' := #[.val (.int p0), .val (.long p1), .second, .val (.int p2), .val (.int xm), .val (.int xl), .val (.int xq), .val (.ref ra), .val (.ref sx), .unset, .unset]) rfl kt) ?_
        show own_Go p e below _ (T36.setTop (mkF m 222 #[.val (.int p0), .val (.long p1), .second, .val (.int p2), .val (.int xm), .val (.int xl), .val (.int xq), .val (.ref ra), .val (.ref sx), .unset, .unset] []))
        refine own_Go.st (fun _ kt => XS.aconstNull X36.here hx rfl (hb hby at_222) kt) ?_
        show own_Go p e below _ (T36.setTop (mkF m 223 #[.val (.int p0), .val (.long p1), .second, .val (.int p2), .val (.int xm), .val (.int xl), .val (.int xq), .val (.ref ra), .val (.ref sx), .unset, .unset] [.null]))
        refine own_Go.st (fun _ kt => XS.astore X36.here hx rfl (hb hby at_223) rfl rfl (l' := #[.val (.int p0), .val (.long p1), .second, .val (.int p2), .val (.int xm), .val (.int xl), .val (.int xq), .val (.ref ra), .val (.ref sx), .val .null, .unset]) rfl kt) ?_
        show own_Go p e below _ (T36.setTop (mkF m 225 #[.val (.int p0), .val (.long p1), .second, .val (.int p2), .val (.int xm), .val (.int xl), .val (.int xq), .val (.ref ra), .val (.ref sx), .val .null, .unset] []))
        refine own_Go.st (fun _ kt => XS.aload X36.here hx rfl (hb hby at_225) rfl rfl kt) ?_
        show own_Go p e below _ (T36.setTop (mkF m 227 #[.val (.int p0), .val (.long p1), .second, .val (.int p2), .val (.int xm), .val (.int xl), .val (.int xq), .val (.ref ra), .val (.ref sx), .val .null, .unset] [(.ref sx)]))
        obtain ⟨cE, T38, h38, k38, bcE, kb38, X38, e38, E38, hS38, hk38, hZ38, ho38, Ex38, Cd38, Vl38, Av38, -, -, ib38, Lt38, st38⟩ := ldcSVL X36 hx hZ36 ho36 (hw _ (List.mem_of_getElem? (i := 30) rfl)) (own_strAtoms hw) rfl hT36 (Nat.le_of_eq (congrArg Array.size rfl)) (by show Fr (Array.size s.heap) _; rw [hh, ← hn0]; exact N36) (fun b cl q => by show s.heap[b]? = some cl; rw [hh]; exact hkp b cl q) ib36 (by decide) heldE hcw (vs := ([101, 110, 118, 95, 118, 97, 114] : List Int32).map Value.int) (z := (7 : Int32)) ⟨by decide, by decide⟩ (by decide) rfl (g := (mkF m 227 #[.val (.int p0), .val (.long p1), .second, .val (.int p2), .val (.int xm), .val (.int xl), .val (.int xq), .val (.ref ra), .val (.ref sx), .val .null, .unset] [(.ref sx)])) rfl (hb hby at_227) (n := 28) (by decide) (by decide) (by decide) (by decide)
        refine own_Go.st st38 ?_
        have zz39 : n0 ≤ Array.size h38 := Nat.le_trans zz37 E38.1
        have kk39 : Keep h0 h38 [] := kk37.ext E38
        have sa38 := (own_Ar.arv Av38 (n := 7) rfl).congr (fun j _ => own_getD_map ([101, 110, 118, 95, 118, 97, 114] : List Int32) j)
        show own_Go p e below _ (T38.setTop (mkF m 229 #[.val (.int p0), .val (.long p1), .second, .val (.int p2), .val (.int xm), .val (.int xl), .val (.int xq), .val (.ref ra), .val (.ref sx), .val .null, .unset] [(.ref cE), (.ref sx)]))
        skip
        have f40 := (st_36.1.ext E38)
        have f41 := (st_36.2.1.ext E38)
        have f42 := (st_36.2.2.1.ext E38)
        have f43 := (st_36.2.2.2.ext E38)
        have f44 := ((own_stakeep (own_stakeep (z_S_cs.ext E28) KF31 (fun x hx _ _ => absurd hx List.not_mem_nil)) KF36 (own_nst f33)).ext E38)
        obtain ⟨cq45, kq45, q45a, q45b, q45c⟩ := isOf hZ38 e38 f40
        obtain ⟨_, _, ⟨T45, L45, k45, n45⟩, -, X45, ⟨Lc45, hQ45, l45, y45, z45⟩, st45⟩ := X38.virtualBack hx (y := (⟨"java/lang/String", "equals", "(Ljava/lang/Object;)Z"⟩ : MethodName)) (z := (⟨"java/lang/String", "equals", "(Ljava/lang/Object;)Z"⟩ : MethodName)) ho38 (mvT hZ38 (hw _ (List.mem_of_getElem? (i := 31) rfl))) (mvT hZ38 (hw _ (List.mem_of_getElem? (i := 32) rfl))) (notFace_of_selects (args := #[]) (mvT hZ38 (hw _ (List.mem_of_getElem? (i := 34) rfl)))) (mvT hZ38 (hw _ (List.mem_of_getElem? (i := 34) rfl))) (mvT hZ38 (hw _ (List.mem_of_getElem? (i := 33) rfl))) (by decide) (backOf (W := 0) (own_eq l Z a0 hw [] sx cE rb bcE 0 7 (fun _ => (0 : Int32)) (fun j => ([101, 110, 118, 95, 118, 97, 114] : List Int32).getD j 0) zc h38 n0 zz39 ⟨f40, f41, f42, f43⟩ ⟨Ex38, Cd38, Vl38, sa38⟩ f44 hzc (by decide) (by decide)) hZ38 (hw _ (List.mem_of_getElem? (i := 35) rfl)) (hw _ (List.mem_of_getElem? (i := 8) rfl)) (by decide) (by decide)) q45a q45c (g := (mkF m 229 #[.val (.int p0), .val (.long p1), .second, .val (.int p2), .val (.int xm), .val (.int xl), .val (.int xq), .val (.ref ra), .val (.ref sx), .val .null, .unset] [(.ref cE), (.ref sx)])) rfl (by rw [hml]; rfl) (Steps.refl _) (argsL := [(.ref cE)]) (rest := []) (lenOf own_pd8 rfl) rfl (by show 2 * 0 + _ ≤ _; exact Nat.le_of_eq rfl) (hb hby at_229) (fun _ _ => ⟨rfl, e38, (by decide : 7 + 0 ≤ _), (by decide : 56 + 0 ≤ _)⟩)
        dsimp only [Pt.U, Pt.locs, Pt.cells, Pt.slots] at X45 l45 y45 z45 st45 hQ45
        subst l45 y45 z45
        obtain ⟨z0, rfl, N45q, hB45, hh45⟩ := hQ45
        have N45 := Fr.app N36 N45q
        refine own_Go.st (fun _ kt => st45.trans kt) ?_
        show own_Go p e below _ (T45.setTop (mkF m 232 #[.val (.int p0), .val (.long p1), .second, .val (.int p2), .val (.int xm), .val (.int xl), .val (.int xq), .val (.ref ra), .val (.ref sx), .val .null, .unset] [(.int z0)]))
        rcases hB45 with ⟨rfl, q0⟩ | ⟨rfl, q0⟩
        · show own_Go p e below _ (T45.setTop (mkF m 232 #[.val (.int p0), .val (.long p1), .second, .val (.int p2), .val (.int xm), .val (.int xl), .val (.int xq), .val (.ref ra), .val (.ref sx), .val .null, .unset] [(.int (1 : Int32))]))
          refine own_Go.st (fun _ kt => XS.ifNo X45.here hx rfl (hb hby at_232) rfl ((if0 _ _).trans (feq (by decide)).1) kt) ?_
          show own_Go p e below _ (T45.setTop (mkF m 235 #[.val (.int p0), .val (.long p1), .second, .val (.int p2), .val (.int xm), .val (.int xl), .val (.int xq), .val (.ref ra), .val (.ref sx), .val .null, .unset] []))
          have f46 := ((own_stakeep (own_stakeep (z_S_ENV_VAR.ext E28) KF31 (fun x hx _ _ => absurd hx List.not_mem_nil)) KF36 (own_nst f33)).ext E38)
          obtain ⟨T47, X47, e47, st47⟩ := getS2 X45 hx hZ38 ho38 (host := "") (Or.inl (hw _ (List.mem_of_getElem? (i := 109) rfl))) Via.refl hh45 f46 (g := (mkF m 235 #[.val (.int p0), .val (.long p1), .second, .val (.int p2), .val (.int xm), .val (.int xl), .val (.int xq), .val (.ref ra), .val (.ref sx), .val .null, .unset] [])) rfl (hb hby at_235)
          refine own_Go.st st47 ?_
          show own_Go p e below _ (T47.setTop (mkF m 238 #[.val (.int p0), .val (.long p1), .second, .val (.int p2), .val (.int xm), .val (.int xl), .val (.int xq), .val (.ref ra), .val (.ref sx), .val .null, .unset] [(.ref aE)]))
          refine own_Go.st (fun _ kt => XS.astore X47.here hx rfl (hb hby at_238) rfl rfl (l' := #[.val (.int p0), .val (.long p1), .second, .val (.int p2), .val (.int xm), .val (.int xl), .val (.int xq), .val (.ref ra), .val (.ref sx), .val (.ref aE), .unset]) rfl kt) ?_
          show own_Go p e below _ (T47.setTop (mkF m 240 #[.val (.int p0), .val (.long p1), .second, .val (.int p2), .val (.int xm), .val (.int xl), .val (.int xq), .val (.ref ra), .val (.ref sx), .val (.ref aE), .unset] []))
          refine own_Go.st (fun _ kt => XS.goto X47.here hx rfl (pc0 := 240) (pc' := 258) rfl (hb hby at_240) (by decide) (by decide) kt) ?_
          show own_Go p e below _ (T47.setTop (mkF m 258 #[.val (.int p0), .val (.long p1), .second, .val (.int p2), .val (.int xm), .val (.int xl), .val (.int xq), .val (.ref ra), .val (.ref sx), .val (.ref aE), .unset] []))
          refine own_Go.st (fun _ kt => XS.aload X47.here hx rfl (hb hby at_258) rfl rfl kt) ?_
          show own_Go p e below _ (T47.setTop (mkF m 260 #[.val (.int p0), .val (.long p1), .second, .val (.int p2), .val (.int xm), .val (.int xl), .val (.int xq), .val (.ref ra), .val (.ref sx), .val (.ref aE), .unset] [(.ref sx)]))
          have f48 := ((own_stakeep (own_stakeep (z_S_VALUES.ext E28) KF31 (fun x hx _ _ => absurd hx List.not_mem_nil)) KF36 (own_nst f33)).ext E38)
          have f49 := ((((z_A_rv.ext E28).keep KF31 nin0).keep KF36 (ninS ne_rv_sx nin0)).ext E38)
          have f50 := ((((z_E_rv.ext E28).keep KF31).keep KF36).ext E38)
          have f51 := ((((z_F_aE_apiName.ext E28).keep KF31 nin0).keep KF36 (ninS ne_aE_sx nin0)).ext E38)
          have f52 := ((((z_F_aF_apiName.ext E28).keep KF31 nin0).keep KF36 (ninS ne_aF_sx nin0)).ext E38)
          have f53 := ((((z_E_nE.ext E28).keep KF31).keep KF36).ext E38)
          have f54 := ((((z_F_nE_coder.ext E28).keep KF31 nin0).keep KF36 (ninS ne_nE_sx nin0)).ext E38)
          have f55 := ((((z_F_nE_value.ext E28).keep KF31 nin0).keep KF36 (ninS ne_nE_sx nin0)).ext E38)
          have f56 := ((((z_A_bE.ext E28).keep KF31 nin0).keep KF36 (ninS ne_bE_sx nin0)).ext E38)
          have f57 := ((((z_E_nF.ext E28).keep KF31).keep KF36).ext E38)
          have f58 := ((((z_F_nF_coder.ext E28).keep KF31 nin0).keep KF36 (ninS ne_nF_sx nin0)).ext E38)
          have f59 := ((((z_F_nF_value.ext E28).keep KF31 nin0).keep KF36 (ninS ne_nF_sx nin0)).ext E38)
          have f60 := ((((z_A_bF.ext E28).keep KF31 nin0).keep KF36 (ninS ne_bF_sx nin0)).ext E38)
          have f61 := ((own_stakeep (own_stakeep (z_S_EMPTY.ext E28) KF31 (fun x hx _ _ => absurd hx List.not_mem_nil)) KF36 (own_nst f33)).ext E38)
          have f62 := ((((z_E_ro0.ext E28).keep KF31).keep KF36).ext E38)
          have f63 := ((((z_F_ro0_value.ext E28).keep KF31 nin0).keep KF36 (ninS ne_ro0_sx nin0)).ext E38)
          obtain ⟨_, _, ⟨T64, L64, k64, n64⟩, -, X64, ⟨Lc64, hQ64, l64, y64, z64⟩, st64⟩ := Jvm.LawKit.callS X47 hx (y := (⟨"com/example/marshal/marshal/variables/VariableType", "named", "(Ljava/lang/String;)Ljava/util/Optional;"⟩ : MethodName)) ho38 (mvT hZ38 (hw _ (List.mem_of_getElem? (i := 43) rfl))) (mvT hZ38 (hw _ (List.mem_of_getElem? (i := 44) rfl))) (mvT hZ38 (hw _ (List.mem_of_getElem? (i := 45) rfl))) (mvT hZ38 (hw _ (List.mem_of_getElem? (i := 46) rfl))) (by decide) (backOf (W := 0) (own_named l Z a0 hw [] sx rb 0 (fun _ => (0 : Int32)) rv fv aE aF nE nF bE bF ro0 zc h38 n0 zz39 ⟨f40, f41, f42, f43⟩ (by decide) f48 f49 f50 (own_fit_keep aV kk39 hF) f51 f52 ⟨f53, f54, f55, f56⟩ ⟨f57, f58, f59, f60⟩ hv0 hv1 f61 f62 f63 f44 hzc) hZ38 (hw _ (List.mem_of_getElem? (i := 46) rfl)) (hw _ (List.mem_of_getElem? (i := 45) rfl)) (by decide) (by decide)) (g := (mkF m 260 #[.val (.int p0), .val (.long p1), .second, .val (.int p2), .val (.int xm), .val (.int xl), .val (.int xq), .val (.ref ra), .val (.ref sx), .val (.ref aE), .unset] [(.ref sx)])) rfl (by rw [hml]; rfl) (argsL := [(.ref sx)]) (rest := []) (lenOf own_pd14 rfl) rfl (by show 2 * 0 + _ ≤ _; exact Nat.le_of_eq rfl) (hb hby at_260) (fun _ _ => ⟨rfl, e47, (by decide : 7 + 2 ≤ _), (by decide : 56 + 3 ≤ _)⟩)
          dsimp only [Pt.U, Pt.locs, Pt.cells, Pt.slots] at X64 l64 y64 z64 st64 hQ64
          subst l64 y64 z64
          obtain ⟨ro, u, rfl, N64q, eo64, fo64, nn64, KF64⟩ := hQ64
          have N64 := Fr.app N45 N64q
          refine own_Go.st (fun _ kt => st64 _ kt) ?_
          have zz65 : n0 ≤ Array.size T64.heap := Nat.le_trans zz39 KF64.1
          have kk65 : Keep h0 T64.heap [] := kk39.trans KF64 all0
          have hk65 : k38 ≤ Array.size T64.heap := Nat.le_trans hk38 KF64.1
          show own_Go p e below _ (T64.setTop (mkF m 263 #[.val (.int p0), .val (.long p1), .second, .val (.int p2), .val (.int xm), .val (.int xl), .val (.int xq), .val (.ref ra), .val (.ref sx), .val (.ref aE), .unset] [(.ref ro)]))
          refine own_Go.st (fun _ kt => XS.astore X64.here hx rfl (hb hby at_263) rfl rfl (l' := #[.val (.int p0), .val (.long p1), .second, .val (.int p2), .val (.int xm), .val (.int xl), .val (.int xq), .val (.ref ra), .val (.ref sx), .val (.ref aE), .val (.ref ro)]) rfl kt) ?_
          show own_Go p e below _ (T64.setTop (mkF m 265 #[.val (.int p0), .val (.long p1), .second, .val (.int p2), .val (.int xm), .val (.int xl), .val (.int xq), .val (.ref ra), .val (.ref sx), .val (.ref aE), .val (.ref ro)] []))
          refine own_Go.st (fun _ kt => XS.aload X64.here hx rfl (hb hby at_265) rfl rfl kt) ?_
          show own_Go p e below _ (T64.setTop (mkF m 267 #[.val (.int p0), .val (.long p1), .second, .val (.int p2), .val (.int xm), .val (.int xl), .val (.int xq), .val (.ref ra), .val (.ref sx), .val (.ref aE), .val (.ref ro)] [(.ref aE)]))
          refine own_Go.st (fun _ kt => XS.ifnonnullYes X64.here hx rfl (pc0 := 267) (pc' := 284) rfl (hb hby at_267) rfl (by decide) (by decide) kt) ?_
          show own_Go p e below _ (T64.setTop (mkF m 284 #[.val (.int p0), .val (.long p1), .second, .val (.int p2), .val (.int xm), .val (.int xl), .val (.int xq), .val (.ref ra), .val (.ref sx), .val (.ref aE), .val (.ref ro)] []))
          have hu : u = .ref aE := by
            rcases nn64 with ⟨q, e⟩ | ⟨q, q', e⟩ | ⟨q, q', e⟩
            · exact e
            · exact absurd (own_eqt_symm q0) q
            · exact absurd (own_eqt_symm q0) q
          subst hu
          refine own_Go.st (fun _ kt => XS.aload X64.here hx rfl (hb hby at_284) rfl rfl kt) ?_
          show own_Go p e below _ (T64.setTop (mkF m 286 #[.val (.int p0), .val (.long p1), .second, .val (.int p2), .val (.int xm), .val (.int xl), .val (.int xq), .val (.ref ra), .val (.ref sx), .val (.ref aE), .val (.ref ro)] [(.ref ro)]))
          obtain ⟨cq66, kq66, q66a, q66b, q66c⟩ := isOf hZ38 rfl eo64
          obtain ⟨_, _, ⟨T66, L66, k66, n66⟩, -, X66, ⟨Lc66, hQ66, l66, y66, z66⟩, st66⟩ := X64.virtualBack hx (y := (⟨"java/util/Optional", "isPresent", "()Z"⟩ : MethodName)) (z := (⟨"java/util/Optional", "isPresent", "()Z"⟩ : MethodName)) ho38 (mvT hZ38 (hw _ (List.mem_of_getElem? (i := 72) rfl))) (mvT hZ38 (hw _ (List.mem_of_getElem? (i := 73) rfl))) (notFace_of_selects (args := #[]) (mvT hZ38 (hw _ (List.mem_of_getElem? (i := 75) rfl)))) (mvT hZ38 (hw _ (List.mem_of_getElem? (i := 75) rfl))) (mvT hZ38 (hw _ (List.mem_of_getElem? (i := 74) rfl))) (by decide) (backOf (W := 0) (own_isP1 l Z a0 hw [] ro aE T64.heap n0 zz65 fo64) hZ38 (hw _ (List.mem_of_getElem? (i := 76) rfl)) (hw _ (List.mem_of_getElem? (i := 69) rfl)) (by decide) (by decide)) q66a q66c (g := (mkF m 286 #[.val (.int p0), .val (.long p1), .second, .val (.int p2), .val (.int xm), .val (.int xl), .val (.int xq), .val (.ref ra), .val (.ref sx), .val (.ref aE), .val (.ref ro)] [(.ref ro)])) rfl (by rw [hml]; rfl) (Steps.refl _) (argsL := []) (rest := []) (lenOf own_pd15 rfl) rfl (by show 2 * 0 + _ ≤ _; exact Nat.le_of_eq rfl) (hb hby at_286) (fun _ _ => ⟨rfl, rfl, (by decide : 9 + 0 ≤ _), (by decide : 59 + 0 ≤ _)⟩)
          dsimp only [Pt.U, Pt.locs, Pt.cells, Pt.slots] at X66 l66 y66 z66 st66 hQ66
          subst l66 y66 z66
          obtain ⟨rfl, N66q, hh66⟩ := hQ66
          have N66 := Fr.app N64 N66q
          refine own_Go.st (fun _ kt => st66.trans kt) ?_
          show own_Go p e below _ (T66.setTop (mkF m 289 #[.val (.int p0), .val (.long p1), .second, .val (.int p2), .val (.int xm), .val (.int xl), .val (.int xq), .val (.ref ra), .val (.ref sx), .val (.ref aE), .val (.ref ro)] [(.int (1 : Int32))]))
          refine own_Go.st (fun _ kt => XS.ifNo X66.here hx rfl (hb hby at_289) rfl ((if0 _ _).trans (feq (by decide)).1) kt) ?_
          show own_Go p e below _ (T66.setTop (mkF m 292 #[.val (.int p0), .val (.long p1), .second, .val (.int p2), .val (.int xm), .val (.int xl), .val (.int xq), .val (.ref ra), .val (.ref sx), .val (.ref aE), .val (.ref ro)] []))
          refine own_Go.st (fun _ kt => XS.aload X66.here hx rfl (hb hby at_292) rfl rfl kt) ?_
          show own_Go p e below _ (T66.setTop (mkF m 294 #[.val (.int p0), .val (.long p1), .second, .val (.int p2), .val (.int xm), .val (.int xl), .val (.int xq), .val (.ref ra), .val (.ref sx), .val (.ref aE), .val (.ref ro)] [(.ref ro)]))
          obtain ⟨cq67, kq67, q67a, q67b, q67c⟩ := isOf hZ38 hh66 eo64
          obtain ⟨_, _, ⟨T67, L67, k67, n67⟩, -, X67, ⟨Lc67, hQ67, l67, y67, z67⟩, st67⟩ := X66.virtualBack hx (y := (⟨"java/util/Optional", "get", "()Ljava/lang/Object;"⟩ : MethodName)) (z := (⟨"java/util/Optional", "get", "()Ljava/lang/Object;"⟩ : MethodName)) ho38 (mvT hZ38 (hw _ (List.mem_of_getElem? (i := 104) rfl))) (mvT hZ38 (hw _ (List.mem_of_getElem? (i := 105) rfl))) (notFace_of_selects (args := #[]) (mvT hZ38 (hw _ (List.mem_of_getElem? (i := 107) rfl)))) (mvT hZ38 (hw _ (List.mem_of_getElem? (i := 107) rfl))) (mvT hZ38 (hw _ (List.mem_of_getElem? (i := 106) rfl))) (by decide) (backOf (W := 0) (own_get l Z a0 hw [] ro aE T64.heap n0 zz65 fo64) hZ38 (hw _ (List.mem_of_getElem? (i := 108) rfl)) (hw _ (List.mem_of_getElem? (i := 69) rfl)) (by decide) (by decide)) q67a q67c (g := (mkF m 294 #[.val (.int p0), .val (.long p1), .second, .val (.int p2), .val (.int xm), .val (.int xl), .val (.int xq), .val (.ref ra), .val (.ref sx), .val (.ref aE), .val (.ref ro)] [(.ref ro)])) rfl (by rw [hml]; rfl) (Steps.refl _) (argsL := []) (rest := []) (lenOf own_pd16 rfl) rfl (by show 2 * 0 + _ ≤ _; exact Nat.le_of_eq rfl) (hb hby at_294) (fun _ _ => ⟨rfl, hh66, (by decide : 9 + 0 ≤ _), (by decide : 59 + 0 ≤ _)⟩)
          dsimp only [Pt.U, Pt.locs, Pt.cells, Pt.slots] at X67 l67 y67 z67 st67 hQ67
          subst l67 y67 z67
          obtain ⟨rfl, N67q, hh67⟩ := hQ67
          have N67 := Fr.app N66 N67q
          refine own_Go.st (fun _ kt => st67.trans kt) ?_
          show own_Go p e below _ (T67.setTop (mkF m 297 #[.val (.int p0), .val (.long p1), .second, .val (.int p2), .val (.int xm), .val (.int xl), .val (.int xq), .val (.ref ra), .val (.ref sx), .val (.ref aE), .val (.ref ro)] [(.ref aE)]))
          refine own_Go.st (fun _ kt => XS.aload X67.here hx rfl (hb hby at_297) rfl rfl kt) ?_
          show own_Go p e below _ (T67.setTop (mkF m 299 #[.val (.int p0), .val (.long p1), .second, .val (.int p2), .val (.int xm), .val (.int xl), .val (.int xq), .val (.ref ra), .val (.ref sx), .val (.ref aE), .val (.ref ro)] [(.ref aE), (.ref aE)]))
          refine own_Go.st (fun _ kt => Jvm.RoadKit.acmp (g := (mkF m 299 #[.val (.int p0), .val (.long p1), .second, .val (.int p2), .val (.int xm), .val (.int xl), .val (.int xq), .val (.ref ra), .val (.ref sx), .val (.ref aE), .val (.ref ro)] [(.ref aE), (.ref aE)])) X67 hx rfl rfl rfl (pc0 := 299) (pc' := 302) (same := true) rfl (hb hby at_299) rfl (decide_eq_true rfl) (by decide) (by decide) kt) ?_
          show own_Go p e below _ (T67.setTop (mkF m 302 #[.val (.int p0), .val (.long p1), .second, .val (.int p2), .val (.int xm), .val (.int xl), .val (.int xq), .val (.ref ra), .val (.ref sx), .val (.ref aE), .val (.ref ro)] []))
          refine own_Go.st (fun _ kt => XS.iconst X67.here hx rfl (hb hby at_302) kt) ?_
          show own_Go p e below _ (T67.setTop (mkF m 303 #[.val (.int p0), .val (.long p1), .second, .val (.int p2), .val (.int xm), .val (.int xl), .val (.int xq), .val (.ref ra), .val (.ref sx), .val (.ref aE), .val (.ref ro)] [(.int (1 : Int32))]))
          refine own_Go.st (fun _ kt => XS.goto X67.here hx rfl (pc0 := 303) (pc' := 307) rfl (hb hby at_303) (by decide) (by decide) kt) ?_
          show own_Go p e below _ (T67.setTop (mkF m 307 #[.val (.int p0), .val (.long p1), .second, .val (.int p2), .val (.int xm), .val (.int xl), .val (.int xq), .val (.ref ra), .val (.ref sx), .val (.ref aE), .val (.ref ro)] [(.int (1 : Int32))]))
          exact own_retWZ X67 hx Bd.notSynchronized Bd.returns hS38 (Nat.le_trans hk65 (Nat.le_of_eq (congrArg Array.size hh67).symm)) (Or.inr rfl) (hb hby at_307) (by decide) (by decide) ⟨rfl, N67⟩
        · show own_Go p e below _ (T45.setTop (mkF m 232 #[.val (.int p0), .val (.long p1), .second, .val (.int p2), .val (.int xm), .val (.int xl), .val (.int xq), .val (.ref ra), .val (.ref sx), .val .null, .unset] [(.int (0 : Int32))]))
          refine own_Go.st (fun _ kt => XS.ifYes X45.here hx rfl (pc0 := 232) (pc' := 243) rfl (hb hby at_232) rfl ((if0 _ _).trans (teq rfl).1) (by decide) (by decide) kt) ?_
          show own_Go p e below _ (T45.setTop (mkF m 243 #[.val (.int p0), .val (.long p1), .second, .val (.int p2), .val (.int xm), .val (.int xl), .val (.int xq), .val (.ref ra), .val (.ref sx), .val .null, .unset] []))
          refine own_Go.st (fun _ kt => XS.aload X45.here hx rfl (hb hby at_243) rfl rfl kt) ?_
          show own_Go p e below _ (T45.setTop (mkF m 245 #[.val (.int p0), .val (.long p1), .second, .val (.int p2), .val (.int xm), .val (.int xl), .val (.int xq), .val (.ref ra), .val (.ref sx), .val .null, .unset] [(.ref sx)]))
          obtain ⟨cF, T68, h68, k68, bcF, kb68, X68, e68, E68, hS68, hk68, hZ68, ho68, Ex68, Cd68, Vl68, Av68, -, -, ib68, Lt68, st68⟩ := ldcSVL X45 hx hZ38 ho38 (hw _ (List.mem_of_getElem? (i := 42) rfl)) (own_strAtoms hw) hh45 hS38 hk38 (by show Fr (Array.size s.heap) _; rw [hh, ← hn0]; exact N45) (fun b cl q => by show s.heap[b]? = some cl; rw [hh]; exact hkp b cl q) ib38 (by decide) heldF hcw (vs := ([102, 105, 108, 101] : List Int32).map Value.int) (z := (4 : Int32)) ⟨by decide, by decide⟩ (by decide) rfl (g := (mkF m 245 #[.val (.int p0), .val (.long p1), .second, .val (.int p2), .val (.int xm), .val (.int xl), .val (.int xq), .val (.ref ra), .val (.ref sx), .val .null, .unset] [(.ref sx)])) rfl (hb hby at_245) (n := 16) (by decide) (by decide) (by decide) (by decide)
          refine own_Go.st st68 ?_
          have zz69 : n0 ≤ Array.size h68 := Nat.le_trans zz39 E68.1
          have kk69 : Keep h0 h68 [] := kk39.ext E68
          have sa68 := (own_Ar.arv Av68 (n := 4) rfl).congr (fun j _ => own_getD_map ([102, 105, 108, 101] : List Int32) j)
          show own_Go p e below _ (T68.setTop (mkF m 247 #[.val (.int p0), .val (.long p1), .second, .val (.int p2), .val (.int xm), .val (.int xl), .val (.int xq), .val (.ref ra), .val (.ref sx), .val .null, .unset] [(.ref cF), (.ref sx)]))
          have f70 := (f40.ext E68)
          have f71 := (f41.ext E68)
          have f72 := (f42.ext E68)
          have f73 := (f43.ext E68)
          have f74 := (f44.ext E68)
          obtain ⟨cq75, kq75, q75a, q75b, q75c⟩ := isOf hZ68 e68 f70
          obtain ⟨_, _, ⟨T75, L75, k75, n75⟩, -, X75, ⟨Lc75, hQ75, l75, y75, z75⟩, st75⟩ := X68.virtualBack hx (y := (⟨"java/lang/String", "equals", "(Ljava/lang/Object;)Z"⟩ : MethodName)) (z := (⟨"java/lang/String", "equals", "(Ljava/lang/Object;)Z"⟩ : MethodName)) ho68 (mvT hZ68 (hw _ (List.mem_of_getElem? (i := 31) rfl))) (mvT hZ68 (hw _ (List.mem_of_getElem? (i := 32) rfl))) (notFace_of_selects (args := #[]) (mvT hZ68 (hw _ (List.mem_of_getElem? (i := 34) rfl)))) (mvT hZ68 (hw _ (List.mem_of_getElem? (i := 34) rfl))) (mvT hZ68 (hw _ (List.mem_of_getElem? (i := 33) rfl))) (by decide) (backOf (W := 0) (own_eq l Z a0 hw [] sx cF rb bcF 0 4 (fun _ => (0 : Int32)) (fun j => ([102, 105, 108, 101] : List Int32).getD j 0) zc h68 n0 zz69 ⟨f70, f71, f72, f73⟩ ⟨Ex68, Cd68, Vl68, sa68⟩ f74 hzc (by decide) (by decide)) hZ68 (hw _ (List.mem_of_getElem? (i := 35) rfl)) (hw _ (List.mem_of_getElem? (i := 8) rfl)) (by decide) (by decide)) q75a q75c (g := (mkF m 247 #[.val (.int p0), .val (.long p1), .second, .val (.int p2), .val (.int xm), .val (.int xl), .val (.int xq), .val (.ref ra), .val (.ref sx), .val .null, .unset] [(.ref cF), (.ref sx)])) rfl (by rw [hml]; rfl) (Steps.refl _) (argsL := [(.ref cF)]) (rest := []) (lenOf own_pd8 rfl) rfl (by show 2 * 0 + _ ≤ _; exact Nat.le_of_eq rfl) (hb hby at_247) (fun _ _ => ⟨rfl, e68, (by decide : 9 + 0 ≤ _), (by decide : 76 + 0 ≤ _)⟩)
          dsimp only [Pt.U, Pt.locs, Pt.cells, Pt.slots] at X75 l75 y75 z75 st75 hQ75
          subst l75 y75 z75
          obtain ⟨z1, rfl, N75q, hB75, hh75⟩ := hQ75
          have N75 := Fr.app N45 N75q
          refine own_Go.st (fun _ kt => st75.trans kt) ?_
          show own_Go p e below _ (T75.setTop (mkF m 250 #[.val (.int p0), .val (.long p1), .second, .val (.int p2), .val (.int xm), .val (.int xl), .val (.int xq), .val (.ref ra), .val (.ref sx), .val .null, .unset] [(.int z1)]))
          rcases hB75 with ⟨rfl, q1⟩ | ⟨rfl, q1⟩
          · show own_Go p e below _ (T75.setTop (mkF m 250 #[.val (.int p0), .val (.long p1), .second, .val (.int p2), .val (.int xm), .val (.int xl), .val (.int xq), .val (.ref ra), .val (.ref sx), .val .null, .unset] [(.int (1 : Int32))]))
            refine own_Go.st (fun _ kt => XS.ifNo X75.here hx rfl (hb hby at_250) rfl ((if0 _ _).trans (feq (by decide)).1) kt) ?_
            show own_Go p e below _ (T75.setTop (mkF m 253 #[.val (.int p0), .val (.long p1), .second, .val (.int p2), .val (.int xm), .val (.int xl), .val (.int xq), .val (.ref ra), .val (.ref sx), .val .null, .unset] []))
            have f76 := (((own_stakeep (own_stakeep (z_S_FILE.ext E28) KF31 (fun x hx _ _ => absurd hx List.not_mem_nil)) KF36 (own_nst f33)).ext E38).ext E68)
            obtain ⟨T77, X77, e77, st77⟩ := getS2 X75 hx hZ68 ho68 (host := "") (Or.inl (hw _ (List.mem_of_getElem? (i := 89) rfl))) Via.refl hh75 f76 (g := (mkF m 253 #[.val (.int p0), .val (.long p1), .second, .val (.int p2), .val (.int xm), .val (.int xl), .val (.int xq), .val (.ref ra), .val (.ref sx), .val .null, .unset] [])) rfl (hb hby at_253)
            refine own_Go.st st77 ?_
            show own_Go p e below _ (T77.setTop (mkF m 256 #[.val (.int p0), .val (.long p1), .second, .val (.int p2), .val (.int xm), .val (.int xl), .val (.int xq), .val (.ref ra), .val (.ref sx), .val .null, .unset] [(.ref aF)]))
            refine own_Go.st (fun _ kt => XS.astore X77.here hx rfl (hb hby at_256) rfl rfl (l' := #[.val (.int p0), .val (.long p1), .second, .val (.int p2), .val (.int xm), .val (.int xl), .val (.int xq), .val (.ref ra), .val (.ref sx), .val (.ref aF), .unset]) rfl kt) ?_
            show own_Go p e below _ (T77.setTop (mkF m 258 #[.val (.int p0), .val (.long p1), .second, .val (.int p2), .val (.int xm), .val (.int xl), .val (.int xq), .val (.ref ra), .val (.ref sx), .val (.ref aF), .unset] []))
            refine own_Go.st (fun _ kt => XS.aload X77.here hx rfl (hb hby at_258) rfl rfl kt) ?_
            show own_Go p e below _ (T77.setTop (mkF m 260 #[.val (.int p0), .val (.long p1), .second, .val (.int p2), .val (.int xm), .val (.int xl), .val (.int xq), .val (.ref ra), .val (.ref sx), .val (.ref aF), .unset] [(.ref sx)]))
            have f78 := (((own_stakeep (own_stakeep (z_S_VALUES.ext E28) KF31 (fun x hx _ _ => absurd hx List.not_mem_nil)) KF36 (own_nst f33)).ext E38).ext E68)
            have f79 := (((((z_A_rv.ext E28).keep KF31 nin0).keep KF36 (ninS ne_rv_sx nin0)).ext E38).ext E68)
            have f80 := (((((z_E_rv.ext E28).keep KF31).keep KF36).ext E38).ext E68)
            have f81 := (((((z_F_aE_apiName.ext E28).keep KF31 nin0).keep KF36 (ninS ne_aE_sx nin0)).ext E38).ext E68)
            have f82 := (((((z_F_aF_apiName.ext E28).keep KF31 nin0).keep KF36 (ninS ne_aF_sx nin0)).ext E38).ext E68)
            have f83 := (((((z_E_nE.ext E28).keep KF31).keep KF36).ext E38).ext E68)
            have f84 := (((((z_F_nE_coder.ext E28).keep KF31 nin0).keep KF36 (ninS ne_nE_sx nin0)).ext E38).ext E68)
            have f85 := (((((z_F_nE_value.ext E28).keep KF31 nin0).keep KF36 (ninS ne_nE_sx nin0)).ext E38).ext E68)
            have f86 := (((((z_A_bE.ext E28).keep KF31 nin0).keep KF36 (ninS ne_bE_sx nin0)).ext E38).ext E68)
            have f87 := (((((z_E_nF.ext E28).keep KF31).keep KF36).ext E38).ext E68)
            have f88 := (((((z_F_nF_coder.ext E28).keep KF31 nin0).keep KF36 (ninS ne_nF_sx nin0)).ext E38).ext E68)
            have f89 := (((((z_F_nF_value.ext E28).keep KF31 nin0).keep KF36 (ninS ne_nF_sx nin0)).ext E38).ext E68)
            have f90 := (((((z_A_bF.ext E28).keep KF31 nin0).keep KF36 (ninS ne_bF_sx nin0)).ext E38).ext E68)
            have f91 := (((own_stakeep (own_stakeep (z_S_EMPTY.ext E28) KF31 (fun x hx _ _ => absurd hx List.not_mem_nil)) KF36 (own_nst f33)).ext E38).ext E68)
            have f92 := (((((z_E_ro0.ext E28).keep KF31).keep KF36).ext E38).ext E68)
            have f93 := (((((z_F_ro0_value.ext E28).keep KF31 nin0).keep KF36 (ninS ne_ro0_sx nin0)).ext E38).ext E68)
            obtain ⟨_, _, ⟨T94, L94, k94, n94⟩, -, X94, ⟨Lc94, hQ94, l94, y94, z94⟩, st94⟩ := Jvm.LawKit.callS X77 hx (y := (⟨"com/example/marshal/marshal/variables/VariableType", "named", "(Ljava/lang/String;)Ljava/util/Optional;"⟩ : MethodName)) ho68 (mvT hZ68 (hw _ (List.mem_of_getElem? (i := 43) rfl))) (mvT hZ68 (hw _ (List.mem_of_getElem? (i := 44) rfl))) (mvT hZ68 (hw _ (List.mem_of_getElem? (i := 45) rfl))) (mvT hZ68 (hw _ (List.mem_of_getElem? (i := 46) rfl))) (by decide) (backOf (W := 0) (own_named l Z a0 hw [] sx rb 0 (fun _ => (0 : Int32)) rv fv aE aF nE nF bE bF ro0 zc h68 n0 zz69 ⟨f70, f71, f72, f73⟩ (by decide) f78 f79 f80 (own_fit_keep aV kk69 hF) f81 f82 ⟨f83, f84, f85, f86⟩ ⟨f87, f88, f89, f90⟩ hv0 hv1 f91 f92 f93 f74 hzc) hZ68 (hw _ (List.mem_of_getElem? (i := 46) rfl)) (hw _ (List.mem_of_getElem? (i := 45) rfl)) (by decide) (by decide)) (g := (mkF m 260 #[.val (.int p0), .val (.long p1), .second, .val (.int p2), .val (.int xm), .val (.int xl), .val (.int xq), .val (.ref ra), .val (.ref sx), .val (.ref aF), .unset] [(.ref sx)])) rfl (by rw [hml]; rfl) (argsL := [(.ref sx)]) (rest := []) (lenOf own_pd14 rfl) rfl (by show 2 * 0 + _ ≤ _; exact Nat.le_of_eq rfl) (hb hby at_260) (fun _ _ => ⟨rfl, e77, (by decide : 9 + 2 ≤ _), (by decide : 76 + 3 ≤ _)⟩)
            dsimp only [Pt.U, Pt.locs, Pt.cells, Pt.slots] at X94 l94 y94 z94 st94 hQ94
            subst l94 y94 z94
            obtain ⟨ro, u, rfl, N94q, eo94, fo94, nn94, KF94⟩ := hQ94
            have N94 := Fr.app N75 N94q
            refine own_Go.st (fun _ kt => st94 _ kt) ?_
            have zz95 : n0 ≤ Array.size T94.heap := Nat.le_trans zz69 KF94.1
            have kk95 : Keep h0 T94.heap [] := kk69.trans KF94 all0
            have hk95 : k68 ≤ Array.size T94.heap := Nat.le_trans hk68 KF94.1
            show own_Go p e below _ (T94.setTop (mkF m 263 #[.val (.int p0), .val (.long p1), .second, .val (.int p2), .val (.int xm), .val (.int xl), .val (.int xq), .val (.ref ra), .val (.ref sx), .val (.ref aF), .unset] [(.ref ro)]))
            refine own_Go.st (fun _ kt => XS.astore X94.here hx rfl (hb hby at_263) rfl rfl (l' := #[.val (.int p0), .val (.long p1), .second, .val (.int p2), .val (.int xm), .val (.int xl), .val (.int xq), .val (.ref ra), .val (.ref sx), .val (.ref aF), .val (.ref ro)]) rfl kt) ?_
            show own_Go p e below _ (T94.setTop (mkF m 265 #[.val (.int p0), .val (.long p1), .second, .val (.int p2), .val (.int xm), .val (.int xl), .val (.int xq), .val (.ref ra), .val (.ref sx), .val (.ref aF), .val (.ref ro)] []))
            refine own_Go.st (fun _ kt => XS.aload X94.here hx rfl (hb hby at_265) rfl rfl kt) ?_
            show own_Go p e below _ (T94.setTop (mkF m 267 #[.val (.int p0), .val (.long p1), .second, .val (.int p2), .val (.int xm), .val (.int xl), .val (.int xq), .val (.ref ra), .val (.ref sx), .val (.ref aF), .val (.ref ro)] [(.ref aF)]))
            refine own_Go.st (fun _ kt => XS.ifnonnullYes X94.here hx rfl (pc0 := 267) (pc' := 284) rfl (hb hby at_267) rfl (by decide) (by decide) kt) ?_
            show own_Go p e below _ (T94.setTop (mkF m 284 #[.val (.int p0), .val (.long p1), .second, .val (.int p2), .val (.int xm), .val (.int xl), .val (.int xq), .val (.ref ra), .val (.ref sx), .val (.ref aF), .val (.ref ro)] []))
            have hu : u = .ref aF := by
              rcases nn94 with ⟨q, e⟩ | ⟨q, q', e⟩ | ⟨q, q', e⟩
              · exact absurd (own_eqt_symm q) q0
              · exact e
              · exact absurd (own_eqt_symm q1) q'
            subst hu
            refine own_Go.st (fun _ kt => XS.aload X94.here hx rfl (hb hby at_284) rfl rfl kt) ?_
            show own_Go p e below _ (T94.setTop (mkF m 286 #[.val (.int p0), .val (.long p1), .second, .val (.int p2), .val (.int xm), .val (.int xl), .val (.int xq), .val (.ref ra), .val (.ref sx), .val (.ref aF), .val (.ref ro)] [(.ref ro)]))
            obtain ⟨cq96, kq96, q96a, q96b, q96c⟩ := isOf hZ68 rfl eo94
            obtain ⟨_, _, ⟨T96, L96, k96, n96⟩, -, X96, ⟨Lc96, hQ96, l96, y96, z96⟩, st96⟩ := X94.virtualBack hx (y := (⟨"java/util/Optional", "isPresent", "()Z"⟩ : MethodName)) (z := (⟨"java/util/Optional", "isPresent", "()Z"⟩ : MethodName)) ho68 (mvT hZ68 (hw _ (List.mem_of_getElem? (i := 72) rfl))) (mvT hZ68 (hw _ (List.mem_of_getElem? (i := 73) rfl))) (notFace_of_selects (args := #[]) (mvT hZ68 (hw _ (List.mem_of_getElem? (i := 75) rfl)))) (mvT hZ68 (hw _ (List.mem_of_getElem? (i := 75) rfl))) (mvT hZ68 (hw _ (List.mem_of_getElem? (i := 74) rfl))) (by decide) (backOf (W := 0) (own_isP1 l Z a0 hw [] ro aF T94.heap n0 zz95 fo94) hZ68 (hw _ (List.mem_of_getElem? (i := 76) rfl)) (hw _ (List.mem_of_getElem? (i := 69) rfl)) (by decide) (by decide)) q96a q96c (g := (mkF m 286 #[.val (.int p0), .val (.long p1), .second, .val (.int p2), .val (.int xm), .val (.int xl), .val (.int xq), .val (.ref ra), .val (.ref sx), .val (.ref aF), .val (.ref ro)] [(.ref ro)])) rfl (by rw [hml]; rfl) (Steps.refl _) (argsL := []) (rest := []) (lenOf own_pd15 rfl) rfl (by show 2 * 0 + _ ≤ _; exact Nat.le_of_eq rfl) (hb hby at_286) (fun _ _ => ⟨rfl, rfl, (by decide : 11 + 0 ≤ _), (by decide : 79 + 0 ≤ _)⟩)
            dsimp only [Pt.U, Pt.locs, Pt.cells, Pt.slots] at X96 l96 y96 z96 st96 hQ96
            subst l96 y96 z96
            obtain ⟨rfl, N96q, hh96⟩ := hQ96
            have N96 := Fr.app N94 N96q
            refine own_Go.st (fun _ kt => st96.trans kt) ?_
            show own_Go p e below _ (T96.setTop (mkF m 289 #[.val (.int p0), .val (.long p1), .second, .val (.int p2), .val (.int xm), .val (.int xl), .val (.int xq), .val (.ref ra), .val (.ref sx), .val (.ref aF), .val (.ref ro)] [(.int (1 : Int32))]))
            refine own_Go.st (fun _ kt => XS.ifNo X96.here hx rfl (hb hby at_289) rfl ((if0 _ _).trans (feq (by decide)).1) kt) ?_
            show own_Go p e below _ (T96.setTop (mkF m 292 #[.val (.int p0), .val (.long p1), .second, .val (.int p2), .val (.int xm), .val (.int xl), .val (.int xq), .val (.ref ra), .val (.ref sx), .val (.ref aF), .val (.ref ro)] []))
            refine own_Go.st (fun _ kt => XS.aload X96.here hx rfl (hb hby at_292) rfl rfl kt) ?_
            show own_Go p e below _ (T96.setTop (mkF m 294 #[.val (.int p0), .val (.long p1), .second, .val (.int p2), .val (.int xm), .val (.int xl), .val (.int xq), .val (.ref ra), .val (.ref sx), .val (.ref aF), .val (.ref ro)] [(.ref ro)]))
            obtain ⟨cq97, kq97, q97a, q97b, q97c⟩ := isOf hZ68 hh96 eo94
            obtain ⟨_, _, ⟨T97, L97, k97, n97⟩, -, X97, ⟨Lc97, hQ97, l97, y97, z97⟩, st97⟩ := X96.virtualBack hx (y := (⟨"java/util/Optional", "get", "()Ljava/lang/Object;"⟩ : MethodName)) (z := (⟨"java/util/Optional", "get", "()Ljava/lang/Object;"⟩ : MethodName)) ho68 (mvT hZ68 (hw _ (List.mem_of_getElem? (i := 104) rfl))) (mvT hZ68 (hw _ (List.mem_of_getElem? (i := 105) rfl))) (notFace_of_selects (args := #[]) (mvT hZ68 (hw _ (List.mem_of_getElem? (i := 107) rfl)))) (mvT hZ68 (hw _ (List.mem_of_getElem? (i := 107) rfl))) (mvT hZ68 (hw _ (List.mem_of_getElem? (i := 106) rfl))) (by decide) (backOf (W := 0) (own_get l Z a0 hw [] ro aF T94.heap n0 zz95 fo94) hZ68 (hw _ (List.mem_of_getElem? (i := 108) rfl)) (hw _ (List.mem_of_getElem? (i := 69) rfl)) (by decide) (by decide)) q97a q97c (g := (mkF m 294 #[.val (.int p0), .val (.long p1), .second, .val (.int p2), .val (.int xm), .val (.int xl), .val (.int xq), .val (.ref ra), .val (.ref sx), .val (.ref aF), .val (.ref ro)] [(.ref ro)])) rfl (by rw [hml]; rfl) (Steps.refl _) (argsL := []) (rest := []) (lenOf own_pd16 rfl) rfl (by show 2 * 0 + _ ≤ _; exact Nat.le_of_eq rfl) (hb hby at_294) (fun _ _ => ⟨rfl, hh96, (by decide : 11 + 0 ≤ _), (by decide : 79 + 0 ≤ _)⟩)
            dsimp only [Pt.U, Pt.locs, Pt.cells, Pt.slots] at X97 l97 y97 z97 st97 hQ97
            subst l97 y97 z97
            obtain ⟨rfl, N97q, hh97⟩ := hQ97
            have N97 := Fr.app N96 N97q
            refine own_Go.st (fun _ kt => st97.trans kt) ?_
            show own_Go p e below _ (T97.setTop (mkF m 297 #[.val (.int p0), .val (.long p1), .second, .val (.int p2), .val (.int xm), .val (.int xl), .val (.int xq), .val (.ref ra), .val (.ref sx), .val (.ref aF), .val (.ref ro)] [(.ref aF)]))
            refine own_Go.st (fun _ kt => XS.aload X97.here hx rfl (hb hby at_297) rfl rfl kt) ?_
            show own_Go p e below _ (T97.setTop (mkF m 299 #[.val (.int p0), .val (.long p1), .second, .val (.int p2), .val (.int xm), .val (.int xl), .val (.int xq), .val (.ref ra), .val (.ref sx), .val (.ref aF), .val (.ref ro)] [(.ref aF), (.ref aF)]))
            refine own_Go.st (fun _ kt => Jvm.RoadKit.acmp (g := (mkF m 299 #[.val (.int p0), .val (.long p1), .second, .val (.int p2), .val (.int xm), .val (.int xl), .val (.int xq), .val (.ref ra), .val (.ref sx), .val (.ref aF), .val (.ref ro)] [(.ref aF), (.ref aF)])) X97 hx rfl rfl rfl (pc0 := 299) (pc' := 302) (same := true) rfl (hb hby at_299) rfl (decide_eq_true rfl) (by decide) (by decide) kt) ?_
            show own_Go p e below _ (T97.setTop (mkF m 302 #[.val (.int p0), .val (.long p1), .second, .val (.int p2), .val (.int xm), .val (.int xl), .val (.int xq), .val (.ref ra), .val (.ref sx), .val (.ref aF), .val (.ref ro)] []))
            refine own_Go.st (fun _ kt => XS.iconst X97.here hx rfl (hb hby at_302) kt) ?_
            show own_Go p e below _ (T97.setTop (mkF m 303 #[.val (.int p0), .val (.long p1), .second, .val (.int p2), .val (.int xm), .val (.int xl), .val (.int xq), .val (.ref ra), .val (.ref sx), .val (.ref aF), .val (.ref ro)] [(.int (1 : Int32))]))
            refine own_Go.st (fun _ kt => XS.goto X97.here hx rfl (pc0 := 303) (pc' := 307) rfl (hb hby at_303) (by decide) (by decide) kt) ?_
            show own_Go p e below _ (T97.setTop (mkF m 307 #[.val (.int p0), .val (.long p1), .second, .val (.int p2), .val (.int xm), .val (.int xl), .val (.int xq), .val (.ref ra), .val (.ref sx), .val (.ref aF), .val (.ref ro)] [(.int (1 : Int32))]))
            exact own_retWZ X97 hx Bd.notSynchronized Bd.returns hS68 (Nat.le_trans hk95 (Nat.le_of_eq (congrArg Array.size hh97).symm)) (Or.inr rfl) (hb hby at_307) (by decide) (by decide) ⟨rfl, N97⟩
          · show own_Go p e below _ (T75.setTop (mkF m 250 #[.val (.int p0), .val (.long p1), .second, .val (.int p2), .val (.int xm), .val (.int xl), .val (.int xq), .val (.ref ra), .val (.ref sx), .val .null, .unset] [(.int (0 : Int32))]))
            refine own_Go.st (fun _ kt => XS.ifYes X75.here hx rfl (pc0 := 250) (pc' := 258) rfl (hb hby at_250) rfl ((if0 _ _).trans (teq rfl).1) (by decide) (by decide) kt) ?_
            show own_Go p e below _ (T75.setTop (mkF m 258 #[.val (.int p0), .val (.long p1), .second, .val (.int p2), .val (.int xm), .val (.int xl), .val (.int xq), .val (.ref ra), .val (.ref sx), .val .null, .unset] []))
            refine own_Go.st (fun _ kt => XS.aload X75.here hx rfl (hb hby at_258) rfl rfl kt) ?_
            show own_Go p e below _ (T75.setTop (mkF m 260 #[.val (.int p0), .val (.long p1), .second, .val (.int p2), .val (.int xm), .val (.int xl), .val (.int xq), .val (.ref ra), .val (.ref sx), .val .null, .unset] [(.ref sx)]))
            have f98 := (((own_stakeep (own_stakeep (z_S_VALUES.ext E28) KF31 (fun x hx _ _ => absurd hx List.not_mem_nil)) KF36 (own_nst f33)).ext E38).ext E68)
            have f99 := (((((z_A_rv.ext E28).keep KF31 nin0).keep KF36 (ninS ne_rv_sx nin0)).ext E38).ext E68)
            have f100 := (((((z_E_rv.ext E28).keep KF31).keep KF36).ext E38).ext E68)
            have f101 := (((((z_F_aE_apiName.ext E28).keep KF31 nin0).keep KF36 (ninS ne_aE_sx nin0)).ext E38).ext E68)
            have f102 := (((((z_F_aF_apiName.ext E28).keep KF31 nin0).keep KF36 (ninS ne_aF_sx nin0)).ext E38).ext E68)
            have f103 := (((((z_E_nE.ext E28).keep KF31).keep KF36).ext E38).ext E68)
            have f104 := (((((z_F_nE_coder.ext E28).keep KF31 nin0).keep KF36 (ninS ne_nE_sx nin0)).ext E38).ext E68)
            have f105 := (((((z_F_nE_value.ext E28).keep KF31 nin0).keep KF36 (ninS ne_nE_sx nin0)).ext E38).ext E68)
            have f106 := (((((z_A_bE.ext E28).keep KF31 nin0).keep KF36 (ninS ne_bE_sx nin0)).ext E38).ext E68)
            have f107 := (((((z_E_nF.ext E28).keep KF31).keep KF36).ext E38).ext E68)
            have f108 := (((((z_F_nF_coder.ext E28).keep KF31 nin0).keep KF36 (ninS ne_nF_sx nin0)).ext E38).ext E68)
            have f109 := (((((z_F_nF_value.ext E28).keep KF31 nin0).keep KF36 (ninS ne_nF_sx nin0)).ext E38).ext E68)
            have f110 := (((((z_A_bF.ext E28).keep KF31 nin0).keep KF36 (ninS ne_bF_sx nin0)).ext E38).ext E68)
            have f111 := (((own_stakeep (own_stakeep (z_S_EMPTY.ext E28) KF31 (fun x hx _ _ => absurd hx List.not_mem_nil)) KF36 (own_nst f33)).ext E38).ext E68)
            have f112 := (((((z_E_ro0.ext E28).keep KF31).keep KF36).ext E38).ext E68)
            have f113 := (((((z_F_ro0_value.ext E28).keep KF31 nin0).keep KF36 (ninS ne_ro0_sx nin0)).ext E38).ext E68)
            obtain ⟨_, _, ⟨T114, L114, k114, n114⟩, -, X114, ⟨Lc114, hQ114, l114, y114, z114⟩, st114⟩ := Jvm.LawKit.callS X75 hx (y := (⟨"com/example/marshal/marshal/variables/VariableType", "named", "(Ljava/lang/String;)Ljava/util/Optional;"⟩ : MethodName)) ho68 (mvT hZ68 (hw _ (List.mem_of_getElem? (i := 43) rfl))) (mvT hZ68 (hw _ (List.mem_of_getElem? (i := 44) rfl))) (mvT hZ68 (hw _ (List.mem_of_getElem? (i := 45) rfl))) (mvT hZ68 (hw _ (List.mem_of_getElem? (i := 46) rfl))) (by decide) (backOf (W := 0) (own_named l Z a0 hw [] sx rb 0 (fun _ => (0 : Int32)) rv fv aE aF nE nF bE bF ro0 zc h68 n0 zz69 ⟨f70, f71, f72, f73⟩ (by decide) f98 f99 f100 (own_fit_keep aV kk69 hF) f101 f102 ⟨f103, f104, f105, f106⟩ ⟨f107, f108, f109, f110⟩ hv0 hv1 f111 f112 f113 f74 hzc) hZ68 (hw _ (List.mem_of_getElem? (i := 46) rfl)) (hw _ (List.mem_of_getElem? (i := 45) rfl)) (by decide) (by decide)) (g := (mkF m 260 #[.val (.int p0), .val (.long p1), .second, .val (.int p2), .val (.int xm), .val (.int xl), .val (.int xq), .val (.ref ra), .val (.ref sx), .val .null, .unset] [(.ref sx)])) rfl (by rw [hml]; rfl) (argsL := [(.ref sx)]) (rest := []) (lenOf own_pd14 rfl) rfl (by show 2 * 0 + _ ≤ _; exact Nat.le_of_eq rfl) (hb hby at_260) (fun _ _ => ⟨rfl, hh75, (by decide : 9 + 2 ≤ _), (by decide : 76 + 3 ≤ _)⟩)
            dsimp only [Pt.U, Pt.locs, Pt.cells, Pt.slots] at X114 l114 y114 z114 st114 hQ114
            subst l114 y114 z114
            obtain ⟨ro, u, rfl, N114q, eo114, fo114, nn114, KF114⟩ := hQ114
            have N114 := Fr.app N75 N114q
            refine own_Go.st (fun _ kt => st114 _ kt) ?_
            have zz115 : n0 ≤ Array.size T114.heap := Nat.le_trans zz69 KF114.1
            have kk115 : Keep h0 T114.heap [] := kk69.trans KF114 all0
            have hk115 : k68 ≤ Array.size T114.heap := Nat.le_trans hk68 KF114.1
            show own_Go p e below _ (T114.setTop (mkF m 263 #[.val (.int p0), .val (.long p1), .second, .val (.int p2), .val (.int xm), .val (.int xl), .val (.int xq), .val (.ref ra), .val (.ref sx), .val .null, .unset] [(.ref ro)]))
            refine own_Go.st (fun _ kt => XS.astore X114.here hx rfl (hb hby at_263) rfl rfl (l' := #[.val (.int p0), .val (.long p1), .second, .val (.int p2), .val (.int xm), .val (.int xl), .val (.int xq), .val (.ref ra), .val (.ref sx), .val .null, .val (.ref ro)]) rfl kt) ?_
            show own_Go p e below _ (T114.setTop (mkF m 265 #[.val (.int p0), .val (.long p1), .second, .val (.int p2), .val (.int xm), .val (.int xl), .val (.int xq), .val (.ref ra), .val (.ref sx), .val .null, .val (.ref ro)] []))
            refine own_Go.st (fun _ kt => XS.aload X114.here hx rfl (hb hby at_265) rfl rfl kt) ?_
            show own_Go p e below _ (T114.setTop (mkF m 267 #[.val (.int p0), .val (.long p1), .second, .val (.int p2), .val (.int xm), .val (.int xl), .val (.int xq), .val (.ref ra), .val (.ref sx), .val .null, .val (.ref ro)] [.null]))
            refine own_Go.st (fun _ kt => XS.ifnonnullNo X114.here hx rfl (hb hby at_267) rfl kt) ?_
            show own_Go p e below _ (T114.setTop (mkF m 270 #[.val (.int p0), .val (.long p1), .second, .val (.int p2), .val (.int xm), .val (.int xl), .val (.int xq), .val (.ref ra), .val (.ref sx), .val .null, .val (.ref ro)] []))
            have hu : u = .null := by
              rcases nn114 with ⟨q, e⟩ | ⟨q, q', e⟩ | ⟨q, q', e⟩
              · exact absurd (own_eqt_symm q) q0
              · exact absurd (own_eqt_symm q') q1
              · exact e
            subst hu
            refine own_Go.st (fun _ kt => XS.aload X114.here hx rfl (hb hby at_270) rfl rfl kt) ?_
            show own_Go p e below _ (T114.setTop (mkF m 272 #[.val (.int p0), .val (.long p1), .second, .val (.int p2), .val (.int xm), .val (.int xl), .val (.int xq), .val (.ref ra), .val (.ref sx), .val .null, .val (.ref ro)] [(.ref ro)]))
            obtain ⟨cq116, kq116, q116a, q116b, q116c⟩ := isOf hZ68 rfl eo114
            obtain ⟨_, _, ⟨T116, L116, k116, n116⟩, -, X116, ⟨Lc116, hQ116, l116, y116, z116⟩, st116⟩ := X114.virtualBack hx (y := (⟨"java/util/Optional", "isPresent", "()Z"⟩ : MethodName)) (z := (⟨"java/util/Optional", "isPresent", "()Z"⟩ : MethodName)) ho68 (mvT hZ68 (hw _ (List.mem_of_getElem? (i := 72) rfl))) (mvT hZ68 (hw _ (List.mem_of_getElem? (i := 73) rfl))) (notFace_of_selects (args := #[]) (mvT hZ68 (hw _ (List.mem_of_getElem? (i := 75) rfl)))) (mvT hZ68 (hw _ (List.mem_of_getElem? (i := 75) rfl))) (mvT hZ68 (hw _ (List.mem_of_getElem? (i := 74) rfl))) (by decide) (backOf (W := 0) (own_isP0 l Z a0 hw [] ro ro T114.heap n0 zz115 fo114) hZ68 (hw _ (List.mem_of_getElem? (i := 76) rfl)) (hw _ (List.mem_of_getElem? (i := 69) rfl)) (by decide) (by decide)) q116a q116c (g := (mkF m 272 #[.val (.int p0), .val (.long p1), .second, .val (.int p2), .val (.int xm), .val (.int xl), .val (.int xq), .val (.ref ra), .val (.ref sx), .val .null, .val (.ref ro)] [(.ref ro)])) rfl (by rw [hml]; rfl) (Steps.refl _) (argsL := []) (rest := []) (lenOf own_pd15 rfl) rfl (by show 2 * 0 + _ ≤ _; exact Nat.le_of_eq rfl) (hb hby at_272) (fun _ _ => ⟨rfl, rfl, (by decide : 11 + 0 ≤ _), (by decide : 79 + 0 ≤ _)⟩)
            dsimp only [Pt.U, Pt.locs, Pt.cells, Pt.slots] at X116 l116 y116 z116 st116 hQ116
            subst l116 y116 z116
            obtain ⟨rfl, N116q, hh116⟩ := hQ116
            have N116 := Fr.app N114 N116q
            refine own_Go.st (fun _ kt => st116.trans kt) ?_
            show own_Go p e below _ (T116.setTop (mkF m 275 #[.val (.int p0), .val (.long p1), .second, .val (.int p2), .val (.int xm), .val (.int xl), .val (.int xq), .val (.ref ra), .val (.ref sx), .val .null, .val (.ref ro)] [(.int (0 : Int32))]))
            refine own_Go.st (fun _ kt => XS.ifNo X116.here hx rfl (hb hby at_275) rfl ((if0 _ _).trans (teq rfl).2) kt) ?_
            show own_Go p e below _ (T116.setTop (mkF m 278 #[.val (.int p0), .val (.long p1), .second, .val (.int p2), .val (.int xm), .val (.int xl), .val (.int xq), .val (.ref ra), .val (.ref sx), .val .null, .val (.ref ro)] []))
            refine own_Go.st (fun _ kt => XS.iconst X116.here hx rfl (hb hby at_278) kt) ?_
            show own_Go p e below _ (T116.setTop (mkF m 279 #[.val (.int p0), .val (.long p1), .second, .val (.int p2), .val (.int xm), .val (.int xl), .val (.int xq), .val (.ref ra), .val (.ref sx), .val .null, .val (.ref ro)] [(.int (1 : Int32))]))
            refine own_Go.st (fun _ kt => XS.goto X116.here hx rfl (pc0 := 279) (pc' := 283) rfl (hb hby at_279) (by decide) (by decide) kt) ?_
            show own_Go p e below _ (T116.setTop (mkF m 283 #[.val (.int p0), .val (.long p1), .second, .val (.int p2), .val (.int xm), .val (.int xl), .val (.int xq), .val (.ref ra), .val (.ref sx), .val .null, .val (.ref ro)] [(.int (1 : Int32))]))
            exact own_retWZ X116 hx Bd.notSynchronized Bd.returns hS68 (Nat.le_trans hk115 (Nat.le_of_eq (congrArg Array.size hh116).symm)) (Or.inr rfl) (hb hby at_283) (by decide) (by decide) ⟨rfl, N116⟩
      · have f117 := (A28.keep KF31)
        have f118 := (D28_value.keep KF31 nin0)
        have f119 := (D28_coder.keep KF31 nin0)
        have f120 := (own_stakeep (z_S_cs.ext E28) KF31 (fun x hx _ _ => absurd hx List.not_mem_nil))
        obtain ⟨_, _, ⟨T121, L121, k121, n121⟩, -, X121, ⟨Lc121, hQ121, l121, y121, z121⟩, st121⟩ := X31.specialBack hx (y := (⟨"java/lang/String", "<init>", "([C)V"⟩ : MethodName)) rfl hown (mvT hZ (hw _ (List.mem_of_getElem? (i := 12) rfl))) (mvT hZ (hw _ (List.mem_of_getElem? (i := 13) rfl))) (mvT hZ (hw _ (List.mem_of_getElem? (i := 14) rfl))) (by decide) (backOf (W := 1) (own_s1 l Z a0 hw [] sx rt xl n ff zc T31.heap n0 zz32 f117 f118 f119 n0_sx at31 hn hl (Nat.pos_of_ne_zero hz) (fun j hj => hff j (by omega)) f120 hzc) hZ (hw _ (List.mem_of_getElem? (i := 14) rfl)) (hw _ (List.mem_of_getElem? (i := 8) rfl)) (by decide) (by decide)) (g := (mkF m 217 #[.val (.int p0), .val (.long p1), .second, .val (.int p2), .val (.int xm), .val (.int xl), .val (.int xq), .val (.ref ra), .unset, .unset, .unset] [(.ref rt), (.ref sx), (.ref sx)])) rfl (by rw [hml]; rfl) (Steps.refl _) (a := sx) (argsL := [(.ref rt)]) (rest := [(.ref sx)]) (lenOf own_pd13 rfl) rfl (by show 2 * 0 + _ ≤ _; exact Nat.le_of_eq rfl) (hb hby at_217) (fun _ _ => ⟨rfl, rfl, (by decide : 3 + 1 ≤ _), (by decide : 20 + 8 ≤ _)⟩)
        dsimp only [Pt.U, Pt.locs, Pt.cells, Pt.slots] at X121 l121 y121 z121 st121 hQ121
        subst l121 y121 z121
        obtain ⟨rb, rfl, N121q, st_121, bb121, KF121⟩ := hQ121
        have N121 := Fr.app N31 N121q
        refine own_Go.st (fun _ kt => st121.trans kt) ?_
        have zz122 : n0 ≤ Array.size T121.heap := Nat.le_trans zz32 KF121.1
        have kk122 : Keep h0 T121.heap [] := kk32.trans KF121 (allS (P := fun x => x ∈ [] ∨ _) (Or.inr b_sx) all0)
        have hk122 : Array.size h0 ≤ Array.size T121.heap := Nat.le_trans hk32 KF121.1
        show own_Go p e below _ (T121.setTop (mkF m 220 #[.val (.int p0), .val (.long p1), .second, .val (.int p2), .val (.int xm), .val (.int xl), .val (.int xq), .val (.ref ra), .unset, .unset, .unset] [(.ref sx)]))
        refine own_Go.st (fun _ kt => XS.astore X121.here hx rfl (hb hby at_220) rfl rfl (l' := #[.val (.int p0), .val (.long p1), .second, .val (.int p2), .val (.int xm), .val (.int xl), .val (.int xq), .val (.ref ra), .val (.ref sx), .unset, .unset]) rfl kt) ?_
        show own_Go p e below _ (T121.setTop (mkF m 222 #[.val (.int p0), .val (.long p1), .second, .val (.int p2), .val (.int xm), .val (.int xl), .val (.int xq), .val (.ref ra), .val (.ref sx), .unset, .unset] []))
        refine own_Go.st (fun _ kt => XS.aconstNull X121.here hx rfl (hb hby at_222) kt) ?_
        show own_Go p e below _ (T121.setTop (mkF m 223 #[.val (.int p0), .val (.long p1), .second, .val (.int p2), .val (.int xm), .val (.int xl), .val (.int xq), .val (.ref ra), .val (.ref sx), .unset, .unset] [.null]))
        refine own_Go.st (fun _ kt => XS.astore X121.here hx rfl (hb hby at_223) rfl rfl (l' := #[.val (.int p0), .val (.long p1), .second, .val (.int p2), .val (.int xm), .val (.int xl), .val (.int xq), .val (.ref ra), .val (.ref sx), .val .null, .unset]) rfl kt) ?_
        show own_Go p e below _ (T121.setTop (mkF m 225 #[.val (.int p0), .val (.long p1), .second, .val (.int p2), .val (.int xm), .val (.int xl), .val (.int xq), .val (.ref ra), .val (.ref sx), .val .null, .unset] []))
        refine own_Go.st (fun _ kt => XS.aload X121.here hx rfl (hb hby at_225) rfl rfl kt) ?_
        show own_Go p e below _ (T121.setTop (mkF m 227 #[.val (.int p0), .val (.long p1), .second, .val (.int p2), .val (.int xm), .val (.int xl), .val (.int xq), .val (.ref ra), .val (.ref sx), .val .null, .unset] [(.ref sx)]))
        obtain ⟨cE, T123, h123, k123, bcE, kb123, X123, e123, E123, hS123, hk123, hZ123, ho123, Ex123, Cd123, Vl123, Av123, -, -, ib123, Lt123, st123⟩ := ldcSVL X121 hx hZ hown (hw _ (List.mem_of_getElem? (i := 30) rfl)) (own_strAtoms hw) rfl hS0 hk122 (by show Fr (Array.size s.heap) _; rw [hh, ← hn0]; exact N121) (fun b cl q => by show s.heap[b]? = some cl; rw [hh]; exact hkp b cl q) hIB (by decide) heldE hcw (vs := ([101, 110, 118, 95, 118, 97, 114] : List Int32).map Value.int) (z := (7 : Int32)) ⟨by decide, by decide⟩ (by decide) rfl (g := (mkF m 227 #[.val (.int p0), .val (.long p1), .second, .val (.int p2), .val (.int xm), .val (.int xl), .val (.int xq), .val (.ref ra), .val (.ref sx), .val .null, .unset] [(.ref sx)])) rfl (hb hby at_227) (n := 28) (by decide) (by decide) (by decide) (by decide)
        refine own_Go.st st123 ?_
        have zz124 : n0 ≤ Array.size h123 := Nat.le_trans zz122 E123.1
        have kk124 : Keep h0 h123 [] := kk122.ext E123
        have sa123 := (own_Ar.arv Av123 (n := 7) rfl).congr (fun j _ => own_getD_map ([101, 110, 118, 95, 118, 97, 114] : List Int32) j)
        show own_Go p e below _ (T123.setTop (mkF m 229 #[.val (.int p0), .val (.long p1), .second, .val (.int p2), .val (.int xm), .val (.int xl), .val (.int xq), .val (.ref ra), .val (.ref sx), .val .null, .unset] [(.ref cE), (.ref sx)]))
        skip
        have f125 := (st_121.1.ext E123)
        have f126 := (st_121.2.1.ext E123)
        have f127 := (st_121.2.2.1.ext E123)
        have f128 := (st_121.2.2.2.ext E123)
        have f129 := ((own_stakeep f120 KF121 (own_nst f117)).ext E123)
        obtain ⟨cq130, kq130, q130a, q130b, q130c⟩ := isOf hZ123 e123 f125
        obtain ⟨_, _, ⟨T130, L130, k130, n130⟩, -, X130, ⟨Lc130, hQ130, l130, y130, z130⟩, st130⟩ := X123.virtualBack hx (y := (⟨"java/lang/String", "equals", "(Ljava/lang/Object;)Z"⟩ : MethodName)) (z := (⟨"java/lang/String", "equals", "(Ljava/lang/Object;)Z"⟩ : MethodName)) ho123 (mvT hZ123 (hw _ (List.mem_of_getElem? (i := 31) rfl))) (mvT hZ123 (hw _ (List.mem_of_getElem? (i := 32) rfl))) (notFace_of_selects (args := #[]) (mvT hZ123 (hw _ (List.mem_of_getElem? (i := 34) rfl)))) (mvT hZ123 (hw _ (List.mem_of_getElem? (i := 34) rfl))) (mvT hZ123 (hw _ (List.mem_of_getElem? (i := 33) rfl))) (by decide) (backOf (W := 0) (own_eq l Z a0 hw [] sx cE rb bcE n 7 (fun j => (ff j).toInt8.toInt32) (fun j => ([101, 110, 118, 95, 118, 97, 114] : List Int32).getD j 0) zc h123 n0 zz124 ⟨f125, f126, f127, f128⟩ ⟨Ex123, Cd123, Vl123, sa123⟩ f129 hzc hl (by decide)) hZ123 (hw _ (List.mem_of_getElem? (i := 35) rfl)) (hw _ (List.mem_of_getElem? (i := 8) rfl)) (by decide) (by decide)) q130a q130c (g := (mkF m 229 #[.val (.int p0), .val (.long p1), .second, .val (.int p2), .val (.int xm), .val (.int xl), .val (.int xq), .val (.ref ra), .val (.ref sx), .val .null, .unset] [(.ref cE), (.ref sx)])) rfl (by rw [hml]; rfl) (Steps.refl _) (argsL := [(.ref cE)]) (rest := []) (lenOf own_pd8 rfl) rfl (by show 2 * 0 + _ ≤ _; exact Nat.le_of_eq rfl) (hb hby at_229) (fun _ _ => ⟨rfl, e123, (by decide : 6 + 0 ≤ _), (by decide : 60 + 0 ≤ _)⟩)
        dsimp only [Pt.U, Pt.locs, Pt.cells, Pt.slots] at X130 l130 y130 z130 st130 hQ130
        subst l130 y130 z130
        obtain ⟨z0, rfl, N130q, hB130, hh130⟩ := hQ130
        have N130 := Fr.app N121 N130q
        refine own_Go.st (fun _ kt => st130.trans kt) ?_
        show own_Go p e below _ (T130.setTop (mkF m 232 #[.val (.int p0), .val (.long p1), .second, .val (.int p2), .val (.int xm), .val (.int xl), .val (.int xq), .val (.ref ra), .val (.ref sx), .val .null, .unset] [(.int z0)]))
        rcases hB130 with ⟨rfl, q0⟩ | ⟨rfl, q0⟩
        · show own_Go p e below _ (T130.setTop (mkF m 232 #[.val (.int p0), .val (.long p1), .second, .val (.int p2), .val (.int xm), .val (.int xl), .val (.int xq), .val (.ref ra), .val (.ref sx), .val .null, .unset] [(.int (1 : Int32))]))
          refine own_Go.st (fun _ kt => XS.ifNo X130.here hx rfl (hb hby at_232) rfl ((if0 _ _).trans (feq (by decide)).1) kt) ?_
          show own_Go p e below _ (T130.setTop (mkF m 235 #[.val (.int p0), .val (.long p1), .second, .val (.int p2), .val (.int xm), .val (.int xl), .val (.int xq), .val (.ref ra), .val (.ref sx), .val .null, .unset] []))
          have f131 := ((own_stakeep (own_stakeep (z_S_ENV_VAR.ext E28) KF31 (fun x hx _ _ => absurd hx List.not_mem_nil)) KF121 (own_nst f117)).ext E123)
          obtain ⟨T132, X132, e132, st132⟩ := getS2 X130 hx hZ123 ho123 (host := "") (Or.inl (hw _ (List.mem_of_getElem? (i := 109) rfl))) Via.refl hh130 f131 (g := (mkF m 235 #[.val (.int p0), .val (.long p1), .second, .val (.int p2), .val (.int xm), .val (.int xl), .val (.int xq), .val (.ref ra), .val (.ref sx), .val .null, .unset] [])) rfl (hb hby at_235)
          refine own_Go.st st132 ?_
          show own_Go p e below _ (T132.setTop (mkF m 238 #[.val (.int p0), .val (.long p1), .second, .val (.int p2), .val (.int xm), .val (.int xl), .val (.int xq), .val (.ref ra), .val (.ref sx), .val .null, .unset] [(.ref aE)]))
          refine own_Go.st (fun _ kt => XS.astore X132.here hx rfl (hb hby at_238) rfl rfl (l' := #[.val (.int p0), .val (.long p1), .second, .val (.int p2), .val (.int xm), .val (.int xl), .val (.int xq), .val (.ref ra), .val (.ref sx), .val (.ref aE), .unset]) rfl kt) ?_
          show own_Go p e below _ (T132.setTop (mkF m 240 #[.val (.int p0), .val (.long p1), .second, .val (.int p2), .val (.int xm), .val (.int xl), .val (.int xq), .val (.ref ra), .val (.ref sx), .val (.ref aE), .unset] []))
          refine own_Go.st (fun _ kt => XS.goto X132.here hx rfl (pc0 := 240) (pc' := 258) rfl (hb hby at_240) (by decide) (by decide) kt) ?_
          show own_Go p e below _ (T132.setTop (mkF m 258 #[.val (.int p0), .val (.long p1), .second, .val (.int p2), .val (.int xm), .val (.int xl), .val (.int xq), .val (.ref ra), .val (.ref sx), .val (.ref aE), .unset] []))
          refine own_Go.st (fun _ kt => XS.aload X132.here hx rfl (hb hby at_258) rfl rfl kt) ?_
          show own_Go p e below _ (T132.setTop (mkF m 260 #[.val (.int p0), .val (.long p1), .second, .val (.int p2), .val (.int xm), .val (.int xl), .val (.int xq), .val (.ref ra), .val (.ref sx), .val (.ref aE), .unset] [(.ref sx)]))
          have f133 := ((own_stakeep (own_stakeep (z_S_VALUES.ext E28) KF31 (fun x hx _ _ => absurd hx List.not_mem_nil)) KF121 (own_nst f117)).ext E123)
          have f134 := ((((z_A_rv.ext E28).keep KF31 nin0).keep KF121 (ninS ne_rv_sx nin0)).ext E123)
          have f135 := ((((z_E_rv.ext E28).keep KF31).keep KF121).ext E123)
          have f136 := ((((z_F_aE_apiName.ext E28).keep KF31 nin0).keep KF121 (ninS ne_aE_sx nin0)).ext E123)
          have f137 := ((((z_F_aF_apiName.ext E28).keep KF31 nin0).keep KF121 (ninS ne_aF_sx nin0)).ext E123)
          have f138 := ((((z_E_nE.ext E28).keep KF31).keep KF121).ext E123)
          have f139 := ((((z_F_nE_coder.ext E28).keep KF31 nin0).keep KF121 (ninS ne_nE_sx nin0)).ext E123)
          have f140 := ((((z_F_nE_value.ext E28).keep KF31 nin0).keep KF121 (ninS ne_nE_sx nin0)).ext E123)
          have f141 := ((((z_A_bE.ext E28).keep KF31 nin0).keep KF121 (ninS ne_bE_sx nin0)).ext E123)
          have f142 := ((((z_E_nF.ext E28).keep KF31).keep KF121).ext E123)
          have f143 := ((((z_F_nF_coder.ext E28).keep KF31 nin0).keep KF121 (ninS ne_nF_sx nin0)).ext E123)
          have f144 := ((((z_F_nF_value.ext E28).keep KF31 nin0).keep KF121 (ninS ne_nF_sx nin0)).ext E123)
          have f145 := ((((z_A_bF.ext E28).keep KF31 nin0).keep KF121 (ninS ne_bF_sx nin0)).ext E123)
          have f146 := ((own_stakeep (own_stakeep (z_S_EMPTY.ext E28) KF31 (fun x hx _ _ => absurd hx List.not_mem_nil)) KF121 (own_nst f117)).ext E123)
          have f147 := ((((z_E_ro0.ext E28).keep KF31).keep KF121).ext E123)
          have f148 := ((((z_F_ro0_value.ext E28).keep KF31 nin0).keep KF121 (ninS ne_ro0_sx nin0)).ext E123)
          obtain ⟨_, _, ⟨T149, L149, k149, n149⟩, -, X149, ⟨Lc149, hQ149, l149, y149, z149⟩, st149⟩ := Jvm.LawKit.callS X132 hx (y := (⟨"com/example/marshal/marshal/variables/VariableType", "named", "(Ljava/lang/String;)Ljava/util/Optional;"⟩ : MethodName)) ho123 (mvT hZ123 (hw _ (List.mem_of_getElem? (i := 43) rfl))) (mvT hZ123 (hw _ (List.mem_of_getElem? (i := 44) rfl))) (mvT hZ123 (hw _ (List.mem_of_getElem? (i := 45) rfl))) (mvT hZ123 (hw _ (List.mem_of_getElem? (i := 46) rfl))) (by decide) (backOf (W := 0) (own_named l Z a0 hw [] sx rb n (fun j => (ff j).toInt8.toInt32) rv fv aE aF nE nF bE bF ro0 zc h123 n0 zz124 ⟨f125, f126, f127, f128⟩ hl f133 f134 f135 (own_fit_keep aV kk124 hF) f136 f137 ⟨f138, f139, f140, f141⟩ ⟨f142, f143, f144, f145⟩ hv0 hv1 f146 f147 f148 f129 hzc) hZ123 (hw _ (List.mem_of_getElem? (i := 46) rfl)) (hw _ (List.mem_of_getElem? (i := 45) rfl)) (by decide) (by decide)) (g := (mkF m 260 #[.val (.int p0), .val (.long p1), .second, .val (.int p2), .val (.int xm), .val (.int xl), .val (.int xq), .val (.ref ra), .val (.ref sx), .val (.ref aE), .unset] [(.ref sx)])) rfl (by rw [hml]; rfl) (argsL := [(.ref sx)]) (rest := []) (lenOf own_pd14 rfl) rfl (by show 2 * 0 + _ ≤ _; exact Nat.le_of_eq rfl) (hb hby at_260) (fun _ _ => ⟨rfl, e132, (by decide : 6 + 2 ≤ _), (by decide : 60 + 3 ≤ _)⟩)
          dsimp only [Pt.U, Pt.locs, Pt.cells, Pt.slots] at X149 l149 y149 z149 st149 hQ149
          subst l149 y149 z149
          obtain ⟨ro, u, rfl, N149q, eo149, fo149, nn149, KF149⟩ := hQ149
          have N149 := Fr.app N130 N149q
          refine own_Go.st (fun _ kt => st149 _ kt) ?_
          have zz150 : n0 ≤ Array.size T149.heap := Nat.le_trans zz124 KF149.1
          have kk150 : Keep h0 T149.heap [] := kk124.trans KF149 all0
          have hk150 : k123 ≤ Array.size T149.heap := Nat.le_trans hk123 KF149.1
          show own_Go p e below _ (T149.setTop (mkF m 263 #[.val (.int p0), .val (.long p1), .second, .val (.int p2), .val (.int xm), .val (.int xl), .val (.int xq), .val (.ref ra), .val (.ref sx), .val (.ref aE), .unset] [(.ref ro)]))
          refine own_Go.st (fun _ kt => XS.astore X149.here hx rfl (hb hby at_263) rfl rfl (l' := #[.val (.int p0), .val (.long p1), .second, .val (.int p2), .val (.int xm), .val (.int xl), .val (.int xq), .val (.ref ra), .val (.ref sx), .val (.ref aE), .val (.ref ro)]) rfl kt) ?_
          show own_Go p e below _ (T149.setTop (mkF m 265 #[.val (.int p0), .val (.long p1), .second, .val (.int p2), .val (.int xm), .val (.int xl), .val (.int xq), .val (.ref ra), .val (.ref sx), .val (.ref aE), .val (.ref ro)] []))
          refine own_Go.st (fun _ kt => XS.aload X149.here hx rfl (hb hby at_265) rfl rfl kt) ?_
          show own_Go p e below _ (T149.setTop (mkF m 267 #[.val (.int p0), .val (.long p1), .second, .val (.int p2), .val (.int xm), .val (.int xl), .val (.int xq), .val (.ref ra), .val (.ref sx), .val (.ref aE), .val (.ref ro)] [(.ref aE)]))
          refine own_Go.st (fun _ kt => XS.ifnonnullYes X149.here hx rfl (pc0 := 267) (pc' := 284) rfl (hb hby at_267) rfl (by decide) (by decide) kt) ?_
          show own_Go p e below _ (T149.setTop (mkF m 284 #[.val (.int p0), .val (.long p1), .second, .val (.int p2), .val (.int xm), .val (.int xl), .val (.int xq), .val (.ref ra), .val (.ref sx), .val (.ref aE), .val (.ref ro)] []))
          have hu : u = .ref aE := by
            rcases nn149 with ⟨q, e⟩ | ⟨q, q', e⟩ | ⟨q, q', e⟩
            · exact e
            · exact absurd (own_eqt_symm q0) q
            · exact absurd (own_eqt_symm q0) q
          subst hu
          refine own_Go.st (fun _ kt => XS.aload X149.here hx rfl (hb hby at_284) rfl rfl kt) ?_
          show own_Go p e below _ (T149.setTop (mkF m 286 #[.val (.int p0), .val (.long p1), .second, .val (.int p2), .val (.int xm), .val (.int xl), .val (.int xq), .val (.ref ra), .val (.ref sx), .val (.ref aE), .val (.ref ro)] [(.ref ro)]))
          obtain ⟨cq151, kq151, q151a, q151b, q151c⟩ := isOf hZ123 rfl eo149
          obtain ⟨_, _, ⟨T151, L151, k151, n151⟩, -, X151, ⟨Lc151, hQ151, l151, y151, z151⟩, st151⟩ := X149.virtualBack hx (y := (⟨"java/util/Optional", "isPresent", "()Z"⟩ : MethodName)) (z := (⟨"java/util/Optional", "isPresent", "()Z"⟩ : MethodName)) ho123 (mvT hZ123 (hw _ (List.mem_of_getElem? (i := 72) rfl))) (mvT hZ123 (hw _ (List.mem_of_getElem? (i := 73) rfl))) (notFace_of_selects (args := #[]) (mvT hZ123 (hw _ (List.mem_of_getElem? (i := 75) rfl)))) (mvT hZ123 (hw _ (List.mem_of_getElem? (i := 75) rfl))) (mvT hZ123 (hw _ (List.mem_of_getElem? (i := 74) rfl))) (by decide) (backOf (W := 0) (own_isP1 l Z a0 hw [] ro aE T149.heap n0 zz150 fo149) hZ123 (hw _ (List.mem_of_getElem? (i := 76) rfl)) (hw _ (List.mem_of_getElem? (i := 69) rfl)) (by decide) (by decide)) q151a q151c (g := (mkF m 286 #[.val (.int p0), .val (.long p1), .second, .val (.int p2), .val (.int xm), .val (.int xl), .val (.int xq), .val (.ref ra), .val (.ref sx), .val (.ref aE), .val (.ref ro)] [(.ref ro)])) rfl (by rw [hml]; rfl) (Steps.refl _) (argsL := []) (rest := []) (lenOf own_pd15 rfl) rfl (by show 2 * 0 + _ ≤ _; exact Nat.le_of_eq rfl) (hb hby at_286) (fun _ _ => ⟨rfl, rfl, (by decide : 8 + 0 ≤ _), (by decide : 63 + 0 ≤ _)⟩)
          dsimp only [Pt.U, Pt.locs, Pt.cells, Pt.slots] at X151 l151 y151 z151 st151 hQ151
          subst l151 y151 z151
          obtain ⟨rfl, N151q, hh151⟩ := hQ151
          have N151 := Fr.app N149 N151q
          refine own_Go.st (fun _ kt => st151.trans kt) ?_
          show own_Go p e below _ (T151.setTop (mkF m 289 #[.val (.int p0), .val (.long p1), .second, .val (.int p2), .val (.int xm), .val (.int xl), .val (.int xq), .val (.ref ra), .val (.ref sx), .val (.ref aE), .val (.ref ro)] [(.int (1 : Int32))]))
          refine own_Go.st (fun _ kt => XS.ifNo X151.here hx rfl (hb hby at_289) rfl ((if0 _ _).trans (feq (by decide)).1) kt) ?_
          show own_Go p e below _ (T151.setTop (mkF m 292 #[.val (.int p0), .val (.long p1), .second, .val (.int p2), .val (.int xm), .val (.int xl), .val (.int xq), .val (.ref ra), .val (.ref sx), .val (.ref aE), .val (.ref ro)] []))
          refine own_Go.st (fun _ kt => XS.aload X151.here hx rfl (hb hby at_292) rfl rfl kt) ?_
          show own_Go p e below _ (T151.setTop (mkF m 294 #[.val (.int p0), .val (.long p1), .second, .val (.int p2), .val (.int xm), .val (.int xl), .val (.int xq), .val (.ref ra), .val (.ref sx), .val (.ref aE), .val (.ref ro)] [(.ref ro)]))
          obtain ⟨cq152, kq152, q152a, q152b, q152c⟩ := isOf hZ123 hh151 eo149
          obtain ⟨_, _, ⟨T152, L152, k152, n152⟩, -, X152, ⟨Lc152, hQ152, l152, y152, z152⟩, st152⟩ := X151.virtualBack hx (y := (⟨"java/util/Optional", "get", "()Ljava/lang/Object;"⟩ : MethodName)) (z := (⟨"java/util/Optional", "get", "()Ljava/lang/Object;"⟩ : MethodName)) ho123 (mvT hZ123 (hw _ (List.mem_of_getElem? (i := 104) rfl))) (mvT hZ123 (hw _ (List.mem_of_getElem? (i := 105) rfl))) (notFace_of_selects (args := #[]) (mvT hZ123 (hw _ (List.mem_of_getElem? (i := 107) rfl)))) (mvT hZ123 (hw _ (List.mem_of_getElem? (i := 107) rfl))) (mvT hZ123 (hw _ (List.mem_of_getElem? (i := 106) rfl))) (by decide) (backOf (W := 0) (own_get l Z a0 hw [] ro aE T149.heap n0 zz150 fo149) hZ123 (hw _ (List.mem_of_getElem? (i := 108) rfl)) (hw _ (List.mem_of_getElem? (i := 69) rfl)) (by decide) (by decide)) q152a q152c (g := (mkF m 294 #[.val (.int p0), .val (.long p1), .second, .val (.int p2), .val (.int xm), .val (.int xl), .val (.int xq), .val (.ref ra), .val (.ref sx), .val (.ref aE), .val (.ref ro)] [(.ref ro)])) rfl (by rw [hml]; rfl) (Steps.refl _) (argsL := []) (rest := []) (lenOf own_pd16 rfl) rfl (by show 2 * 0 + _ ≤ _; exact Nat.le_of_eq rfl) (hb hby at_294) (fun _ _ => ⟨rfl, hh151, (by decide : 8 + 0 ≤ _), (by decide : 63 + 0 ≤ _)⟩)
          dsimp only [Pt.U, Pt.locs, Pt.cells, Pt.slots] at X152 l152 y152 z152 st152 hQ152
          subst l152 y152 z152
          obtain ⟨rfl, N152q, hh152⟩ := hQ152
          have N152 := Fr.app N151 N152q
          refine own_Go.st (fun _ kt => st152.trans kt) ?_
          show own_Go p e below _ (T152.setTop (mkF m 297 #[.val (.int p0), .val (.long p1), .second, .val (.int p2), .val (.int xm), .val (.int xl), .val (.int xq), .val (.ref ra), .val (.ref sx), .val (.ref aE), .val (.ref ro)] [(.ref aE)]))
          refine own_Go.st (fun _ kt => XS.aload X152.here hx rfl (hb hby at_297) rfl rfl kt) ?_
          show own_Go p e below _ (T152.setTop (mkF m 299 #[.val (.int p0), .val (.long p1), .second, .val (.int p2), .val (.int xm), .val (.int xl), .val (.int xq), .val (.ref ra), .val (.ref sx), .val (.ref aE), .val (.ref ro)] [(.ref aE), (.ref aE)]))
          refine own_Go.st (fun _ kt => Jvm.RoadKit.acmp (g := (mkF m 299 #[.val (.int p0), .val (.long p1), .second, .val (.int p2), .val (.int xm), .val (.int xl), .val (.int xq), .val (.ref ra), .val (.ref sx), .val (.ref aE), .val (.ref ro)] [(.ref aE), (.ref aE)])) X152 hx rfl rfl rfl (pc0 := 299) (pc' := 302) (same := true) rfl (hb hby at_299) rfl (decide_eq_true rfl) (by decide) (by decide) kt) ?_
          show own_Go p e below _ (T152.setTop (mkF m 302 #[.val (.int p0), .val (.long p1), .second, .val (.int p2), .val (.int xm), .val (.int xl), .val (.int xq), .val (.ref ra), .val (.ref sx), .val (.ref aE), .val (.ref ro)] []))
          refine own_Go.st (fun _ kt => XS.iconst X152.here hx rfl (hb hby at_302) kt) ?_
          show own_Go p e below _ (T152.setTop (mkF m 303 #[.val (.int p0), .val (.long p1), .second, .val (.int p2), .val (.int xm), .val (.int xl), .val (.int xq), .val (.ref ra), .val (.ref sx), .val (.ref aE), .val (.ref ro)] [(.int (1 : Int32))]))
          refine own_Go.st (fun _ kt => XS.goto X152.here hx rfl (pc0 := 303) (pc' := 307) rfl (hb hby at_303) (by decide) (by decide) kt) ?_
          show own_Go p e below _ (T152.setTop (mkF m 307 #[.val (.int p0), .val (.long p1), .second, .val (.int p2), .val (.int xm), .val (.int xl), .val (.int xq), .val (.ref ra), .val (.ref sx), .val (.ref aE), .val (.ref ro)] [(.int (1 : Int32))]))
          exact own_retWZ X152 hx Bd.notSynchronized Bd.returns hS123 (Nat.le_trans hk150 (Nat.le_of_eq (congrArg Array.size hh152).symm)) (Or.inr rfl) (hb hby at_307) (by decide) (by decide) ⟨rfl, N152⟩
        · show own_Go p e below _ (T130.setTop (mkF m 232 #[.val (.int p0), .val (.long p1), .second, .val (.int p2), .val (.int xm), .val (.int xl), .val (.int xq), .val (.ref ra), .val (.ref sx), .val .null, .unset] [(.int (0 : Int32))]))
          refine own_Go.st (fun _ kt => XS.ifYes X130.here hx rfl (pc0 := 232) (pc' := 243) rfl (hb hby at_232) rfl ((if0 _ _).trans (teq rfl).1) (by decide) (by decide) kt) ?_
          show own_Go p e below _ (T130.setTop (mkF m 243 #[.val (.int p0), .val (.long p1), .second, .val (.int p2), .val (.int xm), .val (.int xl), .val (.int xq), .val (.ref ra), .val (.ref sx), .val .null, .unset] []))
          refine own_Go.st (fun _ kt => XS.aload X130.here hx rfl (hb hby at_243) rfl rfl kt) ?_
          show own_Go p e below _ (T130.setTop (mkF m 245 #[.val (.int p0), .val (.long p1), .second, .val (.int p2), .val (.int xm), .val (.int xl), .val (.int xq), .val (.ref ra), .val (.ref sx), .val .null, .unset] [(.ref sx)]))
          obtain ⟨cF, T153, h153, k153, bcF, kb153, X153, e153, E153, hS153, hk153, hZ153, ho153, Ex153, Cd153, Vl153, Av153, -, -, ib153, Lt153, st153⟩ := ldcSVL X130 hx hZ123 ho123 (hw _ (List.mem_of_getElem? (i := 42) rfl)) (own_strAtoms hw) hh130 hS123 hk123 (by show Fr (Array.size s.heap) _; rw [hh, ← hn0]; exact N130) (fun b cl q => by show s.heap[b]? = some cl; rw [hh]; exact hkp b cl q) ib123 (by decide) heldF hcw (vs := ([102, 105, 108, 101] : List Int32).map Value.int) (z := (4 : Int32)) ⟨by decide, by decide⟩ (by decide) rfl (g := (mkF m 245 #[.val (.int p0), .val (.long p1), .second, .val (.int p2), .val (.int xm), .val (.int xl), .val (.int xq), .val (.ref ra), .val (.ref sx), .val .null, .unset] [(.ref sx)])) rfl (hb hby at_245) (n := 16) (by decide) (by decide) (by decide) (by decide)
          refine own_Go.st st153 ?_
          have zz154 : n0 ≤ Array.size h153 := Nat.le_trans zz124 E153.1
          have kk154 : Keep h0 h153 [] := kk124.ext E153
          have sa153 := (own_Ar.arv Av153 (n := 4) rfl).congr (fun j _ => own_getD_map ([102, 105, 108, 101] : List Int32) j)
          show own_Go p e below _ (T153.setTop (mkF m 247 #[.val (.int p0), .val (.long p1), .second, .val (.int p2), .val (.int xm), .val (.int xl), .val (.int xq), .val (.ref ra), .val (.ref sx), .val .null, .unset] [(.ref cF), (.ref sx)]))
          have f155 := (f125.ext E153)
          have f156 := (f126.ext E153)
          have f157 := (f127.ext E153)
          have f158 := (f128.ext E153)
          have f159 := (f129.ext E153)
          obtain ⟨cq160, kq160, q160a, q160b, q160c⟩ := isOf hZ153 e153 f155
          obtain ⟨_, _, ⟨T160, L160, k160, n160⟩, -, X160, ⟨Lc160, hQ160, l160, y160, z160⟩, st160⟩ := X153.virtualBack hx (y := (⟨"java/lang/String", "equals", "(Ljava/lang/Object;)Z"⟩ : MethodName)) (z := (⟨"java/lang/String", "equals", "(Ljava/lang/Object;)Z"⟩ : MethodName)) ho153 (mvT hZ153 (hw _ (List.mem_of_getElem? (i := 31) rfl))) (mvT hZ153 (hw _ (List.mem_of_getElem? (i := 32) rfl))) (notFace_of_selects (args := #[]) (mvT hZ153 (hw _ (List.mem_of_getElem? (i := 34) rfl)))) (mvT hZ153 (hw _ (List.mem_of_getElem? (i := 34) rfl))) (mvT hZ153 (hw _ (List.mem_of_getElem? (i := 33) rfl))) (by decide) (backOf (W := 0) (own_eq l Z a0 hw [] sx cF rb bcF n 4 (fun j => (ff j).toInt8.toInt32) (fun j => ([102, 105, 108, 101] : List Int32).getD j 0) zc h153 n0 zz154 ⟨f155, f156, f157, f158⟩ ⟨Ex153, Cd153, Vl153, sa153⟩ f159 hzc hl (by decide)) hZ153 (hw _ (List.mem_of_getElem? (i := 35) rfl)) (hw _ (List.mem_of_getElem? (i := 8) rfl)) (by decide) (by decide)) q160a q160c (g := (mkF m 247 #[.val (.int p0), .val (.long p1), .second, .val (.int p2), .val (.int xm), .val (.int xl), .val (.int xq), .val (.ref ra), .val (.ref sx), .val .null, .unset] [(.ref cF), (.ref sx)])) rfl (by rw [hml]; rfl) (Steps.refl _) (argsL := [(.ref cF)]) (rest := []) (lenOf own_pd8 rfl) rfl (by show 2 * 0 + _ ≤ _; exact Nat.le_of_eq rfl) (hb hby at_247) (fun _ _ => ⟨rfl, e153, (by decide : 8 + 0 ≤ _), (by decide : 80 + 0 ≤ _)⟩)
          dsimp only [Pt.U, Pt.locs, Pt.cells, Pt.slots] at X160 l160 y160 z160 st160 hQ160
          subst l160 y160 z160
          obtain ⟨z1, rfl, N160q, hB160, hh160⟩ := hQ160
          have N160 := Fr.app N130 N160q
          refine own_Go.st (fun _ kt => st160.trans kt) ?_
          show own_Go p e below _ (T160.setTop (mkF m 250 #[.val (.int p0), .val (.long p1), .second, .val (.int p2), .val (.int xm), .val (.int xl), .val (.int xq), .val (.ref ra), .val (.ref sx), .val .null, .unset] [(.int z1)]))
          rcases hB160 with ⟨rfl, q1⟩ | ⟨rfl, q1⟩
          · show own_Go p e below _ (T160.setTop (mkF m 250 #[.val (.int p0), .val (.long p1), .second, .val (.int p2), .val (.int xm), .val (.int xl), .val (.int xq), .val (.ref ra), .val (.ref sx), .val .null, .unset] [(.int (1 : Int32))]))
            refine own_Go.st (fun _ kt => XS.ifNo X160.here hx rfl (hb hby at_250) rfl ((if0 _ _).trans (feq (by decide)).1) kt) ?_
            show own_Go p e below _ (T160.setTop (mkF m 253 #[.val (.int p0), .val (.long p1), .second, .val (.int p2), .val (.int xm), .val (.int xl), .val (.int xq), .val (.ref ra), .val (.ref sx), .val .null, .unset] []))
            have f161 := (((own_stakeep (own_stakeep (z_S_FILE.ext E28) KF31 (fun x hx _ _ => absurd hx List.not_mem_nil)) KF121 (own_nst f117)).ext E123).ext E153)
            obtain ⟨T162, X162, e162, st162⟩ := getS2 X160 hx hZ153 ho153 (host := "") (Or.inl (hw _ (List.mem_of_getElem? (i := 89) rfl))) Via.refl hh160 f161 (g := (mkF m 253 #[.val (.int p0), .val (.long p1), .second, .val (.int p2), .val (.int xm), .val (.int xl), .val (.int xq), .val (.ref ra), .val (.ref sx), .val .null, .unset] [])) rfl (hb hby at_253)
            refine own_Go.st st162 ?_
            show own_Go p e below _ (T162.setTop (mkF m 256 #[.val (.int p0), .val (.long p1), .second, .val (.int p2), .val (.int xm), .val (.int xl), .val (.int xq), .val (.ref ra), .val (.ref sx), .val .null, .unset] [(.ref aF)]))
            refine own_Go.st (fun _ kt => XS.astore X162.here hx rfl (hb hby at_256) rfl rfl (l' := #[.val (.int p0), .val (.long p1), .second, .val (.int p2), .val (.int xm), .val (.int xl), .val (.int xq), .val (.ref ra), .val (.ref sx), .val (.ref aF), .unset]) rfl kt) ?_
            show own_Go p e below _ (T162.setTop (mkF m 258 #[.val (.int p0), .val (.long p1), .second, .val (.int p2), .val (.int xm), .val (.int xl), .val (.int xq), .val (.ref ra), .val (.ref sx), .val (.ref aF), .unset] []))
            refine own_Go.st (fun _ kt => XS.aload X162.here hx rfl (hb hby at_258) rfl rfl kt) ?_
            show own_Go p e below _ (T162.setTop (mkF m 260 #[.val (.int p0), .val (.long p1), .second, .val (.int p2), .val (.int xm), .val (.int xl), .val (.int xq), .val (.ref ra), .val (.ref sx), .val (.ref aF), .unset] [(.ref sx)]))
            have f163 := (((own_stakeep (own_stakeep (z_S_VALUES.ext E28) KF31 (fun x hx _ _ => absurd hx List.not_mem_nil)) KF121 (own_nst f117)).ext E123).ext E153)
            have f164 := (((((z_A_rv.ext E28).keep KF31 nin0).keep KF121 (ninS ne_rv_sx nin0)).ext E123).ext E153)
            have f165 := (((((z_E_rv.ext E28).keep KF31).keep KF121).ext E123).ext E153)
            have f166 := (((((z_F_aE_apiName.ext E28).keep KF31 nin0).keep KF121 (ninS ne_aE_sx nin0)).ext E123).ext E153)
            have f167 := (((((z_F_aF_apiName.ext E28).keep KF31 nin0).keep KF121 (ninS ne_aF_sx nin0)).ext E123).ext E153)
            have f168 := (((((z_E_nE.ext E28).keep KF31).keep KF121).ext E123).ext E153)
            have f169 := (((((z_F_nE_coder.ext E28).keep KF31 nin0).keep KF121 (ninS ne_nE_sx nin0)).ext E123).ext E153)
            have f170 := (((((z_F_nE_value.ext E28).keep KF31 nin0).keep KF121 (ninS ne_nE_sx nin0)).ext E123).ext E153)
            have f171 := (((((z_A_bE.ext E28).keep KF31 nin0).keep KF121 (ninS ne_bE_sx nin0)).ext E123).ext E153)
            have f172 := (((((z_E_nF.ext E28).keep KF31).keep KF121).ext E123).ext E153)
            have f173 := (((((z_F_nF_coder.ext E28).keep KF31 nin0).keep KF121 (ninS ne_nF_sx nin0)).ext E123).ext E153)
            have f174 := (((((z_F_nF_value.ext E28).keep KF31 nin0).keep KF121 (ninS ne_nF_sx nin0)).ext E123).ext E153)
            have f175 := (((((z_A_bF.ext E28).keep KF31 nin0).keep KF121 (ninS ne_bF_sx nin0)).ext E123).ext E153)
            have f176 := (((own_stakeep (own_stakeep (z_S_EMPTY.ext E28) KF31 (fun x hx _ _ => absurd hx List.not_mem_nil)) KF121 (own_nst f117)).ext E123).ext E153)
            have f177 := (((((z_E_ro0.ext E28).keep KF31).keep KF121).ext E123).ext E153)
            have f178 := (((((z_F_ro0_value.ext E28).keep KF31 nin0).keep KF121 (ninS ne_ro0_sx nin0)).ext E123).ext E153)
            obtain ⟨_, _, ⟨T179, L179, k179, n179⟩, -, X179, ⟨Lc179, hQ179, l179, y179, z179⟩, st179⟩ := Jvm.LawKit.callS X162 hx (y := (⟨"com/example/marshal/marshal/variables/VariableType", "named", "(Ljava/lang/String;)Ljava/util/Optional;"⟩ : MethodName)) ho153 (mvT hZ153 (hw _ (List.mem_of_getElem? (i := 43) rfl))) (mvT hZ153 (hw _ (List.mem_of_getElem? (i := 44) rfl))) (mvT hZ153 (hw _ (List.mem_of_getElem? (i := 45) rfl))) (mvT hZ153 (hw _ (List.mem_of_getElem? (i := 46) rfl))) (by decide) (backOf (W := 0) (own_named l Z a0 hw [] sx rb n (fun j => (ff j).toInt8.toInt32) rv fv aE aF nE nF bE bF ro0 zc h153 n0 zz154 ⟨f155, f156, f157, f158⟩ hl f163 f164 f165 (own_fit_keep aV kk154 hF) f166 f167 ⟨f168, f169, f170, f171⟩ ⟨f172, f173, f174, f175⟩ hv0 hv1 f176 f177 f178 f159 hzc) hZ153 (hw _ (List.mem_of_getElem? (i := 46) rfl)) (hw _ (List.mem_of_getElem? (i := 45) rfl)) (by decide) (by decide)) (g := (mkF m 260 #[.val (.int p0), .val (.long p1), .second, .val (.int p2), .val (.int xm), .val (.int xl), .val (.int xq), .val (.ref ra), .val (.ref sx), .val (.ref aF), .unset] [(.ref sx)])) rfl (by rw [hml]; rfl) (argsL := [(.ref sx)]) (rest := []) (lenOf own_pd14 rfl) rfl (by show 2 * 0 + _ ≤ _; exact Nat.le_of_eq rfl) (hb hby at_260) (fun _ _ => ⟨rfl, e162, (by decide : 8 + 2 ≤ _), (by decide : 80 + 3 ≤ _)⟩)
            dsimp only [Pt.U, Pt.locs, Pt.cells, Pt.slots] at X179 l179 y179 z179 st179 hQ179
            subst l179 y179 z179
            obtain ⟨ro, u, rfl, N179q, eo179, fo179, nn179, KF179⟩ := hQ179
            have N179 := Fr.app N160 N179q
            refine own_Go.st (fun _ kt => st179 _ kt) ?_
            have zz180 : n0 ≤ Array.size T179.heap := Nat.le_trans zz154 KF179.1
            have kk180 : Keep h0 T179.heap [] := kk154.trans KF179 all0
            have hk180 : k153 ≤ Array.size T179.heap := Nat.le_trans hk153 KF179.1
            show own_Go p e below _ (T179.setTop (mkF m 263 #[.val (.int p0), .val (.long p1), .second, .val (.int p2), .val (.int xm), .val (.int xl), .val (.int xq), .val (.ref ra), .val (.ref sx), .val (.ref aF), .unset] [(.ref ro)]))
            refine own_Go.st (fun _ kt => XS.astore X179.here hx rfl (hb hby at_263) rfl rfl (l' := #[.val (.int p0), .val (.long p1), .second, .val (.int p2), .val (.int xm), .val (.int xl), .val (.int xq), .val (.ref ra), .val (.ref sx), .val (.ref aF), .val (.ref ro)]) rfl kt) ?_
            show own_Go p e below _ (T179.setTop (mkF m 265 #[.val (.int p0), .val (.long p1), .second, .val (.int p2), .val (.int xm), .val (.int xl), .val (.int xq), .val (.ref ra), .val (.ref sx), .val (.ref aF), .val (.ref ro)] []))
            refine own_Go.st (fun _ kt => XS.aload X179.here hx rfl (hb hby at_265) rfl rfl kt) ?_
            show own_Go p e below _ (T179.setTop (mkF m 267 #[.val (.int p0), .val (.long p1), .second, .val (.int p2), .val (.int xm), .val (.int xl), .val (.int xq), .val (.ref ra), .val (.ref sx), .val (.ref aF), .val (.ref ro)] [(.ref aF)]))
            refine own_Go.st (fun _ kt => XS.ifnonnullYes X179.here hx rfl (pc0 := 267) (pc' := 284) rfl (hb hby at_267) rfl (by decide) (by decide) kt) ?_
            show own_Go p e below _ (T179.setTop (mkF m 284 #[.val (.int p0), .val (.long p1), .second, .val (.int p2), .val (.int xm), .val (.int xl), .val (.int xq), .val (.ref ra), .val (.ref sx), .val (.ref aF), .val (.ref ro)] []))
            have hu : u = .ref aF := by
              rcases nn179 with ⟨q, e⟩ | ⟨q, q', e⟩ | ⟨q, q', e⟩
              · exact absurd (own_eqt_symm q) q0
              · exact e
              · exact absurd (own_eqt_symm q1) q'
            subst hu
            refine own_Go.st (fun _ kt => XS.aload X179.here hx rfl (hb hby at_284) rfl rfl kt) ?_
            show own_Go p e below _ (T179.setTop (mkF m 286 #[.val (.int p0), .val (.long p1), .second, .val (.int p2), .val (.int xm), .val (.int xl), .val (.int xq), .val (.ref ra), .val (.ref sx), .val (.ref aF), .val (.ref ro)] [(.ref ro)]))
            obtain ⟨cq181, kq181, q181a, q181b, q181c⟩ := isOf hZ153 rfl eo179
            obtain ⟨_, _, ⟨T181, L181, k181, n181⟩, -, X181, ⟨Lc181, hQ181, l181, y181, z181⟩, st181⟩ := X179.virtualBack hx (y := (⟨"java/util/Optional", "isPresent", "()Z"⟩ : MethodName)) (z := (⟨"java/util/Optional", "isPresent", "()Z"⟩ : MethodName)) ho153 (mvT hZ153 (hw _ (List.mem_of_getElem? (i := 72) rfl))) (mvT hZ153 (hw _ (List.mem_of_getElem? (i := 73) rfl))) (notFace_of_selects (args := #[]) (mvT hZ153 (hw _ (List.mem_of_getElem? (i := 75) rfl)))) (mvT hZ153 (hw _ (List.mem_of_getElem? (i := 75) rfl))) (mvT hZ153 (hw _ (List.mem_of_getElem? (i := 74) rfl))) (by decide) (backOf (W := 0) (own_isP1 l Z a0 hw [] ro aF T179.heap n0 zz180 fo179) hZ153 (hw _ (List.mem_of_getElem? (i := 76) rfl)) (hw _ (List.mem_of_getElem? (i := 69) rfl)) (by decide) (by decide)) q181a q181c (g := (mkF m 286 #[.val (.int p0), .val (.long p1), .second, .val (.int p2), .val (.int xm), .val (.int xl), .val (.int xq), .val (.ref ra), .val (.ref sx), .val (.ref aF), .val (.ref ro)] [(.ref ro)])) rfl (by rw [hml]; rfl) (Steps.refl _) (argsL := []) (rest := []) (lenOf own_pd15 rfl) rfl (by show 2 * 0 + _ ≤ _; exact Nat.le_of_eq rfl) (hb hby at_286) (fun _ _ => ⟨rfl, rfl, (by decide : 10 + 0 ≤ _), (by decide : 83 + 0 ≤ _)⟩)
            dsimp only [Pt.U, Pt.locs, Pt.cells, Pt.slots] at X181 l181 y181 z181 st181 hQ181
            subst l181 y181 z181
            obtain ⟨rfl, N181q, hh181⟩ := hQ181
            have N181 := Fr.app N179 N181q
            refine own_Go.st (fun _ kt => st181.trans kt) ?_
            show own_Go p e below _ (T181.setTop (mkF m 289 #[.val (.int p0), .val (.long p1), .second, .val (.int p2), .val (.int xm), .val (.int xl), .val (.int xq), .val (.ref ra), .val (.ref sx), .val (.ref aF), .val (.ref ro)] [(.int (1 : Int32))]))
            refine own_Go.st (fun _ kt => XS.ifNo X181.here hx rfl (hb hby at_289) rfl ((if0 _ _).trans (feq (by decide)).1) kt) ?_
            show own_Go p e below _ (T181.setTop (mkF m 292 #[.val (.int p0), .val (.long p1), .second, .val (.int p2), .val (.int xm), .val (.int xl), .val (.int xq), .val (.ref ra), .val (.ref sx), .val (.ref aF), .val (.ref ro)] []))
            refine own_Go.st (fun _ kt => XS.aload X181.here hx rfl (hb hby at_292) rfl rfl kt) ?_
            show own_Go p e below _ (T181.setTop (mkF m 294 #[.val (.int p0), .val (.long p1), .second, .val (.int p2), .val (.int xm), .val (.int xl), .val (.int xq), .val (.ref ra), .val (.ref sx), .val (.ref aF), .val (.ref ro)] [(.ref ro)]))
            obtain ⟨cq182, kq182, q182a, q182b, q182c⟩ := isOf hZ153 hh181 eo179
            obtain ⟨_, _, ⟨T182, L182, k182, n182⟩, -, X182, ⟨Lc182, hQ182, l182, y182, z182⟩, st182⟩ := X181.virtualBack hx (y := (⟨"java/util/Optional", "get", "()Ljava/lang/Object;"⟩ : MethodName)) (z := (⟨"java/util/Optional", "get", "()Ljava/lang/Object;"⟩ : MethodName)) ho153 (mvT hZ153 (hw _ (List.mem_of_getElem? (i := 104) rfl))) (mvT hZ153 (hw _ (List.mem_of_getElem? (i := 105) rfl))) (notFace_of_selects (args := #[]) (mvT hZ153 (hw _ (List.mem_of_getElem? (i := 107) rfl)))) (mvT hZ153 (hw _ (List.mem_of_getElem? (i := 107) rfl))) (mvT hZ153 (hw _ (List.mem_of_getElem? (i := 106) rfl))) (by decide) (backOf (W := 0) (own_get l Z a0 hw [] ro aF T179.heap n0 zz180 fo179) hZ153 (hw _ (List.mem_of_getElem? (i := 108) rfl)) (hw _ (List.mem_of_getElem? (i := 69) rfl)) (by decide) (by decide)) q182a q182c (g := (mkF m 294 #[.val (.int p0), .val (.long p1), .second, .val (.int p2), .val (.int xm), .val (.int xl), .val (.int xq), .val (.ref ra), .val (.ref sx), .val (.ref aF), .val (.ref ro)] [(.ref ro)])) rfl (by rw [hml]; rfl) (Steps.refl _) (argsL := []) (rest := []) (lenOf own_pd16 rfl) rfl (by show 2 * 0 + _ ≤ _; exact Nat.le_of_eq rfl) (hb hby at_294) (fun _ _ => ⟨rfl, hh181, (by decide : 10 + 0 ≤ _), (by decide : 83 + 0 ≤ _)⟩)
            dsimp only [Pt.U, Pt.locs, Pt.cells, Pt.slots] at X182 l182 y182 z182 st182 hQ182
            subst l182 y182 z182
            obtain ⟨rfl, N182q, hh182⟩ := hQ182
            have N182 := Fr.app N181 N182q
            refine own_Go.st (fun _ kt => st182.trans kt) ?_
            show own_Go p e below _ (T182.setTop (mkF m 297 #[.val (.int p0), .val (.long p1), .second, .val (.int p2), .val (.int xm), .val (.int xl), .val (.int xq), .val (.ref ra), .val (.ref sx), .val (.ref aF), .val (.ref ro)] [(.ref aF)]))
            refine own_Go.st (fun _ kt => XS.aload X182.here hx rfl (hb hby at_297) rfl rfl kt) ?_
            show own_Go p e below _ (T182.setTop (mkF m 299 #[.val (.int p0), .val (.long p1), .second, .val (.int p2), .val (.int xm), .val (.int xl), .val (.int xq), .val (.ref ra), .val (.ref sx), .val (.ref aF), .val (.ref ro)] [(.ref aF), (.ref aF)]))
            refine own_Go.st (fun _ kt => Jvm.RoadKit.acmp (g := (mkF m 299 #[.val (.int p0), .val (.long p1), .second, .val (.int p2), .val (.int xm), .val (.int xl), .val (.int xq), .val (.ref ra), .val (.ref sx), .val (.ref aF), .val (.ref ro)] [(.ref aF), (.ref aF)])) X182 hx rfl rfl rfl (pc0 := 299) (pc' := 302) (same := true) rfl (hb hby at_299) rfl (decide_eq_true rfl) (by decide) (by decide) kt) ?_
            show own_Go p e below _ (T182.setTop (mkF m 302 #[.val (.int p0), .val (.long p1), .second, .val (.int p2), .val (.int xm), .val (.int xl), .val (.int xq), .val (.ref ra), .val (.ref sx), .val (.ref aF), .val (.ref ro)] []))
            refine own_Go.st (fun _ kt => XS.iconst X182.here hx rfl (hb hby at_302) kt) ?_
            show own_Go p e below _ (T182.setTop (mkF m 303 #[.val (.int p0), .val (.long p1), .second, .val (.int p2), .val (.int xm), .val (.int xl), .val (.int xq), .val (.ref ra), .val (.ref sx), .val (.ref aF), .val (.ref ro)] [(.int (1 : Int32))]))
            refine own_Go.st (fun _ kt => XS.goto X182.here hx rfl (pc0 := 303) (pc' := 307) rfl (hb hby at_303) (by decide) (by decide) kt) ?_
            show own_Go p e below _ (T182.setTop (mkF m 307 #[.val (.int p0), .val (.long p1), .second, .val (.int p2), .val (.int xm), .val (.int xl), .val (.int xq), .val (.ref ra), .val (.ref sx), .val (.ref aF), .val (.ref ro)] [(.int (1 : Int32))]))
            exact own_retWZ X182 hx Bd.notSynchronized Bd.returns hS153 (Nat.le_trans hk180 (Nat.le_of_eq (congrArg Array.size hh182).symm)) (Or.inr rfl) (hb hby at_307) (by decide) (by decide) ⟨rfl, N182⟩
          · show own_Go p e below _ (T160.setTop (mkF m 250 #[.val (.int p0), .val (.long p1), .second, .val (.int p2), .val (.int xm), .val (.int xl), .val (.int xq), .val (.ref ra), .val (.ref sx), .val .null, .unset] [(.int (0 : Int32))]))
            refine own_Go.st (fun _ kt => XS.ifYes X160.here hx rfl (pc0 := 250) (pc' := 258) rfl (hb hby at_250) rfl ((if0 _ _).trans (teq rfl).1) (by decide) (by decide) kt) ?_
            show own_Go p e below _ (T160.setTop (mkF m 258 #[.val (.int p0), .val (.long p1), .second, .val (.int p2), .val (.int xm), .val (.int xl), .val (.int xq), .val (.ref ra), .val (.ref sx), .val .null, .unset] []))
            refine own_Go.st (fun _ kt => XS.aload X160.here hx rfl (hb hby at_258) rfl rfl kt) ?_
            show own_Go p e below _ (T160.setTop (mkF m 260 #[.val (.int p0), .val (.long p1), .second, .val (.int p2), .val (.int xm), .val (.int xl), .val (.int xq), .val (.ref ra), .val (.ref sx), .val .null, .unset] [(.ref sx)]))
            have f183 := (((own_stakeep (own_stakeep (z_S_VALUES.ext E28) KF31 (fun x hx _ _ => absurd hx List.not_mem_nil)) KF121 (own_nst f117)).ext E123).ext E153)
            have f184 := (((((z_A_rv.ext E28).keep KF31 nin0).keep KF121 (ninS ne_rv_sx nin0)).ext E123).ext E153)
            have f185 := (((((z_E_rv.ext E28).keep KF31).keep KF121).ext E123).ext E153)
            have f186 := (((((z_F_aE_apiName.ext E28).keep KF31 nin0).keep KF121 (ninS ne_aE_sx nin0)).ext E123).ext E153)
            have f187 := (((((z_F_aF_apiName.ext E28).keep KF31 nin0).keep KF121 (ninS ne_aF_sx nin0)).ext E123).ext E153)
            have f188 := (((((z_E_nE.ext E28).keep KF31).keep KF121).ext E123).ext E153)
            have f189 := (((((z_F_nE_coder.ext E28).keep KF31 nin0).keep KF121 (ninS ne_nE_sx nin0)).ext E123).ext E153)
            have f190 := (((((z_F_nE_value.ext E28).keep KF31 nin0).keep KF121 (ninS ne_nE_sx nin0)).ext E123).ext E153)
            have f191 := (((((z_A_bE.ext E28).keep KF31 nin0).keep KF121 (ninS ne_bE_sx nin0)).ext E123).ext E153)
            have f192 := (((((z_E_nF.ext E28).keep KF31).keep KF121).ext E123).ext E153)
            have f193 := (((((z_F_nF_coder.ext E28).keep KF31 nin0).keep KF121 (ninS ne_nF_sx nin0)).ext E123).ext E153)
            have f194 := (((((z_F_nF_value.ext E28).keep KF31 nin0).keep KF121 (ninS ne_nF_sx nin0)).ext E123).ext E153)
            have f195 := (((((z_A_bF.ext E28).keep KF31 nin0).keep KF121 (ninS ne_bF_sx nin0)).ext E123).ext E153)
            have f196 := (((own_stakeep (own_stakeep (z_S_EMPTY.ext E28) KF31 (fun x hx _ _ => absurd hx List.not_mem_nil)) KF121 (own_nst f117)).ext E123).ext E153)
            have f197 := (((((z_E_ro0.ext E28).keep KF31).keep KF121).ext E123).ext E153)
            have f198 := (((((z_F_ro0_value.ext E28).keep KF31 nin0).keep KF121 (ninS ne_ro0_sx nin0)).ext E123).ext E153)
            obtain ⟨_, _, ⟨T199, L199, k199, n199⟩, -, X199, ⟨Lc199, hQ199, l199, y199, z199⟩, st199⟩ := Jvm.LawKit.callS X160 hx (y := (⟨"com/example/marshal/marshal/variables/VariableType", "named", "(Ljava/lang/String;)Ljava/util/Optional;"⟩ : MethodName)) ho153 (mvT hZ153 (hw _ (List.mem_of_getElem? (i := 43) rfl))) (mvT hZ153 (hw _ (List.mem_of_getElem? (i := 44) rfl))) (mvT hZ153 (hw _ (List.mem_of_getElem? (i := 45) rfl))) (mvT hZ153 (hw _ (List.mem_of_getElem? (i := 46) rfl))) (by decide) (backOf (W := 0) (own_named l Z a0 hw [] sx rb n (fun j => (ff j).toInt8.toInt32) rv fv aE aF nE nF bE bF ro0 zc h153 n0 zz154 ⟨f155, f156, f157, f158⟩ hl f183 f184 f185 (own_fit_keep aV kk154 hF) f186 f187 ⟨f188, f189, f190, f191⟩ ⟨f192, f193, f194, f195⟩ hv0 hv1 f196 f197 f198 f159 hzc) hZ153 (hw _ (List.mem_of_getElem? (i := 46) rfl)) (hw _ (List.mem_of_getElem? (i := 45) rfl)) (by decide) (by decide)) (g := (mkF m 260 #[.val (.int p0), .val (.long p1), .second, .val (.int p2), .val (.int xm), .val (.int xl), .val (.int xq), .val (.ref ra), .val (.ref sx), .val .null, .unset] [(.ref sx)])) rfl (by rw [hml]; rfl) (argsL := [(.ref sx)]) (rest := []) (lenOf own_pd14 rfl) rfl (by show 2 * 0 + _ ≤ _; exact Nat.le_of_eq rfl) (hb hby at_260) (fun _ _ => ⟨rfl, hh160, (by decide : 8 + 2 ≤ _), (by decide : 80 + 3 ≤ _)⟩)
            dsimp only [Pt.U, Pt.locs, Pt.cells, Pt.slots] at X199 l199 y199 z199 st199 hQ199
            subst l199 y199 z199
            obtain ⟨ro, u, rfl, N199q, eo199, fo199, nn199, KF199⟩ := hQ199
            have N199 := Fr.app N160 N199q
            refine own_Go.st (fun _ kt => st199 _ kt) ?_
            have zz200 : n0 ≤ Array.size T199.heap := Nat.le_trans zz154 KF199.1
            have kk200 : Keep h0 T199.heap [] := kk154.trans KF199 all0
            have hk200 : k153 ≤ Array.size T199.heap := Nat.le_trans hk153 KF199.1
            show own_Go p e below _ (T199.setTop (mkF m 263 #[.val (.int p0), .val (.long p1), .second, .val (.int p2), .val (.int xm), .val (.int xl), .val (.int xq), .val (.ref ra), .val (.ref sx), .val .null, .unset] [(.ref ro)]))
            refine own_Go.st (fun _ kt => XS.astore X199.here hx rfl (hb hby at_263) rfl rfl (l' := #[.val (.int p0), .val (.long p1), .second, .val (.int p2), .val (.int xm), .val (.int xl), .val (.int xq), .val (.ref ra), .val (.ref sx), .val .null, .val (.ref ro)]) rfl kt) ?_
            show own_Go p e below _ (T199.setTop (mkF m 265 #[.val (.int p0), .val (.long p1), .second, .val (.int p2), .val (.int xm), .val (.int xl), .val (.int xq), .val (.ref ra), .val (.ref sx), .val .null, .val (.ref ro)] []))
            refine own_Go.st (fun _ kt => XS.aload X199.here hx rfl (hb hby at_265) rfl rfl kt) ?_
            show own_Go p e below _ (T199.setTop (mkF m 267 #[.val (.int p0), .val (.long p1), .second, .val (.int p2), .val (.int xm), .val (.int xl), .val (.int xq), .val (.ref ra), .val (.ref sx), .val .null, .val (.ref ro)] [.null]))
            refine own_Go.st (fun _ kt => XS.ifnonnullNo X199.here hx rfl (hb hby at_267) rfl kt) ?_
            show own_Go p e below _ (T199.setTop (mkF m 270 #[.val (.int p0), .val (.long p1), .second, .val (.int p2), .val (.int xm), .val (.int xl), .val (.int xq), .val (.ref ra), .val (.ref sx), .val .null, .val (.ref ro)] []))
            have hu : u = .null := by
              rcases nn199 with ⟨q, e⟩ | ⟨q, q', e⟩ | ⟨q, q', e⟩
              · exact absurd (own_eqt_symm q) q0
              · exact absurd (own_eqt_symm q') q1
              · exact e
            subst hu
            refine own_Go.st (fun _ kt => XS.aload X199.here hx rfl (hb hby at_270) rfl rfl kt) ?_
            show own_Go p e below _ (T199.setTop (mkF m 272 #[.val (.int p0), .val (.long p1), .second, .val (.int p2), .val (.int xm), .val (.int xl), .val (.int xq), .val (.ref ra), .val (.ref sx), .val .null, .val (.ref ro)] [(.ref ro)]))
            obtain ⟨cq201, kq201, q201a, q201b, q201c⟩ := isOf hZ153 rfl eo199
            obtain ⟨_, _, ⟨T201, L201, k201, n201⟩, -, X201, ⟨Lc201, hQ201, l201, y201, z201⟩, st201⟩ := X199.virtualBack hx (y := (⟨"java/util/Optional", "isPresent", "()Z"⟩ : MethodName)) (z := (⟨"java/util/Optional", "isPresent", "()Z"⟩ : MethodName)) ho153 (mvT hZ153 (hw _ (List.mem_of_getElem? (i := 72) rfl))) (mvT hZ153 (hw _ (List.mem_of_getElem? (i := 73) rfl))) (notFace_of_selects (args := #[]) (mvT hZ153 (hw _ (List.mem_of_getElem? (i := 75) rfl)))) (mvT hZ153 (hw _ (List.mem_of_getElem? (i := 75) rfl))) (mvT hZ153 (hw _ (List.mem_of_getElem? (i := 74) rfl))) (by decide) (backOf (W := 0) (own_isP0 l Z a0 hw [] ro ro T199.heap n0 zz200 fo199) hZ153 (hw _ (List.mem_of_getElem? (i := 76) rfl)) (hw _ (List.mem_of_getElem? (i := 69) rfl)) (by decide) (by decide)) q201a q201c (g := (mkF m 272 #[.val (.int p0), .val (.long p1), .second, .val (.int p2), .val (.int xm), .val (.int xl), .val (.int xq), .val (.ref ra), .val (.ref sx), .val .null, .val (.ref ro)] [(.ref ro)])) rfl (by rw [hml]; rfl) (Steps.refl _) (argsL := []) (rest := []) (lenOf own_pd15 rfl) rfl (by show 2 * 0 + _ ≤ _; exact Nat.le_of_eq rfl) (hb hby at_272) (fun _ _ => ⟨rfl, rfl, (by decide : 10 + 0 ≤ _), (by decide : 83 + 0 ≤ _)⟩)
            dsimp only [Pt.U, Pt.locs, Pt.cells, Pt.slots] at X201 l201 y201 z201 st201 hQ201
            subst l201 y201 z201
            obtain ⟨rfl, N201q, hh201⟩ := hQ201
            have N201 := Fr.app N199 N201q
            refine own_Go.st (fun _ kt => st201.trans kt) ?_
            show own_Go p e below _ (T201.setTop (mkF m 275 #[.val (.int p0), .val (.long p1), .second, .val (.int p2), .val (.int xm), .val (.int xl), .val (.int xq), .val (.ref ra), .val (.ref sx), .val .null, .val (.ref ro)] [(.int (0 : Int32))]))
            refine own_Go.st (fun _ kt => XS.ifNo X201.here hx rfl (hb hby at_275) rfl ((if0 _ _).trans (teq rfl).2) kt) ?_
            show own_Go p e below _ (T201.setTop (mkF m 278 #[.val (.int p0), .val (.long p1), .second, .val (.int p2), .val (.int xm), .val (.int xl), .val (.int xq), .val (.ref ra), .val (.ref sx), .val .null, .val (.ref ro)] []))
            refine own_Go.st (fun _ kt => XS.iconst X201.here hx rfl (hb hby at_278) kt) ?_
            show own_Go p e below _ (T201.setTop (mkF m 279 #[.val (.int p0), .val (.long p1), .second, .val (.int p2), .val (.int xm), .val (.int xl), .val (.int xq), .val (.ref ra), .val (.ref sx), .val .null, .val (.ref ro)] [(.int (1 : Int32))]))
            refine own_Go.st (fun _ kt => XS.goto X201.here hx rfl (pc0 := 279) (pc' := 283) rfl (hb hby at_279) (by decide) (by decide) kt) ?_
            show own_Go p e below _ (T201.setTop (mkF m 283 #[.val (.int p0), .val (.long p1), .second, .val (.int p2), .val (.int xm), .val (.int xl), .val (.int xq), .val (.ref ra), .val (.ref sx), .val .null, .val (.ref ro)] [(.int (1 : Int32))]))
            exact own_retWZ X201 hx Bd.notSynchronized Bd.returns hS153 (Nat.le_trans hk200 (Nat.le_of_eq (congrArg Array.size hh201).symm)) (Or.inr rfl) (hb hby at_283) (by decide) (by decide) ⟨rfl, N201⟩
  have J188 : ∀ (td : Nat) (T202 : State) (lc202 : List Loc) (h202 : Heap) (X202 : Stand p l e room_1 (s.setVm s.vm) m #[(.int p0), (.long p1), (.int p2)] below meth c T202 lc202 1 8) (e202 : T202.heap = h202) (N202 : Fr n0 lc202) (ff : Nat → Int32) (hff : ∀ j, j < 8 → own_C8 (ff j)) (ar : own_Ar Z h202 ra .char 8 (fun j => .int (ff j))) (zz : n0 ≤ Array.size h202) (kk : Keep h0 h202 []), own_Go p e below (fun o U' => ∃ v L, o = .returned v ∧ own_Q_own_law Z p0 p1 p2 rv fv aE aF nE nF bE bF ro0 zc h0 n0 v U'.heap L ∧ ReturnedEndW s o U' L room_1.cells room_1.slots) (T202.setTop (mkF m 188 #[.val (.int p0), .val (.long p1), .second, .val (.int p2), .val (.int xm), .val (.int xl), .val (.int xq), .val (.ref ra), .unset, .unset, .unset] [])) := by
    intro td
    induction td using Nat.strongRecOn with
    | ind td IH =>
      intro T202 lc202 h202 X202 e202 N202 ff hff ar zz kk
      show own_Go p e below _ (T202.setTop (mkF m 188 #[.val (.int p0), .val (.long p1), .second, .val (.int p2), .val (.int xm), .val (.int xl), .val (.int xq), .val (.ref ra), .unset, .unset, .unset] []))
      refine own_Go.st (fun _ kt => XS.iload X202.here hx rfl (hb hby at_188) rfl kt) ?_
      show own_Go p e below _ (T202.setTop (mkF m 190 #[.val (.int p0), .val (.long p1), .second, .val (.int p2), .val (.int xm), .val (.int xl), .val (.int xq), .val (.ref ra), .unset, .unset, .unset] [(.int xq)]))
      refine own_Go.st (fun _ kt => XS.bipush X202.here hx rfl (hb hby at_190) kt) ?_
      show own_Go p e below _ (T202.setTop (mkF m 192 #[.val (.int p0), .val (.long p1), .second, .val (.int p2), .val (.int xm), .val (.int xl), .val (.int xq), .val (.ref ra), .unset, .unset, .unset] [(.int (8 : Int32)), (.int xq)]))
      by_cases hcq : xq < (8 : Int32)
      · refine own_Go.st (fun _ kt => XS.icmpNo X202.here hx rfl (hb hby at_192) rfl (tlt hcq).2.1 kt) ?_
        show own_Go p e below _ (T202.setTop (mkF m 195 #[.val (.int p0), .val (.long p1), .second, .val (.int p2), .val (.int xm), .val (.int xl), .val (.int xq), .val (.ref ra), .unset, .unset, .unset] []))
        have h68 : i6 < 8 := by rw [Int32.lt_iff_toInt_lt, hi6, show (8 : Int32).toInt = 8 by decide] at hcq; omega
        obtain ⟨xs, hxs1, hxs2⟩ := own_c255 p2
        refine own_Go.st (fun _ kt => XS.aload X202.here hx rfl (hb hby at_195) rfl rfl kt) ?_
        show own_Go p e below _ (T202.setTop (mkF m 197 #[.val (.int p0), .val (.long p1), .second, .val (.int p2), .val (.int xm), .val (.int xl), .val (.int xq), .val (.ref ra), .unset, .unset, .unset] [(.ref ra)]))
        refine own_Go.st (fun _ kt => XS.iload X202.here hx rfl (hb hby at_197) rfl kt) ?_
        show own_Go p e below _ (T202.setTop (mkF m 199 #[.val (.int p0), .val (.long p1), .second, .val (.int p2), .val (.int xm), .val (.int xl), .val (.int xq), .val (.ref ra), .unset, .unset, .unset] [(.int xq), (.ref ra)]))
        refine own_Go.st (fun _ kt => XS.iloadN X202.here hx rfl (hb hby at_199) rfl kt) ?_
        show own_Go p e below _ (T202.setTop (mkF m 200 #[.val (.int p0), .val (.long p1), .second, .val (.int p2), .val (.int xm), .val (.int xl), .val (.int xq), .val (.ref ra), .unset, .unset, .unset] [(.int p2), (.int xq), (.ref ra)]))
        refine own_Go.st (fun _ kt => XS.sipush X202.here hx rfl (hb hby at_200) kt) ?_
        show own_Go p e below _ (T202.setTop (mkF m 203 #[.val (.int p0), .val (.long p1), .second, .val (.int p2), .val (.int xm), .val (.int xl), .val (.int xq), .val (.ref ra), .unset, .unset, .unset] [(.int (255 : Int32)), (.int p2), (.int xq), (.ref ra)]))
        refine own_Go.st (fun _ kt => XS.iand X202.here hx rfl (hb hby at_203) rfl kt) ?_
        show own_Go p e below _ (T202.setTop (mkF m 204 #[.val (.int p0), .val (.long p1), .second, .val (.int p2), .val (.int xm), .val (.int xl), .val (.int xq), .val (.ref ra), .unset, .unset, .unset] [(.int (p2 &&& (255 : Int32))), (.int xq), (.ref ra)]))
        refine own_Go.st (fun _ kt => XS.i2c X202.here hx rfl (hb hby at_204) rfl kt) ?_
        show own_Go p e below _ (T202.setTop (mkF m 205 #[.val (.int p0), .val (.long p1), .second, .val (.int p2), .val (.int xm), .val (.int xl), .val (.int xq), .val (.ref ra), .unset, .unset, .unset] [(.int ((p2 &&& (255 : Int32)).toUInt32.toUInt16.toUInt32.toInt32)), (.int xq), (.ref ra)]))
        rw [show ((p2 &&& (255 : Int32)).toUInt32.toUInt16.toUInt32.toInt32) = xs from hxs1]
        show own_Go p e below _ (T202.setTop (mkF m 205 #[.val (.int p0), .val (.long p1), .second, .val (.int p2), .val (.int xm), .val (.int xl), .val (.int xq), .val (.ref ra), .unset, .unset, .unset] [(.int xs), (.int xq), (.ref ra)]))
        obtain ⟨T203, h203, X203, e203, W203, st203⟩ := own_cast X202 hx hZ e202 ar hi6 h68 (own_nar_char hxs2) (g := (mkF m 205 #[.val (.int p0), .val (.long p1), .second, .val (.int p2), .val (.int xm), .val (.int xl), .val (.int xq), .val (.ref ra), .unset, .unset, .unset] [(.int xs), (.int xq), (.ref ra)])) rfl rfl (hb hby at_205)
        refine own_Go.st st203 ?_
        have N203 := Fr.snoc X203 N202 n0_ra
        have a203 := own_Ar.set ar W203
        have zz204 : n0 ≤ Array.size h203 := Nat.le_trans zz (Nat.le_of_eq (Wr.size W203).symm)
        have kk204 : Keep h0 h203 [] := kk.wr W203 (Or.inr b_ra)
        have hk204 : Array.size h0 ≤ Array.size h203 := Nat.le_trans kk.1 (Nat.le_of_eq (Wr.size W203).symm)
        show own_Go p e below _ (T203.setTop (mkF m 206 #[.val (.int p0), .val (.long p1), .second, .val (.int p2), .val (.int xm), .val (.int xl), .val (.int xq), .val (.ref ra), .unset, .unset, .unset] []))
        obtain ⟨fq, hfq, harfq⟩ : ∃ f : Nat → Int32, (∀ j, j < 8 → own_C8 (f j)) ∧ own_Ar Z h203 ra .char 8 (fun j => .int (f j)) := ⟨_, own_c8set hff hxs2, a203.congr fun j _ => own_setc ff _ _ j⟩
        exact J206 0 _ _ _ X203 e203 N203 _ hfq harfq zz204 kk204
      · refine own_Go.st (fun _ kt => XS.icmpYes X202.here hx rfl (pc0 := 192) (pc' := 206) rfl (hb hby at_192) rfl (flt hcq).2.1 (by decide) (by decide) kt) ?_
        show own_Go p e below _ (T202.setTop (mkF m 206 #[.val (.int p0), .val (.long p1), .second, .val (.int p2), .val (.int xm), .val (.int xl), .val (.int xq), .val (.ref ra), .unset, .unset, .unset] []))
        exact J206 0 _ _ _ X202 e202 N202 _ hff ar zz kk
  by_cases hcm : xm = (0 : Int32)
  · refine own_Go.st (fun _ kt => XS.ifNo X25.here hx rfl (hb hby at_109) rfl ((if0 _ _).trans (teq hcm).2) kt) ?_
    show own_Go p e below _ (T25.setTop (mkF m 112 #[.val (.int p0), .val (.long p1), .second, .val (.int p2), .val (.int xm), .val (.int xl), .val (.int xq), .val (.ref ra), .unset, .unset, .unset] []))
    refine own_Go.st (fun _ kt => XS.aload X25.here hx rfl (hb hby at_112) rfl rfl kt) ?_
    show own_Go p e below _ (T25.setTop (mkF m 114 #[.val (.int p0), .val (.long p1), .second, .val (.int p2), .val (.int xm), .val (.int xl), .val (.int xq), .val (.ref ra), .unset, .unset, .unset] [(.ref ra)]))
    refine own_Go.st (fun _ kt => XS.iconst X25.here hx rfl (hb hby at_114) kt) ?_
    show own_Go p e below _ (T25.setTop (mkF m 115 #[.val (.int p0), .val (.long p1), .second, .val (.int p2), .val (.int xm), .val (.int xl), .val (.int xq), .val (.ref ra), .unset, .unset, .unset] [(.int (0 : Int32)), (.ref ra)]))
    refine own_Go.st (fun _ kt => XS.bipush X25.here hx rfl (hb hby at_115) kt) ?_
    show own_Go p e below _ (T25.setTop (mkF m 117 #[.val (.int p0), .val (.long p1), .second, .val (.int p2), .val (.int xm), .val (.int xl), .val (.int xq), .val (.ref ra), .unset, .unset, .unset] [(.int (101 : Int32)), (.int (0 : Int32)), (.ref ra)]))
    obtain ⟨T205, h205, X205, e205, W205, st205⟩ := own_cast X25 hx hZ e25 harfd7 (i := 0) (by decide) (by decide) (own_nar_char (own_c8lit (x := 101))) (g := (mkF m 117 #[.val (.int p0), .val (.long p1), .second, .val (.int p2), .val (.int xm), .val (.int xl), .val (.int xq), .val (.ref ra), .unset, .unset, .unset] [(.int (101 : Int32)), (.int (0 : Int32)), (.ref ra)])) rfl rfl (hb hby at_117)
    refine own_Go.st st205 ?_
    have N205 := Fr.snoc X205 N25 n0_ra
    have a205 := own_Ar.set harfd7 W205
    have zz206 : n0 ≤ Array.size h205 := Nat.le_trans zz26 (Nat.le_of_eq (Wr.size W205).symm)
    have kk206 : Keep h0 h205 [] := kk26.wr W205 (Or.inr b_ra)
    have hk206 : Array.size h0 ≤ Array.size h205 := Nat.le_trans hk26 (Nat.le_of_eq (Wr.size W205).symm)
    show own_Go p e below _ (T205.setTop (mkF m 118 #[.val (.int p0), .val (.long p1), .second, .val (.int p2), .val (.int xm), .val (.int xl), .val (.int xq), .val (.ref ra), .unset, .unset, .unset] []))
    obtain ⟨fa0, hfa0, harfa0⟩ : ∃ f : Nat → Int32, (∀ j, j < 8 → own_C8 (f j)) ∧ own_Ar Z h205 ra .char 8 (fun j => .int (f j)) := ⟨_, own_c8set hfd7 (own_c8lit (x := 101)), a205.congr fun j _ => own_setc fd7 _ _ j⟩
    refine own_Go.st (fun _ kt => XS.aload X205.here hx rfl (hb hby at_118) rfl rfl kt) ?_
    show own_Go p e below _ (T205.setTop (mkF m 120 #[.val (.int p0), .val (.long p1), .second, .val (.int p2), .val (.int xm), .val (.int xl), .val (.int xq), .val (.ref ra), .unset, .unset, .unset] [(.ref ra)]))
    refine own_Go.st (fun _ kt => XS.iconst X205.here hx rfl (hb hby at_120) kt) ?_
    show own_Go p e below _ (T205.setTop (mkF m 121 #[.val (.int p0), .val (.long p1), .second, .val (.int p2), .val (.int xm), .val (.int xl), .val (.int xq), .val (.ref ra), .unset, .unset, .unset] [(.int (1 : Int32)), (.ref ra)]))
    refine own_Go.st (fun _ kt => XS.bipush X205.here hx rfl (hb hby at_121) kt) ?_
    show own_Go p e below _ (T205.setTop (mkF m 123 #[.val (.int p0), .val (.long p1), .second, .val (.int p2), .val (.int xm), .val (.int xl), .val (.int xq), .val (.ref ra), .unset, .unset, .unset] [(.int (110 : Int32)), (.int (1 : Int32)), (.ref ra)]))
    obtain ⟨T207, h207, X207, e207, W207, st207⟩ := own_cast X205 hx hZ e205 harfa0 (i := 1) (by decide) (by decide) (own_nar_char (own_c8lit (x := 110))) (g := (mkF m 123 #[.val (.int p0), .val (.long p1), .second, .val (.int p2), .val (.int xm), .val (.int xl), .val (.int xq), .val (.ref ra), .unset, .unset, .unset] [(.int (110 : Int32)), (.int (1 : Int32)), (.ref ra)])) rfl rfl (hb hby at_123)
    refine own_Go.st st207 ?_
    have N207 := Fr.snoc X207 N205 n0_ra
    have a207 := own_Ar.set harfa0 W207
    have zz208 : n0 ≤ Array.size h207 := Nat.le_trans zz206 (Nat.le_of_eq (Wr.size W207).symm)
    have kk208 : Keep h0 h207 [] := kk206.wr W207 (Or.inr b_ra)
    have hk208 : Array.size h0 ≤ Array.size h207 := Nat.le_trans hk206 (Nat.le_of_eq (Wr.size W207).symm)
    show own_Go p e below _ (T207.setTop (mkF m 124 #[.val (.int p0), .val (.long p1), .second, .val (.int p2), .val (.int xm), .val (.int xl), .val (.int xq), .val (.ref ra), .unset, .unset, .unset] []))
    obtain ⟨fa1, hfa1, harfa1⟩ : ∃ f : Nat → Int32, (∀ j, j < 8 → own_C8 (f j)) ∧ own_Ar Z h207 ra .char 8 (fun j => .int (f j)) := ⟨_, own_c8set hfa0 (own_c8lit (x := 110)), a207.congr fun j _ => own_setc fa0 _ _ j⟩
    refine own_Go.st (fun _ kt => XS.aload X207.here hx rfl (hb hby at_124) rfl rfl kt) ?_
    show own_Go p e below _ (T207.setTop (mkF m 126 #[.val (.int p0), .val (.long p1), .second, .val (.int p2), .val (.int xm), .val (.int xl), .val (.int xq), .val (.ref ra), .unset, .unset, .unset] [(.ref ra)]))
    refine own_Go.st (fun _ kt => XS.iconst X207.here hx rfl (hb hby at_126) kt) ?_
    show own_Go p e below _ (T207.setTop (mkF m 127 #[.val (.int p0), .val (.long p1), .second, .val (.int p2), .val (.int xm), .val (.int xl), .val (.int xq), .val (.ref ra), .unset, .unset, .unset] [(.int (2 : Int32)), (.ref ra)]))
    refine own_Go.st (fun _ kt => XS.bipush X207.here hx rfl (hb hby at_127) kt) ?_
    show own_Go p e below _ (T207.setTop (mkF m 129 #[.val (.int p0), .val (.long p1), .second, .val (.int p2), .val (.int xm), .val (.int xl), .val (.int xq), .val (.ref ra), .unset, .unset, .unset] [(.int (118 : Int32)), (.int (2 : Int32)), (.ref ra)]))
    obtain ⟨T209, h209, X209, e209, W209, st209⟩ := own_cast X207 hx hZ e207 harfa1 (i := 2) (by decide) (by decide) (own_nar_char (own_c8lit (x := 118))) (g := (mkF m 129 #[.val (.int p0), .val (.long p1), .second, .val (.int p2), .val (.int xm), .val (.int xl), .val (.int xq), .val (.ref ra), .unset, .unset, .unset] [(.int (118 : Int32)), (.int (2 : Int32)), (.ref ra)])) rfl rfl (hb hby at_129)
    refine own_Go.st st209 ?_
    have N209 := Fr.snoc X209 N207 n0_ra
    have a209 := own_Ar.set harfa1 W209
    have zz210 : n0 ≤ Array.size h209 := Nat.le_trans zz208 (Nat.le_of_eq (Wr.size W209).symm)
    have kk210 : Keep h0 h209 [] := kk208.wr W209 (Or.inr b_ra)
    have hk210 : Array.size h0 ≤ Array.size h209 := Nat.le_trans hk208 (Nat.le_of_eq (Wr.size W209).symm)
    show own_Go p e below _ (T209.setTop (mkF m 130 #[.val (.int p0), .val (.long p1), .second, .val (.int p2), .val (.int xm), .val (.int xl), .val (.int xq), .val (.ref ra), .unset, .unset, .unset] []))
    obtain ⟨fa2, hfa2, harfa2⟩ : ∃ f : Nat → Int32, (∀ j, j < 8 → own_C8 (f j)) ∧ own_Ar Z h209 ra .char 8 (fun j => .int (f j)) := ⟨_, own_c8set hfa1 (own_c8lit (x := 118)), a209.congr fun j _ => own_setc fa1 _ _ j⟩
    refine own_Go.st (fun _ kt => XS.aload X209.here hx rfl (hb hby at_130) rfl rfl kt) ?_
    show own_Go p e below _ (T209.setTop (mkF m 132 #[.val (.int p0), .val (.long p1), .second, .val (.int p2), .val (.int xm), .val (.int xl), .val (.int xq), .val (.ref ra), .unset, .unset, .unset] [(.ref ra)]))
    refine own_Go.st (fun _ kt => XS.iconst X209.here hx rfl (hb hby at_132) kt) ?_
    show own_Go p e below _ (T209.setTop (mkF m 133 #[.val (.int p0), .val (.long p1), .second, .val (.int p2), .val (.int xm), .val (.int xl), .val (.int xq), .val (.ref ra), .unset, .unset, .unset] [(.int (3 : Int32)), (.ref ra)]))
    refine own_Go.st (fun _ kt => XS.bipush X209.here hx rfl (hb hby at_133) kt) ?_
    show own_Go p e below _ (T209.setTop (mkF m 135 #[.val (.int p0), .val (.long p1), .second, .val (.int p2), .val (.int xm), .val (.int xl), .val (.int xq), .val (.ref ra), .unset, .unset, .unset] [(.int (95 : Int32)), (.int (3 : Int32)), (.ref ra)]))
    obtain ⟨T211, h211, X211, e211, W211, st211⟩ := own_cast X209 hx hZ e209 harfa2 (i := 3) (by decide) (by decide) (own_nar_char (own_c8lit (x := 95))) (g := (mkF m 135 #[.val (.int p0), .val (.long p1), .second, .val (.int p2), .val (.int xm), .val (.int xl), .val (.int xq), .val (.ref ra), .unset, .unset, .unset] [(.int (95 : Int32)), (.int (3 : Int32)), (.ref ra)])) rfl rfl (hb hby at_135)
    refine own_Go.st st211 ?_
    have N211 := Fr.snoc X211 N209 n0_ra
    have a211 := own_Ar.set harfa2 W211
    have zz212 : n0 ≤ Array.size h211 := Nat.le_trans zz210 (Nat.le_of_eq (Wr.size W211).symm)
    have kk212 : Keep h0 h211 [] := kk210.wr W211 (Or.inr b_ra)
    have hk212 : Array.size h0 ≤ Array.size h211 := Nat.le_trans hk210 (Nat.le_of_eq (Wr.size W211).symm)
    show own_Go p e below _ (T211.setTop (mkF m 136 #[.val (.int p0), .val (.long p1), .second, .val (.int p2), .val (.int xm), .val (.int xl), .val (.int xq), .val (.ref ra), .unset, .unset, .unset] []))
    obtain ⟨fa3, hfa3, harfa3⟩ : ∃ f : Nat → Int32, (∀ j, j < 8 → own_C8 (f j)) ∧ own_Ar Z h211 ra .char 8 (fun j => .int (f j)) := ⟨_, own_c8set hfa2 (own_c8lit (x := 95)), a211.congr fun j _ => own_setc fa2 _ _ j⟩
    refine own_Go.st (fun _ kt => XS.aload X211.here hx rfl (hb hby at_136) rfl rfl kt) ?_
    show own_Go p e below _ (T211.setTop (mkF m 138 #[.val (.int p0), .val (.long p1), .second, .val (.int p2), .val (.int xm), .val (.int xl), .val (.int xq), .val (.ref ra), .unset, .unset, .unset] [(.ref ra)]))
    refine own_Go.st (fun _ kt => XS.iconst X211.here hx rfl (hb hby at_138) kt) ?_
    show own_Go p e below _ (T211.setTop (mkF m 139 #[.val (.int p0), .val (.long p1), .second, .val (.int p2), .val (.int xm), .val (.int xl), .val (.int xq), .val (.ref ra), .unset, .unset, .unset] [(.int (4 : Int32)), (.ref ra)]))
    refine own_Go.st (fun _ kt => XS.bipush X211.here hx rfl (hb hby at_139) kt) ?_
    show own_Go p e below _ (T211.setTop (mkF m 141 #[.val (.int p0), .val (.long p1), .second, .val (.int p2), .val (.int xm), .val (.int xl), .val (.int xq), .val (.ref ra), .unset, .unset, .unset] [(.int (118 : Int32)), (.int (4 : Int32)), (.ref ra)]))
    obtain ⟨T213, h213, X213, e213, W213, st213⟩ := own_cast X211 hx hZ e211 harfa3 (i := 4) (by decide) (by decide) (own_nar_char (own_c8lit (x := 118))) (g := (mkF m 141 #[.val (.int p0), .val (.long p1), .second, .val (.int p2), .val (.int xm), .val (.int xl), .val (.int xq), .val (.ref ra), .unset, .unset, .unset] [(.int (118 : Int32)), (.int (4 : Int32)), (.ref ra)])) rfl rfl (hb hby at_141)
    refine own_Go.st st213 ?_
    have N213 := Fr.snoc X213 N211 n0_ra
    have a213 := own_Ar.set harfa3 W213
    have zz214 : n0 ≤ Array.size h213 := Nat.le_trans zz212 (Nat.le_of_eq (Wr.size W213).symm)
    have kk214 : Keep h0 h213 [] := kk212.wr W213 (Or.inr b_ra)
    have hk214 : Array.size h0 ≤ Array.size h213 := Nat.le_trans hk212 (Nat.le_of_eq (Wr.size W213).symm)
    show own_Go p e below _ (T213.setTop (mkF m 142 #[.val (.int p0), .val (.long p1), .second, .val (.int p2), .val (.int xm), .val (.int xl), .val (.int xq), .val (.ref ra), .unset, .unset, .unset] []))
    obtain ⟨fa4, hfa4, harfa4⟩ : ∃ f : Nat → Int32, (∀ j, j < 8 → own_C8 (f j)) ∧ own_Ar Z h213 ra .char 8 (fun j => .int (f j)) := ⟨_, own_c8set hfa3 (own_c8lit (x := 118)), a213.congr fun j _ => own_setc fa3 _ _ j⟩
    refine own_Go.st (fun _ kt => XS.aload X213.here hx rfl (hb hby at_142) rfl rfl kt) ?_
    show own_Go p e below _ (T213.setTop (mkF m 144 #[.val (.int p0), .val (.long p1), .second, .val (.int p2), .val (.int xm), .val (.int xl), .val (.int xq), .val (.ref ra), .unset, .unset, .unset] [(.ref ra)]))
    refine own_Go.st (fun _ kt => XS.iconst X213.here hx rfl (hb hby at_144) kt) ?_
    show own_Go p e below _ (T213.setTop (mkF m 145 #[.val (.int p0), .val (.long p1), .second, .val (.int p2), .val (.int xm), .val (.int xl), .val (.int xq), .val (.ref ra), .unset, .unset, .unset] [(.int (5 : Int32)), (.ref ra)]))
    refine own_Go.st (fun _ kt => XS.bipush X213.here hx rfl (hb hby at_145) kt) ?_
    show own_Go p e below _ (T213.setTop (mkF m 147 #[.val (.int p0), .val (.long p1), .second, .val (.int p2), .val (.int xm), .val (.int xl), .val (.int xq), .val (.ref ra), .unset, .unset, .unset] [(.int (97 : Int32)), (.int (5 : Int32)), (.ref ra)]))
    obtain ⟨T215, h215, X215, e215, W215, st215⟩ := own_cast X213 hx hZ e213 harfa4 (i := 5) (by decide) (by decide) (own_nar_char (own_c8lit (x := 97))) (g := (mkF m 147 #[.val (.int p0), .val (.long p1), .second, .val (.int p2), .val (.int xm), .val (.int xl), .val (.int xq), .val (.ref ra), .unset, .unset, .unset] [(.int (97 : Int32)), (.int (5 : Int32)), (.ref ra)])) rfl rfl (hb hby at_147)
    refine own_Go.st st215 ?_
    have N215 := Fr.snoc X215 N213 n0_ra
    have a215 := own_Ar.set harfa4 W215
    have zz216 : n0 ≤ Array.size h215 := Nat.le_trans zz214 (Nat.le_of_eq (Wr.size W215).symm)
    have kk216 : Keep h0 h215 [] := kk214.wr W215 (Or.inr b_ra)
    have hk216 : Array.size h0 ≤ Array.size h215 := Nat.le_trans hk214 (Nat.le_of_eq (Wr.size W215).symm)
    show own_Go p e below _ (T215.setTop (mkF m 148 #[.val (.int p0), .val (.long p1), .second, .val (.int p2), .val (.int xm), .val (.int xl), .val (.int xq), .val (.ref ra), .unset, .unset, .unset] []))
    obtain ⟨fa5, hfa5, harfa5⟩ : ∃ f : Nat → Int32, (∀ j, j < 8 → own_C8 (f j)) ∧ own_Ar Z h215 ra .char 8 (fun j => .int (f j)) := ⟨_, own_c8set hfa4 (own_c8lit (x := 97)), a215.congr fun j _ => own_setc fa4 _ _ j⟩
    refine own_Go.st (fun _ kt => XS.aload X215.here hx rfl (hb hby at_148) rfl rfl kt) ?_
    show own_Go p e below _ (T215.setTop (mkF m 150 #[.val (.int p0), .val (.long p1), .second, .val (.int p2), .val (.int xm), .val (.int xl), .val (.int xq), .val (.ref ra), .unset, .unset, .unset] [(.ref ra)]))
    refine own_Go.st (fun _ kt => XS.bipush X215.here hx rfl (hb hby at_150) kt) ?_
    show own_Go p e below _ (T215.setTop (mkF m 152 #[.val (.int p0), .val (.long p1), .second, .val (.int p2), .val (.int xm), .val (.int xl), .val (.int xq), .val (.ref ra), .unset, .unset, .unset] [(.int (6 : Int32)), (.ref ra)]))
    refine own_Go.st (fun _ kt => XS.bipush X215.here hx rfl (hb hby at_152) kt) ?_
    show own_Go p e below _ (T215.setTop (mkF m 154 #[.val (.int p0), .val (.long p1), .second, .val (.int p2), .val (.int xm), .val (.int xl), .val (.int xq), .val (.ref ra), .unset, .unset, .unset] [(.int (114 : Int32)), (.int (6 : Int32)), (.ref ra)]))
    obtain ⟨T217, h217, X217, e217, W217, st217⟩ := own_cast X215 hx hZ e215 harfa5 (i := 6) (by decide) (by decide) (own_nar_char (own_c8lit (x := 114))) (g := (mkF m 154 #[.val (.int p0), .val (.long p1), .second, .val (.int p2), .val (.int xm), .val (.int xl), .val (.int xq), .val (.ref ra), .unset, .unset, .unset] [(.int (114 : Int32)), (.int (6 : Int32)), (.ref ra)])) rfl rfl (hb hby at_154)
    refine own_Go.st st217 ?_
    have N217 := Fr.snoc X217 N215 n0_ra
    have a217 := own_Ar.set harfa5 W217
    have zz218 : n0 ≤ Array.size h217 := Nat.le_trans zz216 (Nat.le_of_eq (Wr.size W217).symm)
    have kk218 : Keep h0 h217 [] := kk216.wr W217 (Or.inr b_ra)
    have hk218 : Array.size h0 ≤ Array.size h217 := Nat.le_trans hk216 (Nat.le_of_eq (Wr.size W217).symm)
    show own_Go p e below _ (T217.setTop (mkF m 155 #[.val (.int p0), .val (.long p1), .second, .val (.int p2), .val (.int xm), .val (.int xl), .val (.int xq), .val (.ref ra), .unset, .unset, .unset] []))
    obtain ⟨fa6, hfa6, harfa6⟩ : ∃ f : Nat → Int32, (∀ j, j < 8 → own_C8 (f j)) ∧ own_Ar Z h217 ra .char 8 (fun j => .int (f j)) := ⟨_, own_c8set hfa5 (own_c8lit (x := 114)), a217.congr fun j _ => own_setc fa5 _ _ j⟩
    refine own_Go.st (fun _ kt => XS.goto X217.here hx rfl (pc0 := 155) (pc' := 188) rfl (hb hby at_155) (by decide) (by decide) kt) ?_
    show own_Go p e below _ (T217.setTop (mkF m 188 #[.val (.int p0), .val (.long p1), .second, .val (.int p2), .val (.int xm), .val (.int xl), .val (.int xq), .val (.ref ra), .unset, .unset, .unset] []))
    exact J188 0 _ _ _ X217 e217 N217 _ hfa6 harfa6 zz218 kk218
  · refine own_Go.st (fun _ kt => XS.ifYes X25.here hx rfl (pc0 := 109) (pc' := 158) rfl (hb hby at_109) rfl ((if0 _ _).trans (feq hcm).2) (by decide) (by decide) kt) ?_
    show own_Go p e below _ (T25.setTop (mkF m 158 #[.val (.int p0), .val (.long p1), .second, .val (.int p2), .val (.int xm), .val (.int xl), .val (.int xq), .val (.ref ra), .unset, .unset, .unset] []))
    refine own_Go.st (fun _ kt => XS.iload X25.here hx rfl (hb hby at_158) rfl kt) ?_
    show own_Go p e below _ (T25.setTop (mkF m 160 #[.val (.int p0), .val (.long p1), .second, .val (.int p2), .val (.int xm), .val (.int xl), .val (.int xq), .val (.ref ra), .unset, .unset, .unset] [(.int xm)]))
    refine own_Go.st (fun _ kt => XS.iconst X25.here hx rfl (hb hby at_160) kt) ?_
    show own_Go p e below _ (T25.setTop (mkF m 161 #[.val (.int p0), .val (.long p1), .second, .val (.int p2), .val (.int xm), .val (.int xl), .val (.int xq), .val (.ref ra), .unset, .unset, .unset] [(.int (1 : Int32)), (.int xm)]))
    by_cases hcm1 : xm = (1 : Int32)
    · refine own_Go.st (fun _ kt => XS.icmpNo X25.here hx rfl (hb hby at_161) rfl (teq hcm1).2 kt) ?_
      show own_Go p e below _ (T25.setTop (mkF m 164 #[.val (.int p0), .val (.long p1), .second, .val (.int p2), .val (.int xm), .val (.int xl), .val (.int xq), .val (.ref ra), .unset, .unset, .unset] []))
      refine own_Go.st (fun _ kt => XS.aload X25.here hx rfl (hb hby at_164) rfl rfl kt) ?_
      show own_Go p e below _ (T25.setTop (mkF m 166 #[.val (.int p0), .val (.long p1), .second, .val (.int p2), .val (.int xm), .val (.int xl), .val (.int xq), .val (.ref ra), .unset, .unset, .unset] [(.ref ra)]))
      refine own_Go.st (fun _ kt => XS.iconst X25.here hx rfl (hb hby at_166) kt) ?_
      show own_Go p e below _ (T25.setTop (mkF m 167 #[.val (.int p0), .val (.long p1), .second, .val (.int p2), .val (.int xm), .val (.int xl), .val (.int xq), .val (.ref ra), .unset, .unset, .unset] [(.int (0 : Int32)), (.ref ra)]))
      refine own_Go.st (fun _ kt => XS.bipush X25.here hx rfl (hb hby at_167) kt) ?_
      show own_Go p e below _ (T25.setTop (mkF m 169 #[.val (.int p0), .val (.long p1), .second, .val (.int p2), .val (.int xm), .val (.int xl), .val (.int xq), .val (.ref ra), .unset, .unset, .unset] [(.int (102 : Int32)), (.int (0 : Int32)), (.ref ra)]))
      obtain ⟨T219, h219, X219, e219, W219, st219⟩ := own_cast X25 hx hZ e25 harfd7 (i := 0) (by decide) (by decide) (own_nar_char (own_c8lit (x := 102))) (g := (mkF m 169 #[.val (.int p0), .val (.long p1), .second, .val (.int p2), .val (.int xm), .val (.int xl), .val (.int xq), .val (.ref ra), .unset, .unset, .unset] [(.int (102 : Int32)), (.int (0 : Int32)), (.ref ra)])) rfl rfl (hb hby at_169)
      refine own_Go.st st219 ?_
      have N219 := Fr.snoc X219 N25 n0_ra
      have a219 := own_Ar.set harfd7 W219
      have zz220 : n0 ≤ Array.size h219 := Nat.le_trans zz26 (Nat.le_of_eq (Wr.size W219).symm)
      have kk220 : Keep h0 h219 [] := kk26.wr W219 (Or.inr b_ra)
      have hk220 : Array.size h0 ≤ Array.size h219 := Nat.le_trans hk26 (Nat.le_of_eq (Wr.size W219).symm)
      show own_Go p e below _ (T219.setTop (mkF m 170 #[.val (.int p0), .val (.long p1), .second, .val (.int p2), .val (.int xm), .val (.int xl), .val (.int xq), .val (.ref ra), .unset, .unset, .unset] []))
      obtain ⟨fb0, hfb0, harfb0⟩ : ∃ f : Nat → Int32, (∀ j, j < 8 → own_C8 (f j)) ∧ own_Ar Z h219 ra .char 8 (fun j => .int (f j)) := ⟨_, own_c8set hfd7 (own_c8lit (x := 102)), a219.congr fun j _ => own_setc fd7 _ _ j⟩
      refine own_Go.st (fun _ kt => XS.aload X219.here hx rfl (hb hby at_170) rfl rfl kt) ?_
      show own_Go p e below _ (T219.setTop (mkF m 172 #[.val (.int p0), .val (.long p1), .second, .val (.int p2), .val (.int xm), .val (.int xl), .val (.int xq), .val (.ref ra), .unset, .unset, .unset] [(.ref ra)]))
      refine own_Go.st (fun _ kt => XS.iconst X219.here hx rfl (hb hby at_172) kt) ?_
      show own_Go p e below _ (T219.setTop (mkF m 173 #[.val (.int p0), .val (.long p1), .second, .val (.int p2), .val (.int xm), .val (.int xl), .val (.int xq), .val (.ref ra), .unset, .unset, .unset] [(.int (1 : Int32)), (.ref ra)]))
      refine own_Go.st (fun _ kt => XS.bipush X219.here hx rfl (hb hby at_173) kt) ?_
      show own_Go p e below _ (T219.setTop (mkF m 175 #[.val (.int p0), .val (.long p1), .second, .val (.int p2), .val (.int xm), .val (.int xl), .val (.int xq), .val (.ref ra), .unset, .unset, .unset] [(.int (105 : Int32)), (.int (1 : Int32)), (.ref ra)]))
      obtain ⟨T221, h221, X221, e221, W221, st221⟩ := own_cast X219 hx hZ e219 harfb0 (i := 1) (by decide) (by decide) (own_nar_char (own_c8lit (x := 105))) (g := (mkF m 175 #[.val (.int p0), .val (.long p1), .second, .val (.int p2), .val (.int xm), .val (.int xl), .val (.int xq), .val (.ref ra), .unset, .unset, .unset] [(.int (105 : Int32)), (.int (1 : Int32)), (.ref ra)])) rfl rfl (hb hby at_175)
      refine own_Go.st st221 ?_
      have N221 := Fr.snoc X221 N219 n0_ra
      have a221 := own_Ar.set harfb0 W221
      have zz222 : n0 ≤ Array.size h221 := Nat.le_trans zz220 (Nat.le_of_eq (Wr.size W221).symm)
      have kk222 : Keep h0 h221 [] := kk220.wr W221 (Or.inr b_ra)
      have hk222 : Array.size h0 ≤ Array.size h221 := Nat.le_trans hk220 (Nat.le_of_eq (Wr.size W221).symm)
      show own_Go p e below _ (T221.setTop (mkF m 176 #[.val (.int p0), .val (.long p1), .second, .val (.int p2), .val (.int xm), .val (.int xl), .val (.int xq), .val (.ref ra), .unset, .unset, .unset] []))
      obtain ⟨fb1, hfb1, harfb1⟩ : ∃ f : Nat → Int32, (∀ j, j < 8 → own_C8 (f j)) ∧ own_Ar Z h221 ra .char 8 (fun j => .int (f j)) := ⟨_, own_c8set hfb0 (own_c8lit (x := 105)), a221.congr fun j _ => own_setc fb0 _ _ j⟩
      refine own_Go.st (fun _ kt => XS.aload X221.here hx rfl (hb hby at_176) rfl rfl kt) ?_
      show own_Go p e below _ (T221.setTop (mkF m 178 #[.val (.int p0), .val (.long p1), .second, .val (.int p2), .val (.int xm), .val (.int xl), .val (.int xq), .val (.ref ra), .unset, .unset, .unset] [(.ref ra)]))
      refine own_Go.st (fun _ kt => XS.iconst X221.here hx rfl (hb hby at_178) kt) ?_
      show own_Go p e below _ (T221.setTop (mkF m 179 #[.val (.int p0), .val (.long p1), .second, .val (.int p2), .val (.int xm), .val (.int xl), .val (.int xq), .val (.ref ra), .unset, .unset, .unset] [(.int (2 : Int32)), (.ref ra)]))
      refine own_Go.st (fun _ kt => XS.bipush X221.here hx rfl (hb hby at_179) kt) ?_
      show own_Go p e below _ (T221.setTop (mkF m 181 #[.val (.int p0), .val (.long p1), .second, .val (.int p2), .val (.int xm), .val (.int xl), .val (.int xq), .val (.ref ra), .unset, .unset, .unset] [(.int (108 : Int32)), (.int (2 : Int32)), (.ref ra)]))
      obtain ⟨T223, h223, X223, e223, W223, st223⟩ := own_cast X221 hx hZ e221 harfb1 (i := 2) (by decide) (by decide) (own_nar_char (own_c8lit (x := 108))) (g := (mkF m 181 #[.val (.int p0), .val (.long p1), .second, .val (.int p2), .val (.int xm), .val (.int xl), .val (.int xq), .val (.ref ra), .unset, .unset, .unset] [(.int (108 : Int32)), (.int (2 : Int32)), (.ref ra)])) rfl rfl (hb hby at_181)
      refine own_Go.st st223 ?_
      have N223 := Fr.snoc X223 N221 n0_ra
      have a223 := own_Ar.set harfb1 W223
      have zz224 : n0 ≤ Array.size h223 := Nat.le_trans zz222 (Nat.le_of_eq (Wr.size W223).symm)
      have kk224 : Keep h0 h223 [] := kk222.wr W223 (Or.inr b_ra)
      have hk224 : Array.size h0 ≤ Array.size h223 := Nat.le_trans hk222 (Nat.le_of_eq (Wr.size W223).symm)
      show own_Go p e below _ (T223.setTop (mkF m 182 #[.val (.int p0), .val (.long p1), .second, .val (.int p2), .val (.int xm), .val (.int xl), .val (.int xq), .val (.ref ra), .unset, .unset, .unset] []))
      obtain ⟨fb2, hfb2, harfb2⟩ : ∃ f : Nat → Int32, (∀ j, j < 8 → own_C8 (f j)) ∧ own_Ar Z h223 ra .char 8 (fun j => .int (f j)) := ⟨_, own_c8set hfb1 (own_c8lit (x := 108)), a223.congr fun j _ => own_setc fb1 _ _ j⟩
      refine own_Go.st (fun _ kt => XS.aload X223.here hx rfl (hb hby at_182) rfl rfl kt) ?_
      show own_Go p e below _ (T223.setTop (mkF m 184 #[.val (.int p0), .val (.long p1), .second, .val (.int p2), .val (.int xm), .val (.int xl), .val (.int xq), .val (.ref ra), .unset, .unset, .unset] [(.ref ra)]))
      refine own_Go.st (fun _ kt => XS.iconst X223.here hx rfl (hb hby at_184) kt) ?_
      show own_Go p e below _ (T223.setTop (mkF m 185 #[.val (.int p0), .val (.long p1), .second, .val (.int p2), .val (.int xm), .val (.int xl), .val (.int xq), .val (.ref ra), .unset, .unset, .unset] [(.int (3 : Int32)), (.ref ra)]))
      refine own_Go.st (fun _ kt => XS.bipush X223.here hx rfl (hb hby at_185) kt) ?_
      show own_Go p e below _ (T223.setTop (mkF m 187 #[.val (.int p0), .val (.long p1), .second, .val (.int p2), .val (.int xm), .val (.int xl), .val (.int xq), .val (.ref ra), .unset, .unset, .unset] [(.int (101 : Int32)), (.int (3 : Int32)), (.ref ra)]))
      obtain ⟨T225, h225, X225, e225, W225, st225⟩ := own_cast X223 hx hZ e223 harfb2 (i := 3) (by decide) (by decide) (own_nar_char (own_c8lit (x := 101))) (g := (mkF m 187 #[.val (.int p0), .val (.long p1), .second, .val (.int p2), .val (.int xm), .val (.int xl), .val (.int xq), .val (.ref ra), .unset, .unset, .unset] [(.int (101 : Int32)), (.int (3 : Int32)), (.ref ra)])) rfl rfl (hb hby at_187)
      refine own_Go.st st225 ?_
      have N225 := Fr.snoc X225 N223 n0_ra
      have a225 := own_Ar.set harfb2 W225
      have zz226 : n0 ≤ Array.size h225 := Nat.le_trans zz224 (Nat.le_of_eq (Wr.size W225).symm)
      have kk226 : Keep h0 h225 [] := kk224.wr W225 (Or.inr b_ra)
      have hk226 : Array.size h0 ≤ Array.size h225 := Nat.le_trans hk224 (Nat.le_of_eq (Wr.size W225).symm)
      show own_Go p e below _ (T225.setTop (mkF m 188 #[.val (.int p0), .val (.long p1), .second, .val (.int p2), .val (.int xm), .val (.int xl), .val (.int xq), .val (.ref ra), .unset, .unset, .unset] []))
      obtain ⟨fb3, hfb3, harfb3⟩ : ∃ f : Nat → Int32, (∀ j, j < 8 → own_C8 (f j)) ∧ own_Ar Z h225 ra .char 8 (fun j => .int (f j)) := ⟨_, own_c8set hfb2 (own_c8lit (x := 101)), a225.congr fun j _ => own_setc fb2 _ _ j⟩
      exact J188 0 _ _ _ X225 e225 N225 _ hfb3 harfb3 zz226 kk226
    · refine own_Go.st (fun _ kt => XS.icmpYes X25.here hx rfl (pc0 := 161) (pc' := 188) rfl (hb hby at_161) rfl (feq hcm1).2 (by decide) (by decide) kt) ?_
      show own_Go p e below _ (T25.setTop (mkF m 188 #[.val (.int p0), .val (.long p1), .second, .val (.int p2), .val (.int xm), .val (.int xl), .val (.int xq), .val (.ref ra), .unset, .unset, .unset] []))
      exact J188 0 _ _ _ X25 e25 N25 _ hfd7 harfd7 zz26 kk26
set_option maxRecDepth 65536 in
set_option maxHeartbeats 40000000 in
theorem own_comes_1 {Post : Tables → Env → Array Value → State → Outcome → State → Prop} (hpost : ∀ tb e args s v u, (limb_1_1.after args s (.returned v) u = true ∧ limb_1_2.after args s (.returned v) u = true ∧ True) → ReturnedEndW s (.returned v) u (Jvm.fieldLocs frame_1_writes args s ++ Jvm.arrayLocs frame_1_arrays args s ++ Jvm.staticLocs frame_1_statics s) 32 3264 → Post tb e args s (.returned v) u) :
    ArmFor flags0 classFile x code maxLocals ret World_1 tables_1 room_1 Calls_1 rest_1 Pre_1 Post := by
  intro l hfl _ _ p e ha hc hk s m args below hf hA hF happ hP
  obtain ⟨hcalls, hrest, hpre⟩ := hP
  obtain ⟨-, -, -, hnamed, -, -, -, hat⟩ := (Spec.applies_iff hf).mp happ
  obtain ⟨hg, hn⟩ := and_e (Cond.before_iff.mp (show (Jvm.Cond.and given_1 narrow_1).before args s = true from hpre))
  obtain ⟨hg0, hg1⟩ := and_e hg
  obtain ⟨ha0, hb0⟩ := and_e hg1
  obtain ⟨ha1, hb1⟩ := and_e hb0
  obtain ⟨w0, w1, w2, rfl⟩ : ∃ w0 w1 w2 : Value, args = #[w0, w1, w2] := by
    have hs : args.size = 3 := by simpa [Cond.value, given_1] using hg0
    obtain ⟨L⟩ := args
    match L, hs with
    | [w0, w1, w2], _ => exact ⟨w0, w1, w2, rfl⟩
  have hw := fun d (hd : d ∈ tables_1) => atoms_spec (ws := Jvm.Cond.code x code maxLocals ret :: tables_1) hat d (List.mem_cons_of_mem _ hd)
  have hfit : Fit s := fun {y c} hc i hi => by
    obtain ⟨ha, rfl⟩ := Array.getElem?_eq_some_iff.mp hc
    have q := List.all_eq_true.mp ((Array.all_eq_true_iff_forall_mem.mp hF) _ (Array.getElem_mem ha)) i (List.mem_range.mpr hi)
    simpa [Array.getElem?_eq_getElem hi] using q
  obtain ⟨p0, ep0⟩ := is_v ha0
  obtain rfl : w0 = (.int p0) := Option.some.inj ep0
  obtain ⟨p1, ep1⟩ := isL_v ha1
  obtain rfl : w1 = (.long p1) := Option.some.inj ep1
  obtain ⟨p2, ep2⟩ := is_v hb1
  obtain rfl : w2 = (.int p2) := Option.some.inj ep2
  obtain ⟨hsets, hown0⟩ := atoms_of _ (rest_1_c_eq ▸ (show rest_1_c.before _ s = true from hrest))
  obtain ⟨m0, hm0⟩ := and_e hn
  obtain ⟨m1, hm1⟩ := and_e hm0
  obtain ⟨m2, hm2⟩ := and_e hm1
  obtain ⟨m3, hm3⟩ := and_e hm2
  obtain ⟨m4, hm4⟩ := and_e hm3
  obtain ⟨m5, hm5⟩ := and_e hm4
  obtain ⟨m6, hm6⟩ := and_e hm5
  obtain ⟨m7, hm7⟩ := and_e hm6
  obtain ⟨m8, hm8⟩ := and_e hm7
  obtain ⟨m9, hm9⟩ := and_e hm8
  obtain ⟨m10, hm10⟩ := and_e hm9
  obtain ⟨m11, hm11⟩ := and_e hm10
  obtain ⟨m12, hm12⟩ := and_e hm11
  obtain ⟨m13, hm13⟩ := and_e hm12
  obtain ⟨m14, hm14⟩ := and_e hm13
  obtain ⟨m15, hm15⟩ := and_e hm14
  obtain ⟨m16, hm16⟩ := and_e hm15
  obtain ⟨m17, hm17⟩ := and_e hm16
  obtain ⟨m18, hm18⟩ := and_e hm17
  obtain ⟨m19, hm19⟩ := and_e hm18
  obtain ⟨m20, hm20⟩ := and_e hm19
  obtain ⟨m21, hm21⟩ := and_e hm20
  obtain ⟨m22, hm22⟩ := and_e hm21
  obtain ⟨m23, hm23⟩ := and_e hm22
  obtain ⟨m24, m25⟩ := and_e hm23
  obtain ⟨rv, v_v⟩ := arr_v m0
  have sV := Sta.start v_v (Or.inr ⟨(hw _ (List.mem_of_getElem? (i := 45) rfl)), (hw _ (List.mem_of_getElem? (i := 51) rfl))⟩)
  have eV := Exa.start v_v m1
  obtain ⟨fv, aV, hv⟩ := own_arr_start (n := 2) v_v m0 m2 (by decide)
  obtain ⟨aE, v_E⟩ := exa_v m3
  have sEV := Sta.start v_E (Or.inr ⟨(hw _ (List.mem_of_getElem? (i := 45) rfl)), (hw _ (List.mem_of_getElem? (i := 59) rfl))⟩)
  obtain ⟨aF, v_F⟩ := exa_v m5
  have sFI := Sta.start v_F (Or.inr ⟨(hw _ (List.mem_of_getElem? (i := 45) rfl)), (hw _ (List.mem_of_getElem? (i := 60) rfl))⟩)
  have hv0 : fv 0 = .ref aE := Option.some.inj ((hv 0 (by decide) 0 (by decide)).symm.trans (own_eqref v_E rfl m4))
  have hv1 : fv 1 = .ref aF := Option.some.inj ((hv 1 (by decide) 1 (by decide)).symm.trans (own_eqref v_F rfl m6))
  have hF : ∀ c : Cell, Arr s s.heap rv c (.object "com/example/marshal/marshal/variables/VariableType") → FitC s c := fun c A => FitC.start hfit A
  obtain ⟨nE, v_nE⟩ := exa_v m7
  have fAE := Fld.start ((fld_at v_E).symm.trans v_nE)
  obtain ⟨bE, fSE⟩ := own_Str.start (n := 7) v_nE m7 m8 m9 m10 (by decide) [101, 110, 118, 95, 118, 97, 114] (fun k hk => by
    have : k = 0 ∨ k = 1 ∨ k = 2 ∨ k = 3 ∨ k = 4 ∨ k = 5 ∨ k = 6 := by omega
    rcases this with rfl | rfl | rfl | rfl | rfl | rfl | rfl
    · exact ⟨0, by decide, m19⟩
    · exact ⟨1, by decide, m20⟩
    · exact ⟨2, by decide, m21⟩
    · exact ⟨3, by decide, m22⟩
    · exact ⟨4, by decide, m23⟩
    · exact ⟨5, by decide, m24⟩
    · exact ⟨6, by decide, m25⟩)
  obtain ⟨nF, v_nF⟩ := exa_v m11
  have fAF := Fld.start ((fld_at v_F).symm.trans v_nF)
  obtain ⟨bF, fSF⟩ := own_Str.start (n := 4) v_nF m11 m12 m13 m14 (by decide) [102, 105, 108, 101] (fun k hk => by
    have : k = 0 ∨ k = 1 ∨ k = 2 ∨ k = 3 := by omega
    rcases this with rfl | rfl | rfl | rfl
    · exact ⟨0, by decide, m15⟩
    · exact ⟨1, by decide, m16⟩
    · exact ⟨2, by decide, m17⟩
    · exact ⟨3, by decide, m18⟩)
  obtain ⟨zc, v_z⟩ := is_v (Cond.before_iff.mp (hsets _ (List.mem_of_getElem? (i := 1) rfl)))
  have cs := Sta.start v_z (Or.inl (hsets _ (List.mem_of_getElem? (i := 0) rfl)))
  have hzc : ¬ zc = 0 := fun q => by
    subst q
    have h := (Cond.before_iff.mp (hsets _ (List.mem_of_getElem? (i := 2) rfl)))
    rw [show (Cond.not (Cond.eq (Term.static "java/lang/String" "COMPACT_STRINGS" "Z") (Term.int 0))).value _ s none s [] = ((Cond.eq (Term.static "java/lang/String" "COMPACT_STRINGS" "Z") (Term.int 0)).value _ s none s []).map (!·) from rfl, Cond.eq_ints v_z (Term.int_eval (0))] at h
    simp at h
  obtain ⟨ro0, v_o⟩ := exa_v (Cond.before_iff.mp (hsets _ (List.mem_of_getElem? (i := 11) rfl)))
  have sE := Sta.start v_o (Or.inl (hsets _ (List.mem_of_getElem? (i := 10) rfl)))
  have eO := Exa.start v_o (Cond.before_iff.mp (hsets _ (List.mem_of_getElem? (i := 11) rfl)))
  have fO := Fld.start ((fld_at v_o).symm.trans (own_eqref (y := .null) rfl rfl (Cond.before_iff.mp (hsets _ (List.mem_of_getElem? (i := 12) rfl)))))
  obtain ⟨n, o, h1, h2, h3, _, L, rfl, ⟨rfl, N⟩, hq⟩ := own_law l s _ hw tables_1 p0 p1 p2 rv fv aE aF nE nF bE bF ro0 zc s.heap s.heap.size (Nat.le_refl _) sV aV eV hF fAE fAF fSE fSF hv0 hv1 sE eO fO cs hzc sEV sFI (fun _ _ q => q) (hcalls.1 ("java/lang/String", 7) (by decide)) (hcalls.1 ("com/example/marshal/marshal/variables/VariableTypeNamedPinLaw", 22) (by decide)) (hcalls.1 ("com/example/marshal/marshal/variables/VariableTypeNamedPinLaw", 34) (by decide)) (hsets _ (List.mem_of_getElem? (i := 2) rfl)) rfl p e ha hc hk s m _ below hf ((Spec.applies_iff_loose hf).mp happ).1 ⟨rfl, State.Warmed39.refl s, rfl, IB.start⟩ trivial
  refine ⟨n, _, h1, h2, h3, hpost _ _ _ _ _ _ ⟨Cond.after_iff.mpr rfl, Cond.after_iff.mpr (eq_i res_at (Term.int_eval (1)) rfl), trivial⟩ ⟨hq.1, hq.2.1, hq.2.2.1, (hq.2.2.2.sift fun y hy => Or.inr (N y hy)).mono (by decide) (by decide)⟩⟩
theorem main_1_1 : Claimed_1_1 := own_comes_1 fun _ _ _ _ _ _ h hF => ⟨h.1, hF⟩
theorem main_1_2 : Claimed_1_2 := own_comes_1 fun _ _ _ _ _ _ h hF => ⟨h.2.1, hF⟩

end Jvm.Pilot.@@N@@
namespace Jvm.Pilot.@@N@@
open Jvm Jvm.ClassFile Sem Op Lib Jvm.Free Jvm.Stand Jvm.Pilot.@@N@@.Jvm.D
/-! MADE BY PROGRAM (witnessworld.py) out of the Statement's table words and the real class files: 24 classes; the members and pool entries that the words name. The judged class is class 1, her method 1. -/
namespace start1
open Jvm.ClassFile
def u (s : String) : CpInfo := .utf8 (stringToUtf16 s)
/-- a pool by its gaps: so many unusable entries, then the entry; so many at the end -/
def gap : Nat → List CpInfo → List CpInfo
  | 0, r => r
  | n + 1, r => .unusable :: gap n r
def poolList (es : List (Nat × CpInfo)) (last : Nat) : List CpInfo := es.foldr (fun e r => gap e.1 (e.2 :: r)) (gap last [])
def pool (es : List (Nat × CpInfo)) (last : Nat) : Array CpInfo := ⟨poolList es last⟩
def fileOf (pool : Array CpInfo) (this : Nat) (attrs : Array Attribute := #[]) (ms : Array MethodInfo := #[]) (fl : Nat := 33) (sup : Nat := 0) (ifs : Array Nat := #[]) (fds : Array FieldInfo := #[]) : ClassFile where
  minorVersion := 0
  majorVersion := 65
  constantPool := pool
  accessFlags := fl
  thisClass := this
  superClass := sup
  interfaces := ifs
  fields := fds
  methods := ms
  attributes := attrs
def plain (name : String) (sup : Option ClassId) : Class where
  name := name
  kind := .ordinary
  loader := none
  accessFlags := 33
  super := sup
  interfaces := #[]
  cf := none
  fields := #[]
  methods := #[]
  instanceTypes := #[]
  staticTypes := #[]
  resolved := #[]
  callSites := []
  init := .initialized
  statics := none
  mirror := none

def pool0 : Array CpInfo := pool [(5, u "<init>"), (0, u "()V"), (1, .class_ 10), (1, u "java/lang/Object"), (85, u "clone"), (0, u "()Ljava/lang/Object;")] 26

def k0c0 : Code := { maxStack := 0, maxLocals := 1, code := object_method_1_code, exceptionTable := #[], attributes := #[] }
def k0m0 : Method := { name := "<init>", desc := "()V", sig := { parameters := [], returnType := none }, accessFlags := 1, code := some k0c0 }
def k0m1 : Method := { name := "clone", desc := "()Ljava/lang/Object;", sig := { parameters := [], returnType := some (.object "java/lang/Object") }, accessFlags := 260, code := none }
/-- java/lang/Object -/
def k0 : Class := { plain "java/lang/Object" none with
  accessFlags := 33
  interfaces := #[]
  cf := some (fileOf pool0 8 #[] #[{ accessFlags := 1, nameIndex := 5, descriptorIndex := 6, attributes := #[] }, { accessFlags := 260, nameIndex := 96, descriptorIndex := 97, attributes := #[] }] 33 0 #[] #[])
  fields := #[]
  methods := #[k0m0, k0m1]
  instanceTypes := #[]
  staticTypes := #[]
  resolved := Array.replicate 124 none
  statics := none }

def pool1 : Array CpInfo := pool [(2, .class_ 4), (1, u "java/lang/Object"), (0, u "<init>"), (0, u "()V"), (0, .methodref 8 9), (0, .class_ 10), (0, .nameAndType 11 12), (0, u "com/example/marshal/marshal/variables/VariableTypeNamedPinLaw"), (0, u "d"), (0, u "(JI)C"), (0, .class_ 14), (0, u "java/lang/String"), (0, .methodref 8 16), (0, .nameAndType 17 18), (0, u "take"), (0, u "([CI)[C"), (0, .methodref 13 20), (0, .nameAndType 5 21), (0, u "([C)V"), (0, .string 23), (0, u "env_var"), (0, .methodref 13 25), (0, .nameAndType 26 27), (0, u "equals"), (0, u "(Ljava/lang/Object;)Z"), (0, .fieldref 29 30), (0, .class_ 31), (0, .nameAndType 32 33), (0, u "com/example/marshal/marshal/variables/VariableType"), (0, u "ENV_VAR"), (0, u "Lcom/example/marshal/marshal/variables/VariableType;"), (0, .string 35), (0, u "file"), (0, .fieldref 29 37), (0, .nameAndType 38 33), (0, u "FILE"), (0, .methodref 29 40), (0, .nameAndType 41 42), (0, u "named"), (0, u "(Ljava/lang/String;)Ljava/util/Optional;"), (0, .methodref 44 45), (0, .class_ 46), (0, .nameAndType 47 48), (0, u "java/util/Optional"), (0, u "isPresent"), (0, u "()Z"), (0, .methodref 44 50), (0, .nameAndType 51 52), (0, u "get"), (0, u "()Ljava/lang/Object;"), (0, .long 255), (3, u "law"), (0, u "(IJI)Z")] 5

def k1m0 : Method := { name := "<init>", desc := "()V", sig := { parameters := [], returnType := none }, accessFlags := 1, code := none }
def k1c1 : Code := { maxStack := 5, maxLocals := 11, code := code, exceptionTable := #[], attributes := #[] }
def k1m1 : Method := { name := "law", desc := "(IJI)Z", sig := { parameters := [.int, .long, .int], returnType := some .boolean }, accessFlags := 9, code := some k1c1 }
def k1c2 : Code := { maxStack := 4, maxLocals := 3, code := method_3_code, exceptionTable := #[], attributes := #[] }
def k1m2 : Method := { name := "d", desc := "(JI)C", sig := { parameters := [.long, .int], returnType := some .char }, accessFlags := 10, code := some k1c2 }
def k1c3 : Code := { maxStack := 5, maxLocals := 2, code := method_4_code, exceptionTable := #[], attributes := #[] }
def k1m3 : Method := { name := "take", desc := "([CI)[C", sig := { parameters := [(.array .char), .int], returnType := some (.array .char) }, accessFlags := 10, code := some k1c3 }
/-- com/example/marshal/marshal/variables/VariableTypeNamedPinLaw -/
def k1 : Class := { plain "com/example/marshal/marshal/variables/VariableTypeNamedPinLaw" (some 0) with
  accessFlags := 49
  interfaces := #[]
  cf := some (fileOf pool1 8 #[] #[{ accessFlags := 1, nameIndex := 5, descriptorIndex := 6, attributes := #[] }, { accessFlags := 9, nameIndex := 57, descriptorIndex := 58, attributes := #[] }, { accessFlags := 10, nameIndex := 11, descriptorIndex := 12, attributes := #[] }, { accessFlags := 10, nameIndex := 17, descriptorIndex := 18, attributes := #[] }] 49 2 #[] #[])
  fields := #[]
  methods := #[k1m0, k1m1, k1m2, k1m3]
  instanceTypes := #[]
  staticTypes := #[]
  resolved := Array.replicate 64 none
  statics := none }

def pool2 : Array CpInfo := pool [(1, .class_ 2), (0, u "java/io/Serializable"), (0, .class_ 4), (0, u "java/lang/Object")] 2

/-- java/io/Serializable -/
def k2 : Class := { plain "java/io/Serializable" (some 0) with
  accessFlags := 1537
  interfaces := #[]
  cf := some (fileOf pool2 1 #[] #[] 1537 3 #[] #[])
  fields := #[]
  methods := #[]
  instanceTypes := #[]
  staticTypes := #[]
  resolved := Array.replicate 7 none
  statics := none }

def pool3 : Array CpInfo := pool [(1, .class_ 2), (0, u "java/lang/Comparable"), (0, .class_ 4), (0, u "java/lang/Object")] 7

/-- java/lang/Comparable -/
def k3 : Class := { plain "java/lang/Comparable" (some 0) with
  accessFlags := 1537
  interfaces := #[]
  cf := some (fileOf pool3 1 #[] #[] 1537 3 #[] #[])
  fields := #[]
  methods := #[]
  instanceTypes := #[]
  staticTypes := #[]
  resolved := Array.replicate 12 none
  statics := none }

def pool4 : Array CpInfo := pool [(2, .class_ 4), (1, u "java/lang/CharSequence"), (42, .class_ 48), (0, u "java/lang/CharSequence$1CodePointIterator"), (10, .class_ 60), (0, u "java/lang/CharSequence$1CharIterator"), (5, .class_ 67), (0, u "java/lang/Object")] 63

/-- java/lang/CharSequence -/
def k4 : Class := { plain "java/lang/CharSequence" (some 0) with
  accessFlags := 1537
  interfaces := #[]
  cf := some (fileOf pool4 2 #[.nestMembers #[47, 59]] #[] 1537 66 #[] #[])
  fields := #[]
  methods := #[]
  instanceTypes := #[]
  staticTypes := #[]
  resolved := Array.replicate 131 none
  statics := none }

def pool5 : Array CpInfo := pool [(1, .class_ 2), (0, u "java/lang/constant/Constable"), (0, .class_ 4), (0, u "java/lang/Object")] 6

/-- java/lang/constant/Constable -/
def k5 : Class := { plain "java/lang/constant/Constable" (some 0) with
  accessFlags := 1537
  interfaces := #[]
  cf := some (fileOf pool5 1 #[] #[] 1537 3 #[] #[])
  fields := #[]
  methods := #[]
  instanceTypes := #[]
  staticTypes := #[]
  resolved := Array.replicate 11 none
  statics := none }

def pool6 : Array CpInfo := pool [(1, .class_ 2), (0, u "java/lang/constant/ConstantDesc"), (0, .class_ 4), (0, u "java/lang/Object")] 32

/-- java/lang/constant/ConstantDesc -/
def k6 : Class := { plain "java/lang/constant/ConstantDesc" (some 0) with
  accessFlags := 1537
  interfaces := #[]
  cf := some (fileOf pool6 1 #[] #[] 1537 3 #[] #[])
  fields := #[]
  methods := #[]
  instanceTypes := #[]
  staticTypes := #[]
  resolved := Array.replicate 37 none
  statics := none }

def pool7 : Array CpInfo := pool [(1, .methodref 2 3), (0, .class_ 4), (0, .nameAndType 5 6), (0, u "java/lang/Object"), (0, u "<init>"), (0, u "()V"), (0, .string 8), (0, u ""), (0, .fieldref 10 11), (0, .class_ 12), (0, .nameAndType 13 14), (0, u "java/lang/String"), (0, u "value"), (0, u "[B"), (0, .fieldref 10 16), (0, .nameAndType 17 18), (0, u "coder"), (0, u "B"), (2, u "hash"), (0, u "I"), (2, u "hashIsZero"), (0, u "Z"), (0, .methodref 10 28), (0, .nameAndType 5 29), (0, u "([CIILjava/lang/Void;)V"), (8, .fieldref 10 39), (0, .nameAndType 40 26), (0, u "COMPACT_STRINGS"), (1, .class_ 44), (1, u "java/lang/StringUTF16"), (0, u "compress"), (1, .methodref 42 48), (0, .nameAndType 49 50), (0, u "coderFromArrayLen"), (0, u "([BI)B"), (56, .class_ 109), (1, u "java/lang/StringLatin1"), (67, .methodref 42 178), (0, .nameAndType 45 179), (0, u "([CII)[B"), (361, .methodref 107 542), (0, .nameAndType 543 544), (0, u "equals"), (0, u "([B[B)Z"), (28, u "(Ljava/lang/Object;)Z"), (1, .class_ 576), (0, u "java/lang/CharSequence"), (22, u "CASE_INSENSITIVE_ORDER"), (0, u "Ljava/util/Comparator;"), (409, u "([C)V"), (90, u "serialPersistentFields"), (0, u "[Ljava/io/ObjectStreamField;"), (0, .class_ 1104), (0, u "java/lang/String$CaseInsensitiveComparator"), (1, .class_ 1107), (0, u "java/io/Serializable"), (0, .class_ 1109), (0, u "java/lang/Comparable"), (0, .class_ 1111), (0, u "java/lang/constant/Constable"), (0, .class_ 1113), (0, u "java/lang/constant/ConstantDesc"), (2, u "serialVersionUID"), (0, u "J"), (3, u "REPL"), (0, u "C"), (2, u "LATIN1"), (1, u "UTF16")] 323

def k7m0 : Method := { name := "<init>", desc := "()V", sig := { parameters := [], returnType := none }, accessFlags := 1, code := none }
def k7c1 : Code := { maxStack := 5, maxLocals := 2, code := jdk_42_method_3_code, exceptionTable := #[], attributes := #[] }
def k7m1 : Method := { name := "<init>", desc := "([C)V", sig := { parameters := [(.array .char)], returnType := none }, accessFlags := 1, code := some k7c1 }
def k7c2 : Code := { maxStack := 2, maxLocals := 3, code := jdk_42_method_66_code, exceptionTable := #[], attributes := #[] }
def k7m2 : Method := { name := "equals", desc := "(Ljava/lang/Object;)Z", sig := { parameters := [(.object "java/lang/Object")], returnType := some .boolean }, accessFlags := 1, code := some k7c2 }
def k7c3 : Code := { maxStack := 4, maxLocals := 6, code := jdk_42_method_149_code, exceptionTable := #[], attributes := #[] }
def k7m3 : Method := { name := "<init>", desc := "([CIILjava/lang/Void;)V", sig := { parameters := [(.array .char), .int, .int, (.object "java/lang/Void")], returnType := none }, accessFlags := 2, code := some k7c3 }
/-- java/lang/String -/
def k7 : Class := { plain "java/lang/String" (some 0) with
  accessFlags := 49
  interfaces := #[2, 3, 4, 5, 6]
  cf := some (fileOf pool7 10 #[.nestMembers #[1103]] #[{ accessFlags := 1, nameIndex := 5, descriptorIndex := 6, attributes := #[] }, { accessFlags := 1, nameIndex := 5, descriptorIndex := 1010, attributes := #[] }, { accessFlags := 1, nameIndex := 543, descriptorIndex := 573, attributes := #[] }, { accessFlags := 2, nameIndex := 5, descriptorIndex := 29, attributes := #[] }] 49 2 #[1106, 1108, 575, 1110, 1112] #[{ accessFlags := 18, nameIndex := 13, descriptorIndex := 14, attributes := #[] }, { accessFlags := 18, nameIndex := 17, descriptorIndex := 18, attributes := #[] }, { accessFlags := 2, nameIndex := 21, descriptorIndex := 22, attributes := #[] }, { accessFlags := 2, nameIndex := 25, descriptorIndex := 26, attributes := #[] }, { accessFlags := 26, nameIndex := 1116, descriptorIndex := 1117, attributes := #[] }, { accessFlags := 24, nameIndex := 40, descriptorIndex := 26, attributes := #[] }, { accessFlags := 26, nameIndex := 1101, descriptorIndex := 1102, attributes := #[] }, { accessFlags := 26, nameIndex := 1121, descriptorIndex := 1122, attributes := #[] }, { accessFlags := 25, nameIndex := 599, descriptorIndex := 600, attributes := #[] }, { accessFlags := 24, nameIndex := 1125, descriptorIndex := 18, attributes := #[] }, { accessFlags := 24, nameIndex := 1127, descriptorIndex := 18, attributes := #[] }])
  fields := #[{ name := "value", type := (.array .byte), accessFlags := 18, slot := 0, constantValue := 0 }, { name := "coder", type := .byte, accessFlags := 18, slot := 1, constantValue := 0 }, { name := "hash", type := .int, accessFlags := 2, slot := 2, constantValue := 0 }, { name := "hashIsZero", type := .boolean, accessFlags := 2, slot := 3, constantValue := 0 }, { name := "serialVersionUID", type := .long, accessFlags := 26, slot := 0, constantValue := 0 }, { name := "COMPACT_STRINGS", type := .boolean, accessFlags := 24, slot := 1, constantValue := 0 }, { name := "serialPersistentFields", type := (.array (.object "java/io/ObjectStreamField")), accessFlags := 26, slot := 2, constantValue := 0 }, { name := "REPL", type := .char, accessFlags := 26, slot := 3, constantValue := 0 }, { name := "CASE_INSENSITIVE_ORDER", type := (.object "java/util/Comparator"), accessFlags := 25, slot := 4, constantValue := 0 }, { name := "LATIN1", type := .byte, accessFlags := 24, slot := 5, constantValue := 0 }, { name := "UTF16", type := .byte, accessFlags := 24, slot := 6, constantValue := 0 }]
  methods := #[k7m0, k7m1, k7m2, k7m3]
  instanceTypes := #[(.array .byte), .byte, .int, .boolean]
  staticTypes := #[.long, .boolean, (.array (.object "java/io/ObjectStreamField")), .char, (.object "java/util/Comparator"), .byte, .byte]
  resolved := Array.replicate 1451 none
  statics := some 0 }

def pool8 : Array CpInfo := pool [(4, .class_ 6), (1, u "java/lang/Object"), (0, u "<init>"), (0, u "()V"), (5, .class_ 16), (1, u "java/lang/StringLatin1"), (104, u "$assertionsDisabled"), (0, u "Z"), (98, .class_ 223), (1, u "java/lang/StringLatin1$LinesSpliterator"), (57, u "equals"), (0, u "([B[B)Z"), (107, .class_ 391), (0, u "java/lang/StringLatin1$CharsSpliterator")] 3

def k8m0 : Method := { name := "<init>", desc := "()V", sig := { parameters := [], returnType := none }, accessFlags := 0, code := none }
def k8c1 : Code := { maxStack := 3, maxLocals := 3, code := jdk_43_method_13_code, exceptionTable := #[], attributes := #[] }
def k8m1 : Method := { name := "equals", desc := "([B[B)Z", sig := { parameters := [(.array .byte), (.array .byte)], returnType := some .boolean }, accessFlags := 9, code := some k8c1 }
/-- java/lang/StringLatin1 -/
def k8 : Class := { plain "java/lang/StringLatin1" (some 0) with
  accessFlags := 48
  interfaces := #[]
  cf := some (fileOf pool8 14 #[.nestMembers #[390, 221]] #[{ accessFlags := 0, nameIndex := 7, descriptorIndex := 8, attributes := #[] }, { accessFlags := 9, nameIndex := 281, descriptorIndex := 282, attributes := #[] }] 48 4 #[] #[{ accessFlags := 4120, nameIndex := 121, descriptorIndex := 122, attributes := #[] }])
  fields := #[{ name := "$assertionsDisabled", type := .boolean, accessFlags := 4120, slot := 0, constantValue := 0 }]
  methods := #[k8m0, k8m1]
  instanceTypes := #[]
  staticTypes := #[.boolean]
  resolved := Array.replicate 395 none
  statics := none }

def pool9 : Array CpInfo := pool [(2, .class_ 4), (1, u "java/lang/Enum"), (0, u "name"), (0, u "Ljava/lang/String;"), (2, u "ordinal"), (0, u "I"), (1, .class_ 14), (1, u "java/lang/Object"), (4, u "hash"), (86, .class_ 108), (1, u "java/lang/Enum$EnumDesc"), (2, .class_ 112), (0, u "java/lang/constant/Constable"), (0, .class_ 114), (0, u "java/lang/Comparable"), (0, .class_ 116), (0, u "java/io/Serializable")] 87

/-- java/lang/Enum -/
def k9 : Class := { plain "java/lang/Enum" (some 0) with
  accessFlags := 1057
  interfaces := #[5, 3, 2]
  cf := some (fileOf pool9 2 #[.nestMembers #[106]] #[] 1057 12 #[111, 113, 115] #[{ accessFlags := 18, nameIndex := 5, descriptorIndex := 6, attributes := #[] }, { accessFlags := 18, nameIndex := 9, descriptorIndex := 10, attributes := #[] }, { accessFlags := 2, nameIndex := 19, descriptorIndex := 10, attributes := #[] }])
  fields := #[{ name := "name", type := (.object "java/lang/String"), accessFlags := 18, slot := 0, constantValue := 0 }, { name := "ordinal", type := .int, accessFlags := 18, slot := 1, constantValue := 0 }, { name := "hash", type := .int, accessFlags := 2, slot := 2, constantValue := 0 }]
  methods := #[]
  instanceTypes := #[(.object "java/lang/String"), .int, .int]
  staticTypes := #[]
  resolved := Array.replicate 204 none
  statics := none }

def pool10 : Array CpInfo := pool [(1, .class_ 2), (0, u "com/example/marshal/marshal/variables/VariableType"), (2, u "ENV_VAR"), (0, u "Lcom/example/marshal/marshal/variables/VariableType;"), (2, u "FILE"), (0, .fieldref 1 11), (0, .nameAndType 12 13), (0, u "$VALUES"), (0, u "[Lcom/example/marshal/marshal/variables/VariableType;"), (0, .methodref 15 16), (0, .class_ 13), (0, .nameAndType 17 18), (0, u "clone"), (0, u "()Ljava/lang/Object;"), (1, .class_ 22), (1, u "java/lang/Enum"), (6, .fieldref 1 30), (0, .nameAndType 31 32), (0, u "apiName"), (0, u "Ljava/lang/String;"), (0, .methodref 1 34), (0, .nameAndType 35 36), (0, u "values"), (0, u "()[Lcom/example/marshal/marshal/variables/VariableType;"), (0, .methodref 38 39), (0, .class_ 40), (0, .nameAndType 41 42), (0, u "java/lang/String"), (0, u "equals"), (0, u "(Ljava/lang/Object;)Z"), (0, .methodref 44 45), (0, .class_ 46), (0, .nameAndType 47 48), (0, u "java/util/Optional"), (0, u "of"), (0, u "(Ljava/lang/Object;)Ljava/util/Optional;"), (0, .methodref 44 50), (0, .nameAndType 51 52), (0, u "empty"), (0, u "()Ljava/util/Optional;"), (12, u "UNKNOWN"), (9, u "named"), (0, u "(Ljava/lang/String;)Ljava/util/Optional;")] 8

def k10c0 : Code := { maxStack := 1, maxLocals := 0, code := prog_52_method_1_code, exceptionTable := #[], attributes := #[] }
def k10m0 : Method := { name := "values", desc := "()[Lcom/example/marshal/marshal/variables/VariableType;", sig := { parameters := [], returnType := some (.array (.object "com/example/marshal/marshal/variables/VariableType")) }, accessFlags := 9, code := some k10c0 }
def k10c1 : Code := { maxStack := 2, maxLocals := 5, code := prog_52_method_4_code, exceptionTable := #[], attributes := #[] }
def k10m1 : Method := { name := "named", desc := "(Ljava/lang/String;)Ljava/util/Optional;", sig := { parameters := [(.object "java/lang/String")], returnType := some (.object "java/util/Optional") }, accessFlags := 9, code := some k10c1 }
/-- com/example/marshal/marshal/variables/VariableType -/
def k10 : Class := { plain "com/example/marshal/marshal/variables/VariableType" (some 9) with
  accessFlags := 16433
  interfaces := #[]
  cf := some (fileOf pool10 1 #[] #[{ accessFlags := 9, nameIndex := 35, descriptorIndex := 36, attributes := #[] }, { accessFlags := 9, nameIndex := 75, descriptorIndex := 76, attributes := #[] }] 16433 20 #[] #[{ accessFlags := 16409, nameIndex := 5, descriptorIndex := 6, attributes := #[] }, { accessFlags := 16409, nameIndex := 9, descriptorIndex := 6, attributes := #[] }, { accessFlags := 25, nameIndex := 65, descriptorIndex := 32, attributes := #[] }, { accessFlags := 18, nameIndex := 31, descriptorIndex := 32, attributes := #[] }, { accessFlags := 4122, nameIndex := 12, descriptorIndex := 13, attributes := #[] }])
  fields := #[{ name := "ENV_VAR", type := (.object "com/example/marshal/marshal/variables/VariableType"), accessFlags := 16409, slot := 0, constantValue := 0 }, { name := "FILE", type := (.object "com/example/marshal/marshal/variables/VariableType"), accessFlags := 16409, slot := 1, constantValue := 0 }, { name := "UNKNOWN", type := (.object "java/lang/String"), accessFlags := 25, slot := 2, constantValue := 0 }, { name := "apiName", type := (.object "java/lang/String"), accessFlags := 18, slot := 3, constantValue := 0 }, { name := "$VALUES", type := (.array (.object "com/example/marshal/marshal/variables/VariableType")), accessFlags := 4122, slot := 3, constantValue := 0 }]
  methods := #[k10m0, k10m1]
  instanceTypes := #[(.object "java/lang/String"), .int, .int, (.object "java/lang/String")]
  staticTypes := #[(.object "com/example/marshal/marshal/variables/VariableType"), (.object "com/example/marshal/marshal/variables/VariableType"), (.object "java/lang/String"), (.array (.object "com/example/marshal/marshal/variables/VariableType"))]
  resolved := Array.replicate 85 none
  statics := some 1 }

def pool11 : Array CpInfo := pool [(1, .class_ 2), (0, u "java/lang/Cloneable"), (0, .class_ 4), (0, u "java/lang/Object")] 2

/-- java/lang/Cloneable -/
def k11 : Class := { plain "java/lang/Cloneable" (some 0) with
  accessFlags := 1537
  interfaces := #[]
  cf := some (fileOf pool11 1 #[] #[] 1537 3 #[] #[])
  fields := #[]
  methods := #[]
  instanceTypes := #[]
  staticTypes := #[]
  resolved := Array.replicate 7 none
  statics := none }

def pool12 : Array CpInfo := pool [(1, .fieldref 2 3), (0, .class_ 4), (0, .nameAndType 5 6), (0, u "java/util/Optional"), (0, u "EMPTY"), (0, u "Ljava/util/Optional;"), (0, .methodref 8 9), (0, .class_ 10), (0, .nameAndType 11 12), (0, u "java/lang/Object"), (0, u "<init>"), (0, u "()V"), (0, .fieldref 2 14), (0, .nameAndType 15 16), (0, u "value"), (0, u "Ljava/lang/Object;"), (0, .methodref 18 19), (0, .class_ 20), (0, .nameAndType 21 22), (0, u "java/util/Objects"), (0, u "requireNonNull"), (0, u "(Ljava/lang/Object;)Ljava/lang/Object;"), (0, .methodref 2 24), (0, .nameAndType 11 25), (0, u "(Ljava/lang/Object;)V"), (20, u "()Z"), (8, u "empty"), (0, u "()Ljava/util/Optional;"), (8, u "(Ljava/lang/Object;)Ljava/util/Optional;"), (2, u "isPresent"), (4, u "get"), (0, u "()Ljava/lang/Object;"), (7, u "of")] 104

def k12c0 : Code := { maxStack := 1, maxLocals := 1, code := jdk_32_method_1_code, exceptionTable := #[], attributes := #[] }
def k12m0 : Method := { name := "empty", desc := "()Ljava/util/Optional;", sig := { parameters := [], returnType := some (.object "java/util/Optional") }, accessFlags := 9, code := some k12c0 }
def k12c1 : Code := { maxStack := 2, maxLocals := 2, code := jdk_32_method_2_code, exceptionTable := #[], attributes := #[] }
def k12m1 : Method := { name := "<init>", desc := "(Ljava/lang/Object;)V", sig := { parameters := [(.object "java/lang/Object")], returnType := none }, accessFlags := 2, code := some k12c1 }
def k12c2 : Code := { maxStack := 3, maxLocals := 1, code := jdk_32_method_3_code, exceptionTable := #[], attributes := #[] }
def k12m2 : Method := { name := "of", desc := "(Ljava/lang/Object;)Ljava/util/Optional;", sig := { parameters := [(.object "java/lang/Object")], returnType := some (.object "java/util/Optional") }, accessFlags := 9, code := some k12c2 }
def k12c3 : Code := { maxStack := 3, maxLocals := 1, code := jdk_32_method_5_code, exceptionTable := #[], attributes := #[] }
def k12m3 : Method := { name := "get", desc := "()Ljava/lang/Object;", sig := { parameters := [], returnType := some (.object "java/lang/Object") }, accessFlags := 1, code := some k12c3 }
def k12c4 : Code := { maxStack := 1, maxLocals := 1, code := jdk_32_method_6_code, exceptionTable := #[], attributes := #[] }
def k12m4 : Method := { name := "isPresent", desc := "()Z", sig := { parameters := [], returnType := some .boolean }, accessFlags := 1, code := some k12c4 }
/-- java/util/Optional -/
def k12 : Class := { plain "java/util/Optional" (some 0) with
  accessFlags := 49
  interfaces := #[]
  cf := some (fileOf pool12 2 #[] #[{ accessFlags := 9, nameIndex := 55, descriptorIndex := 56, attributes := #[] }, { accessFlags := 2, nameIndex := 11, descriptorIndex := 25, attributes := #[] }, { accessFlags := 9, nameIndex := 82, descriptorIndex := 65, attributes := #[] }, { accessFlags := 1, nameIndex := 73, descriptorIndex := 74, attributes := #[] }, { accessFlags := 1, nameIndex := 68, descriptorIndex := 46, attributes := #[] }] 49 8 #[] #[{ accessFlags := 26, nameIndex := 5, descriptorIndex := 6, attributes := #[] }, { accessFlags := 18, nameIndex := 15, descriptorIndex := 16, attributes := #[] }])
  fields := #[{ name := "EMPTY", type := (.object "java/util/Optional"), accessFlags := 26, slot := 0, constantValue := 0 }, { name := "value", type := (.object "java/lang/Object"), accessFlags := 18, slot := 0, constantValue := 0 }]
  methods := #[k12m0, k12m1, k12m2, k12m3, k12m4]
  instanceTypes := #[(.object "java/lang/Object")]
  staticTypes := #[(.object "java/util/Optional")]
  resolved := Array.replicate 187 none
  statics := some 2 }

def pool13 : Array CpInfo := pool [(6, .class_ 8), (1, u "java/lang/Object"), (0, u "<init>"), (0, u "()V"), (1, .class_ 14), (1, u "java/lang/StringUTF16"), (31, u "$assertionsDisabled"), (0, u "Z"), (13, u "HI_BYTE_SHIFT"), (0, u "I"), (2, u "LO_BYTE_SHIFT"), (49, .methodref 12 116), (0, .nameAndType 117 118), (0, u "compress"), (0, u "([CI[BII)I"), (3, u "([CII)[B"), (138, u "coderFromArrayLen"), (0, u "([BI)B"), (106, .class_ 371), (1, u "java/lang/StringUTF16$LinesSpliterator"), (58, u "MAX_LENGTH"), (196, .class_ 628), (0, u "java/lang/StringUTF16$CodePointsSpliterator"), (0, .class_ 630), (0, u "java/lang/StringUTF16$CharsSpliterator")] 4

def k13m0 : Method := { name := "<init>", desc := "()V", sig := { parameters := [], returnType := none }, accessFlags := 0, code := none }
def k13c1 : Code := { maxStack := 2, maxLocals := 2, code := jdk_52_method_15_code, exceptionTable := #[], attributes := #[] }
def k13m1 : Method := { name := "coderFromArrayLen", desc := "([BI)B", sig := { parameters := [(.array .byte), .int], returnType := some .byte }, accessFlags := 8, code := some k13c1 }
def k13c2 : Code := { maxStack := 5, maxLocals := 6, code := jdk_52_method_16_code, exceptionTable := #[], attributes := #[] }
def k13m2 : Method := { name := "compress", desc := "([CII)[B", sig := { parameters := [(.array .char), .int, .int], returnType := some (.array .byte) }, accessFlags := 9, code := some k13c2 }
def k13c3 : Code := { maxStack := 3, maxLocals := 7, code := jdk_52_method_21_code, exceptionTable := #[], attributes := #[] }
def k13m3 : Method := { name := "compress", desc := "([CI[BII)I", sig := { parameters := [(.array .char), .int, (.array .byte), .int, .int], returnType := some .int }, accessFlags := 9, code := some k13c3 }
/-- java/lang/StringUTF16 -/
def k13 : Class := { plain "java/lang/StringUTF16" (some 0) with
  accessFlags := 48
  interfaces := #[]
  cf := some (fileOf pool13 12 #[.nestMembers #[627, 629, 369]] #[{ accessFlags := 0, nameIndex := 9, descriptorIndex := 10, attributes := #[] }, { accessFlags := 8, nameIndex := 261, descriptorIndex := 262, attributes := #[] }, { accessFlags := 9, nameIndex := 117, descriptorIndex := 122, attributes := #[] }, { accessFlags := 9, nameIndex := 117, descriptorIndex := 118, attributes := #[] }] 48 6 #[] #[{ accessFlags := 26, nameIndex := 61, descriptorIndex := 62, attributes := #[] }, { accessFlags := 26, nameIndex := 65, descriptorIndex := 62, attributes := #[] }, { accessFlags := 24, nameIndex := 430, descriptorIndex := 62, attributes := #[] }, { accessFlags := 4120, nameIndex := 46, descriptorIndex := 47, attributes := #[] }])
  fields := #[{ name := "HI_BYTE_SHIFT", type := .int, accessFlags := 26, slot := 0, constantValue := 0 }, { name := "LO_BYTE_SHIFT", type := .int, accessFlags := 26, slot := 1, constantValue := 0 }, { name := "MAX_LENGTH", type := .int, accessFlags := 24, slot := 2, constantValue := 0 }, { name := "$assertionsDisabled", type := .boolean, accessFlags := 4120, slot := 3, constantValue := 0 }]
  methods := #[k13m0, k13m1, k13m2, k13m3]
  instanceTypes := #[]
  staticTypes := #[.int, .int, .int, .boolean]
  resolved := Array.replicate 635 none
  statics := none }

def pool14 : Array CpInfo := pool [(2, .class_ 4), (1, u "java/lang/Object"), (0, u "<init>"), (0, u "()V"), (35, .class_ 44), (1, u "java/util/Objects"), (0, u "requireNonNull"), (0, u "(Ljava/lang/Object;)Ljava/lang/Object;")] 137

def k14m0 : Method := { name := "<init>", desc := "()V", sig := { parameters := [], returnType := none }, accessFlags := 2, code := none }
def k14c1 : Code := { maxStack := 2, maxLocals := 1, code := jdk_31_method_10_code, exceptionTable := #[], attributes := #[] }
def k14m1 : Method := { name := "requireNonNull", desc := "(Ljava/lang/Object;)Ljava/lang/Object;", sig := { parameters := [(.object "java/lang/Object")], returnType := some (.object "java/lang/Object") }, accessFlags := 9, code := some k14c1 }
/-- java/util/Objects -/
def k14 : Class := { plain "java/util/Objects" (some 0) with
  accessFlags := 49
  interfaces := #[]
  cf := some (fileOf pool14 42 #[] #[{ accessFlags := 2, nameIndex := 5, descriptorIndex := 6, attributes := #[] }, { accessFlags := 9, nameIndex := 45, descriptorIndex := 46, attributes := #[] }] 49 2 #[] #[])
  fields := #[]
  methods := #[k14m0, k14m1]
  instanceTypes := #[]
  staticTypes := #[]
  resolved := Array.replicate 184 none
  statics := none }

def pool15 : Array CpInfo := pool [(2, .class_ 4), (1, u "java/lang/Object"), (0, u "<init>"), (0, u "()V"), (17, .class_ 26), (1, u "jdk/internal/util/Preconditions"), (28, .class_ 56), (0, u "jdk/internal/util/Preconditions$4"), (57, .class_ 115), (0, u "jdk/internal/util/Preconditions$1"), (7, u "SIOOBE_FORMATTER"), (0, u "Ljava/util/function/BiFunction;"), (0, .class_ 126), (0, u "jdk/internal/util/Preconditions$2"), (3, u "AIOOBE_FORMATTER"), (0, .class_ 132), (0, u "jdk/internal/util/Preconditions$3"), (3, u "IOOBE_FORMATTER")] 57

def k15m0 : Method := { name := "<init>", desc := "()V", sig := { parameters := [], returnType := none }, accessFlags := 1, code := none }
/-- jdk/internal/util/Preconditions -/
def k15 : Class := { plain "jdk/internal/util/Preconditions" (some 0) with
  accessFlags := 33
  interfaces := #[]
  cf := some (fileOf pool15 24 #[.nestMembers #[55, 131, 125, 114]] #[{ accessFlags := 1, nameIndex := 5, descriptorIndex := 6, attributes := #[] }] 33 2 #[] #[{ accessFlags := 25, nameIndex := 123, descriptorIndex := 124, attributes := #[] }, { accessFlags := 25, nameIndex := 130, descriptorIndex := 124, attributes := #[] }, { accessFlags := 25, nameIndex := 136, descriptorIndex := 124, attributes := #[] }])
  fields := #[{ name := "SIOOBE_FORMATTER", type := (.object "java/util/function/BiFunction"), accessFlags := 25, slot := 0, constantValue := 0 }, { name := "AIOOBE_FORMATTER", type := (.object "java/util/function/BiFunction"), accessFlags := 25, slot := 1, constantValue := 0 }, { name := "IOOBE_FORMATTER", type := (.object "java/util/function/BiFunction"), accessFlags := 25, slot := 2, constantValue := 0 }]
  methods := #[k15m0]
  instanceTypes := #[]
  staticTypes := #[(.object "java/util/function/BiFunction"), (.object "java/util/function/BiFunction"), (.object "java/util/function/BiFunction")]
  resolved := Array.replicate 194 none
  statics := some 3 }

def pool16 : Array CpInfo := pool [(9, u "<init>"), (6, .class_ 18), (1, u "java/lang/Object"), (0, u "()V"), (1, .class_ 23), (1, u "jdk/internal/util/ArraysSupport"), (0, u "LOG2_ARRAY_LONG_INDEX_SCALE"), (0, u "I"), (2, u "U"), (0, u "Ljdk/internal/misc/Unsafe;"), (8, u "BIG_ENDIAN"), (0, u "Z"), (8, u "LOG2_BYTE_BIT_SIZE"), (4, u "LOG2_ARRAY_INT_INDEX_SCALE"), (54, u "JLA"), (0, u "Ljdk/internal/access/JavaLangAccess;"), (11, u "LOG2_ARRAY_BOOLEAN_INDEX_SCALE"), (9, u "LOG2_ARRAY_BYTE_INDEX_SCALE"), (5, u "LOG2_ARRAY_CHAR_INDEX_SCALE"), (5, u "LOG2_ARRAY_SHORT_INDEX_SCALE"), (18, u "LOG2_ARRAY_FLOAT_INDEX_SCALE"), (24, u "LOG2_ARRAY_DOUBLE_INDEX_SCALE"), (89, u "T_BOOLEAN"), (2, u "T_CHAR"), (1, u "T_FLOAT"), (1, u "T_DOUBLE"), (1, u "T_BYTE"), (1, u "T_SHORT"), (1, u "T_INT"), (1, u "T_LONG"), (1, u "SOFT_MAX_ARRAY_LENGTH")] 83

def k16m0 : Method := { name := "<init>", desc := "()V", sig := { parameters := [], returnType := none }, accessFlags := 2, code := none }
/-- jdk/internal/util/ArraysSupport -/
def k16 : Class := { plain "jdk/internal/util/ArraysSupport" (some 0) with
  accessFlags := 33
  interfaces := #[]
  cf := some (fileOf pool16 21 #[] #[{ accessFlags := 2, nameIndex := 9, descriptorIndex := 19, attributes := #[] }] 33 16 #[] #[{ accessFlags := 24, nameIndex := 28, descriptorIndex := 29, attributes := #[] }, { accessFlags := 26, nameIndex := 38, descriptorIndex := 39, attributes := #[] }, { accessFlags := 25, nameIndex := 121, descriptorIndex := 25, attributes := #[] }, { accessFlags := 25, nameIndex := 131, descriptorIndex := 25, attributes := #[] }, { accessFlags := 25, nameIndex := 137, descriptorIndex := 25, attributes := #[] }, { accessFlags := 25, nameIndex := 143, descriptorIndex := 25, attributes := #[] }, { accessFlags := 25, nameIndex := 53, descriptorIndex := 25, attributes := #[] }, { accessFlags := 25, nameIndex := 24, descriptorIndex := 25, attributes := #[] }, { accessFlags := 25, nameIndex := 162, descriptorIndex := 25, attributes := #[] }, { accessFlags := 25, nameIndex := 187, descriptorIndex := 25, attributes := #[] }, { accessFlags := 26, nameIndex := 48, descriptorIndex := 25, attributes := #[] }, { accessFlags := 25, nameIndex := 277, descriptorIndex := 25, attributes := #[] }, { accessFlags := 25, nameIndex := 280, descriptorIndex := 25, attributes := #[] }, { accessFlags := 25, nameIndex := 282, descriptorIndex := 25, attributes := #[] }, { accessFlags := 25, nameIndex := 284, descriptorIndex := 25, attributes := #[] }, { accessFlags := 25, nameIndex := 286, descriptorIndex := 25, attributes := #[] }, { accessFlags := 25, nameIndex := 288, descriptorIndex := 25, attributes := #[] }, { accessFlags := 25, nameIndex := 290, descriptorIndex := 25, attributes := #[] }, { accessFlags := 25, nameIndex := 292, descriptorIndex := 25, attributes := #[] }, { accessFlags := 26, nameIndex := 108, descriptorIndex := 109, attributes := #[] }, { accessFlags := 25, nameIndex := 294, descriptorIndex := 25, attributes := #[] }])
  fields := #[{ name := "U", type := (.object "jdk/internal/misc/Unsafe"), accessFlags := 24, slot := 0, constantValue := 0 }, { name := "BIG_ENDIAN", type := .boolean, accessFlags := 26, slot := 1, constantValue := 0 }, { name := "LOG2_ARRAY_BOOLEAN_INDEX_SCALE", type := .int, accessFlags := 25, slot := 2, constantValue := 0 }, { name := "LOG2_ARRAY_BYTE_INDEX_SCALE", type := .int, accessFlags := 25, slot := 3, constantValue := 0 }, { name := "LOG2_ARRAY_CHAR_INDEX_SCALE", type := .int, accessFlags := 25, slot := 4, constantValue := 0 }, { name := "LOG2_ARRAY_SHORT_INDEX_SCALE", type := .int, accessFlags := 25, slot := 5, constantValue := 0 }, { name := "LOG2_ARRAY_INT_INDEX_SCALE", type := .int, accessFlags := 25, slot := 6, constantValue := 0 }, { name := "LOG2_ARRAY_LONG_INDEX_SCALE", type := .int, accessFlags := 25, slot := 7, constantValue := 0 }, { name := "LOG2_ARRAY_FLOAT_INDEX_SCALE", type := .int, accessFlags := 25, slot := 8, constantValue := 0 }, { name := "LOG2_ARRAY_DOUBLE_INDEX_SCALE", type := .int, accessFlags := 25, slot := 9, constantValue := 0 }, { name := "LOG2_BYTE_BIT_SIZE", type := .int, accessFlags := 26, slot := 10, constantValue := 0 }, { name := "T_BOOLEAN", type := .int, accessFlags := 25, slot := 11, constantValue := 0 }, { name := "T_CHAR", type := .int, accessFlags := 25, slot := 12, constantValue := 0 }, { name := "T_FLOAT", type := .int, accessFlags := 25, slot := 13, constantValue := 0 }, { name := "T_DOUBLE", type := .int, accessFlags := 25, slot := 14, constantValue := 0 }, { name := "T_BYTE", type := .int, accessFlags := 25, slot := 15, constantValue := 0 }, { name := "T_SHORT", type := .int, accessFlags := 25, slot := 16, constantValue := 0 }, { name := "T_INT", type := .int, accessFlags := 25, slot := 17, constantValue := 0 }, { name := "T_LONG", type := .int, accessFlags := 25, slot := 18, constantValue := 0 }, { name := "JLA", type := (.object "jdk/internal/access/JavaLangAccess"), accessFlags := 26, slot := 19, constantValue := 0 }, { name := "SOFT_MAX_ARRAY_LENGTH", type := .int, accessFlags := 25, slot := 20, constantValue := 0 }]
  methods := #[k16m0]
  instanceTypes := #[]
  staticTypes := #[(.object "jdk/internal/misc/Unsafe"), .boolean, .int, .int, .int, .int, .int, .int, .int, .int, .int, .int, .int, .int, .int, .int, .int, .int, .int, (.object "jdk/internal/access/JavaLangAccess"), .int]
  resolved := Array.replicate 378 none
  statics := none }

/-- the primitive byte -/
def k17 : Class := { plain "byte" none with kind := .primitive 'B', accessFlags := 0x411 }
/-- [B -/
def k18 : Class := { plain "[B" (some 0) with kind := .array 17 .byte, interfaces := #[11, 2], accessFlags := 1041 }

/-- the primitive char -/
def k19 : Class := { plain "char" none with kind := .primitive 'C', accessFlags := 0x411 }
/-- [C -/
def k20 : Class := { plain "[C" (some 0) with kind := .array 19 .char, interfaces := #[11, 2], accessFlags := 1041 }

/-- the primitive int -/
def k21 : Class := { plain "int" none with kind := .primitive 'I', accessFlags := 0x411 }
/-- [I -/
def k22 : Class := { plain "[I" (some 0) with kind := .array 21 .int, interfaces := #[11, 2], accessFlags := 1041 }

/-- [Lcom/example/marshal/marshal/variables/VariableType; -/
def k23 : Class := { plain "[Lcom/example/marshal/marshal/variables/VariableType;" (some 0) with kind := .array 10 (.object "com/example/marshal/marshal/variables/VariableType"), interfaces := #[11, 2], accessFlags := 1041 }

def heap : Heap := #[{ cls := 7, slots := #[.long 0, .int 1, .null, .int 0, .null, .int 0, .int 0], vm := .statics 7 },
  { cls := 10, slots := #[.ref 5, .ref 6, .null, .ref 4], vm := .statics 10 },
  { cls := 12, slots := #[.ref 11], vm := .statics 12 },
  { cls := 15, slots := #[.null, .null, .null], vm := .statics 15 },
  { cls := 23, slots := #[.ref 5, .ref 6], vm := .none },
  { cls := 10, slots := #[.null, .int 0, .int 0, .ref 7], vm := .none },
  { cls := 10, slots := #[.null, .int 1, .int 0, .ref 8], vm := .none },
  { cls := 7, slots := #[.ref 9, .int 0, .int 0, .int 0], vm := .none },
  { cls := 7, slots := #[.ref 10, .int 0, .int 0, .int 0], vm := .none },
  { cls := 18, slots := #[.int 101, .int 110, .int 118, .int 95, .int 118, .int 97, .int 114], vm := .none },
  { cls := 18, slots := #[.int 102, .int 105, .int 108, .int 101], vm := .none },
  { cls := 12, slots := #[.null], vm := .none }]
def classes : Array Class := #[k0, k1, k2, k3, k4, k5, k6, k7, k8, k9, k10, k11, k12, k13, k14, k15, k16, k17, k18, k19, k20, k21, k22, k23]
def interned : List (Array UInt16 × Addr) := []
def slotsUsed : Nat := 45
def theMethod : MethodId := ⟨1, 1⟩
def args0 : Array Value := #[.int 28, .long 9, .int 7]
def aboutOver (below : List Frame) : State where
  vm := { classes := classes, interned := interned.toArray }
  heap := heap
  slotsUsed := slotsUsed
  threads := #[{ frames := .invoking theMethod args0 :: below }]
def below0 : List Frame := [.native { method := ⟨0, 0⟩, args := #[] }]
def about1 : State := aboutOver below0
def p0 : Program := .bare "" "" ""
def e0 : Env := launch0.env 0 0 0
theorem w_frames : about1.frames = Frame.invoking theMethod args0 :: below0 := rfl
set_option maxRecDepth 65536 in
theorem w_args : argsFit about1.vm theMethod args0 = true := by decide +kernel
set_option maxRecDepth 65536 in
theorem w_heap : heapFits about1 = true := by decide +kernel
set_option maxRecDepth 65536 in
theorem w_runnable : about1.curStatus? = some .runnable := by decide +kernel
set_option maxRecDepth 65536 in
theorem w_alone : about1.alone = true := by decide +kernel
set_option maxRecDepth 65536 in
theorem w_named : about1.methodNamed? x = some theMethod := by decide +kernel
set_option maxRecDepth 65536 in
theorem w_hears : about1.hears theMethod below0 = true := by decide +kernel
set_option maxRecDepth 65536 in
theorem w_ripe : about1.ripe theMethod args0 below0 = true := by decide +kernel
theorem w_running : about1.status = .running := rfl
set_option maxRecDepth 65536 in
theorem w_room : about1.hasRoom e0.platform room_1 = true :=
  launch0.hasRoom_least _ room_1 (by decide +kernel) (by decide +kernel) (by decide +kernel) (by decide +kernel) (by decide +kernel) (by decide +kernel)
theorem allAtoms_all (ts : List Jvm.Cond) (a : Array Jvm.Value) (st : Jvm.State) : (allAtoms ts).before a st = ts.all (fun c => c.before a st) := by
  induction ts with
  | nil => rfl
  | cons c t ih =>
    show (Jvm.Cond.and c (allAtoms t)).before a st = _
    rw [Jvm.Cond.before_and, ih, List.all_cons]
def words1 : List Jvm.Cond := Jvm.Cond.code x code maxLocals ret :: tables_1
/-- a 'code' word, met by the world's own term for the bytes: nothing is compared byte by byte -/
theorem code_word {y : MethodName} {bytes : ByteArray} {mx : Nat} {rt : Option FieldType} {a : Array Value} {s : State} {m : MethodId} {meth : Method} {c : Code} (h1 : s.methodNamed? y = some m) (h2 : s.vm.method? m = some meth) (h3 : meth.code = some c) (h4 : c.code = bytes)
    (h5 : (c.maxLocals == mx && c.exceptionTable.isEmpty && decide (c.maxStack ≤ mostOperands) && decide (meth.sig.returnType = rt) && !meth.locks && decide (parseMethodDescriptor y.desc = some meth.sig)) = true) : (Jvm.Cond.code y bytes mx rt).before a s = true := by
  simp only [Bool.and_eq_true, beq_iff_eq, Bool.not_eq_true', decide_eq_true_eq] at h5
  obtain ⟨⟨⟨⟨⟨g1, g2⟩, g3⟩, g4⟩, g5⟩, g6⟩ := h5
  simp [Cond.before, Cond.holds, Cond.value, h1, h2, h3, h4, g1, g2, g3, g4, g5, g6]
def isCode : Jvm.Cond → Bool
  | .code _ _ _ _ => true
  | _ => false
theorem all_split {L : List Jvm.Cond} {P : Jvm.Cond → Bool} (h1 : L.all (fun c => isCode c || P c) = true) (h2 : ∀ c ∈ L.filter isCode, P c = true) : L.all P = true := by
  refine List.all_eq_true.mpr fun c hc => ?_
  have h := List.all_eq_true.mp h1 c hc
  rcases Bool.eq_false_or_eq_true (isCode c) with hi | hi
  · exact h2 c (List.mem_filter.mpr ⟨hc, hi⟩)
  · simpa [hi] using h
set_option maxRecDepth 65536 in
theorem w_c0 : (Jvm.Cond.code x code maxLocals ret).before args0 about1 = true := code_word (m := ⟨1, 1⟩) (meth := k1m1) (c := k1c1) (by decide +kernel) rfl rfl rfl (by decide +kernel)
set_option maxRecDepth 65536 in
theorem w_c1 : (Jvm.Cond.code ({ cls := "com/example/marshal/marshal/variables/VariableTypeNamedPinLaw", name := "d", desc := "(JI)C" } : Jvm.MethodName) method_3_code (3 : Nat) (Option.some Jvm.ClassFile.FieldType.char)).before args0 about1 = true := code_word (m := ⟨1, 2⟩) (meth := k1m2) (c := k1c2) (by decide +kernel) rfl rfl rfl (by decide +kernel)
set_option maxRecDepth 65536 in
theorem w_c2 : (Jvm.Cond.code ({ cls := "com/example/marshal/marshal/variables/VariableTypeNamedPinLaw", name := "take", desc := "([CI)[C" } : Jvm.MethodName) method_4_code (2 : Nat) (Option.some (Jvm.ClassFile.FieldType.array Jvm.ClassFile.FieldType.char))).before args0 about1 = true := code_word (m := ⟨1, 3⟩) (meth := k1m3) (c := k1c3) (by decide +kernel) rfl rfl rfl (by decide +kernel)
set_option maxRecDepth 65536 in
theorem w_c3 : (Jvm.Cond.code ({ cls := "java/lang/String", name := "<init>", desc := "([C)V" } : Jvm.MethodName) jdk_42_method_3_code (2 : Nat) (Option.none : Option Jvm.ClassFile.FieldType)).before args0 about1 = true := code_word (m := ⟨7, 1⟩) (meth := k7m1) (c := k7c1) (by decide +kernel) rfl rfl rfl (by decide +kernel)
set_option maxRecDepth 65536 in
theorem w_c4 : (Jvm.Cond.code ({ cls := "java/lang/String", name := "<init>", desc := "([CIILjava/lang/Void;)V" } : Jvm.MethodName) jdk_42_method_149_code (6 : Nat) (Option.none : Option Jvm.ClassFile.FieldType)).before args0 about1 = true := code_word (m := ⟨7, 3⟩) (meth := k7m3) (c := k7c3) (by decide +kernel) rfl rfl rfl (by decide +kernel)
set_option maxRecDepth 65536 in
theorem w_c5 : (Jvm.Cond.code ({ cls := "java/lang/Object", name := "<init>", desc := "()V" } : Jvm.MethodName) object_method_1_code (1 : Nat) (Option.none : Option Jvm.ClassFile.FieldType)).before args0 about1 = true := code_word (m := ⟨0, 0⟩) (meth := k0m0) (c := k0c0) (by decide +kernel) rfl rfl rfl (by decide +kernel)
set_option maxRecDepth 65536 in
theorem w_c6 : (Jvm.Cond.code ({ cls := "java/lang/String", name := "equals", desc := "(Ljava/lang/Object;)Z" } : Jvm.MethodName) jdk_42_method_66_code (3 : Nat) (Option.some Jvm.ClassFile.FieldType.boolean)).before args0 about1 = true := code_word (m := ⟨7, 2⟩) (meth := k7m2) (c := k7c2) (by decide +kernel) rfl rfl rfl (by decide +kernel)
set_option maxRecDepth 65536 in
theorem w_c7 : (Jvm.Cond.code ({ cls := "java/lang/StringLatin1", name := "equals", desc := "([B[B)Z" } : Jvm.MethodName) jdk_43_method_13_code (3 : Nat) (Option.some Jvm.ClassFile.FieldType.boolean)).before args0 about1 = true := code_word (m := ⟨8, 1⟩) (meth := k8m1) (c := k8c1) (by decide +kernel) rfl rfl rfl (by decide +kernel)
set_option maxRecDepth 65536 in
theorem w_c8 : (Jvm.Cond.code ({ cls := "com/example/marshal/marshal/variables/VariableType", name := "named", desc := "(Ljava/lang/String;)Ljava/util/Optional;" } : Jvm.MethodName) prog_52_method_4_code (5 : Nat) (Option.some (Jvm.ClassFile.FieldType.object "java/util/Optional"))).before args0 about1 = true := code_word (m := ⟨10, 1⟩) (meth := k10m1) (c := k10c1) (by decide +kernel) rfl rfl rfl (by decide +kernel)
set_option maxRecDepth 65536 in
theorem w_c9 : (Jvm.Cond.code ({ cls := "com/example/marshal/marshal/variables/VariableType", name := "values", desc := "()[Lcom/example/marshal/marshal/variables/VariableType;" } : Jvm.MethodName) prog_52_method_1_code (0 : Nat) (Option.some (Jvm.ClassFile.FieldType.array (Jvm.ClassFile.FieldType.object "com/example/marshal/marshal/variables/VariableType")))).before args0 about1 = true := code_word (m := ⟨10, 0⟩) (meth := k10m0) (c := k10c0) (by decide +kernel) rfl rfl rfl (by decide +kernel)
set_option maxRecDepth 65536 in
theorem w_c10 : (Jvm.Cond.code ({ cls := "java/util/Optional", name := "empty", desc := "()Ljava/util/Optional;" } : Jvm.MethodName) jdk_32_method_1_code (1 : Nat) (Option.some (Jvm.ClassFile.FieldType.object "java/util/Optional"))).before args0 about1 = true := code_word (m := ⟨12, 0⟩) (meth := k12m0) (c := k12c0) (by decide +kernel) rfl rfl rfl (by decide +kernel)
set_option maxRecDepth 65536 in
theorem w_c11 : (Jvm.Cond.code ({ cls := "java/util/Optional", name := "isPresent", desc := "()Z" } : Jvm.MethodName) jdk_32_method_6_code (1 : Nat) (Option.some Jvm.ClassFile.FieldType.boolean)).before args0 about1 = true := code_word (m := ⟨12, 4⟩) (meth := k12m4) (c := k12c4) (by decide +kernel) rfl rfl rfl (by decide +kernel)
set_option maxRecDepth 65536 in
theorem w_c12 : (Jvm.Cond.code ({ cls := "java/lang/StringUTF16", name := "compress", desc := "([CII)[B" } : Jvm.MethodName) jdk_52_method_16_code (6 : Nat) (Option.some (Jvm.ClassFile.FieldType.array Jvm.ClassFile.FieldType.byte))).before args0 about1 = true := code_word (m := ⟨13, 2⟩) (meth := k13m2) (c := k13c2) (by decide +kernel) rfl rfl rfl (by decide +kernel)
set_option maxRecDepth 65536 in
theorem w_c13 : (Jvm.Cond.code ({ cls := "java/lang/StringUTF16", name := "compress", desc := "([CI[BII)I" } : Jvm.MethodName) jdk_52_method_21_code (7 : Nat) (Option.some Jvm.ClassFile.FieldType.int)).before args0 about1 = true := code_word (m := ⟨13, 3⟩) (meth := k13m3) (c := k13c3) (by decide +kernel) rfl rfl rfl (by decide +kernel)
set_option maxRecDepth 65536 in
theorem w_c14 : (Jvm.Cond.code ({ cls := "java/lang/StringUTF16", name := "coderFromArrayLen", desc := "([BI)B" } : Jvm.MethodName) jdk_52_method_15_code (2 : Nat) (Option.some Jvm.ClassFile.FieldType.byte)).before args0 about1 = true := code_word (m := ⟨13, 1⟩) (meth := k13m1) (c := k13c1) (by decide +kernel) rfl rfl rfl (by decide +kernel)
set_option maxRecDepth 65536 in
theorem w_c15 : (Jvm.Cond.code ({ cls := "java/util/Optional", name := "of", desc := "(Ljava/lang/Object;)Ljava/util/Optional;" } : Jvm.MethodName) jdk_32_method_3_code (1 : Nat) (Option.some (Jvm.ClassFile.FieldType.object "java/util/Optional"))).before args0 about1 = true := code_word (m := ⟨12, 2⟩) (meth := k12m2) (c := k12c2) (by decide +kernel) rfl rfl rfl (by decide +kernel)
set_option maxRecDepth 65536 in
theorem w_c16 : (Jvm.Cond.code ({ cls := "java/util/Objects", name := "requireNonNull", desc := "(Ljava/lang/Object;)Ljava/lang/Object;" } : Jvm.MethodName) jdk_31_method_10_code (1 : Nat) (Option.some (Jvm.ClassFile.FieldType.object "java/lang/Object"))).before args0 about1 = true := code_word (m := ⟨14, 1⟩) (meth := k14m1) (c := k14c1) (by decide +kernel) rfl rfl rfl (by decide +kernel)
set_option maxRecDepth 65536 in
theorem w_c17 : (Jvm.Cond.code ({ cls := "java/util/Optional", name := "<init>", desc := "(Ljava/lang/Object;)V" } : Jvm.MethodName) jdk_32_method_2_code (2 : Nat) (Option.none : Option Jvm.ClassFile.FieldType)).before args0 about1 = true := code_word (m := ⟨12, 1⟩) (meth := k12m1) (c := k12c1) (by decide +kernel) rfl rfl rfl (by decide +kernel)
set_option maxRecDepth 65536 in
theorem w_c18 : (Jvm.Cond.code ({ cls := "java/util/Optional", name := "get", desc := "()Ljava/lang/Object;" } : Jvm.MethodName) jdk_32_method_5_code (1 : Nat) (Option.some (Jvm.ClassFile.FieldType.object "java/lang/Object"))).before args0 about1 = true := code_word (m := ⟨12, 3⟩) (meth := k12m3) (c := k12c3) (by decide +kernel) rfl rfl rfl (by decide +kernel)
def codes1 : List Jvm.Cond := [Jvm.Cond.code x code maxLocals ret, Jvm.Cond.code ({ cls := "com/example/marshal/marshal/variables/VariableTypeNamedPinLaw", name := "d", desc := "(JI)C" } : Jvm.MethodName) method_3_code (3 : Nat) (Option.some Jvm.ClassFile.FieldType.char), Jvm.Cond.code ({ cls := "com/example/marshal/marshal/variables/VariableTypeNamedPinLaw", name := "take", desc := "([CI)[C" } : Jvm.MethodName) method_4_code (2 : Nat) (Option.some (Jvm.ClassFile.FieldType.array Jvm.ClassFile.FieldType.char)), Jvm.Cond.code ({ cls := "java/lang/String", name := "<init>", desc := "([C)V" } : Jvm.MethodName) jdk_42_method_3_code (2 : Nat) (Option.none : Option Jvm.ClassFile.FieldType), Jvm.Cond.code ({ cls := "java/lang/String", name := "<init>", desc := "([CIILjava/lang/Void;)V" } : Jvm.MethodName) jdk_42_method_149_code (6 : Nat) (Option.none : Option Jvm.ClassFile.FieldType), Jvm.Cond.code ({ cls := "java/lang/Object", name := "<init>", desc := "()V" } : Jvm.MethodName) object_method_1_code (1 : Nat) (Option.none : Option Jvm.ClassFile.FieldType), Jvm.Cond.code ({ cls := "java/lang/String", name := "equals", desc := "(Ljava/lang/Object;)Z" } : Jvm.MethodName) jdk_42_method_66_code (3 : Nat) (Option.some Jvm.ClassFile.FieldType.boolean), Jvm.Cond.code ({ cls := "java/lang/StringLatin1", name := "equals", desc := "([B[B)Z" } : Jvm.MethodName) jdk_43_method_13_code (3 : Nat) (Option.some Jvm.ClassFile.FieldType.boolean), Jvm.Cond.code ({ cls := "com/example/marshal/marshal/variables/VariableType", name := "named", desc := "(Ljava/lang/String;)Ljava/util/Optional;" } : Jvm.MethodName) prog_52_method_4_code (5 : Nat) (Option.some (Jvm.ClassFile.FieldType.object "java/util/Optional")), Jvm.Cond.code ({ cls := "com/example/marshal/marshal/variables/VariableType", name := "values", desc := "()[Lcom/example/marshal/marshal/variables/VariableType;" } : Jvm.MethodName) prog_52_method_1_code (0 : Nat) (Option.some (Jvm.ClassFile.FieldType.array (Jvm.ClassFile.FieldType.object "com/example/marshal/marshal/variables/VariableType"))), Jvm.Cond.code ({ cls := "java/util/Optional", name := "empty", desc := "()Ljava/util/Optional;" } : Jvm.MethodName) jdk_32_method_1_code (1 : Nat) (Option.some (Jvm.ClassFile.FieldType.object "java/util/Optional")), Jvm.Cond.code ({ cls := "java/util/Optional", name := "isPresent", desc := "()Z" } : Jvm.MethodName) jdk_32_method_6_code (1 : Nat) (Option.some Jvm.ClassFile.FieldType.boolean), Jvm.Cond.code ({ cls := "java/lang/StringUTF16", name := "compress", desc := "([CII)[B" } : Jvm.MethodName) jdk_52_method_16_code (6 : Nat) (Option.some (Jvm.ClassFile.FieldType.array Jvm.ClassFile.FieldType.byte)), Jvm.Cond.code ({ cls := "java/lang/StringUTF16", name := "compress", desc := "([CI[BII)I" } : Jvm.MethodName) jdk_52_method_21_code (7 : Nat) (Option.some Jvm.ClassFile.FieldType.int), Jvm.Cond.code ({ cls := "java/lang/StringUTF16", name := "coderFromArrayLen", desc := "([BI)B" } : Jvm.MethodName) jdk_52_method_15_code (2 : Nat) (Option.some Jvm.ClassFile.FieldType.byte), Jvm.Cond.code ({ cls := "java/util/Optional", name := "of", desc := "(Ljava/lang/Object;)Ljava/util/Optional;" } : Jvm.MethodName) jdk_32_method_3_code (1 : Nat) (Option.some (Jvm.ClassFile.FieldType.object "java/util/Optional")), Jvm.Cond.code ({ cls := "java/util/Objects", name := "requireNonNull", desc := "(Ljava/lang/Object;)Ljava/lang/Object;" } : Jvm.MethodName) jdk_31_method_10_code (1 : Nat) (Option.some (Jvm.ClassFile.FieldType.object "java/lang/Object")), Jvm.Cond.code ({ cls := "java/util/Optional", name := "<init>", desc := "(Ljava/lang/Object;)V" } : Jvm.MethodName) jdk_32_method_2_code (2 : Nat) (Option.none : Option Jvm.ClassFile.FieldType), Jvm.Cond.code ({ cls := "java/util/Optional", name := "get", desc := "()Ljava/lang/Object;" } : Jvm.MethodName) jdk_32_method_5_code (1 : Nat) (Option.some (Jvm.ClassFile.FieldType.object "java/lang/Object"))]
set_option maxRecDepth 65536 in
theorem codes_eq : words1.filter isCode = codes1 := rfl
theorem w_codes : ∀ c ∈ words1.filter isCode, c.before args0 about1 = true := by
  rw [codes_eq]
  intro c hc
  simp only [codes1, List.mem_cons, List.not_mem_nil, or_false] at hc
  rcases hc with rfl | rfl | rfl | rfl | rfl | rfl | rfl | rfl | rfl | rfl | rfl | rfl | rfl | rfl | rfl | rfl | rfl | rfl | rfl
  · exact w_c0
  · exact w_c1
  · exact w_c2
  · exact w_c3
  · exact w_c4
  · exact w_c5
  · exact w_c6
  · exact w_c7
  · exact w_c8
  · exact w_c9
  · exact w_c10
  · exact w_c11
  · exact w_c12
  · exact w_c13
  · exact w_c14
  · exact w_c15
  · exact w_c16
  · exact w_c17
  · exact w_c18
set_option maxRecDepth 65536 in
theorem w_t1 : (words1.take 24).all (fun c => isCode c || c.before args0 about1) = true := by decide +kernel
set_option maxRecDepth 65536 in
theorem w_t2 : ((words1.drop 24).take 24).all (fun c => isCode c || c.before args0 about1) = true := by decide +kernel
set_option maxRecDepth 65536 in
theorem w_t3 : (((words1.drop 24).drop 24).take 24).all (fun c => isCode c || c.before args0 about1) = true := by decide +kernel
set_option maxRecDepth 65536 in
theorem w_t4 : ((((words1.drop 24).drop 24).drop 24).take 24).all (fun c => isCode c || c.before args0 about1) = true := by decide +kernel
set_option maxRecDepth 65536 in
theorem w_t5 : ((((words1.drop 24).drop 24).drop 24).drop 24).all (fun c => isCode c || c.before args0 about1) = true := by decide +kernel
theorem w_tables : (allAtoms (Jvm.Cond.code x code maxLocals ret :: tables_1)).before args0 about1 = true := by
  rw [allAtoms_all]
  show words1.all (fun c => c.before args0 about1) = true
  refine all_split ?_ w_codes
  rw [← List.take_append_drop 24 words1, List.all_append, w_t1, ← List.take_append_drop 24 (words1.drop 24), List.all_append, w_t2, ← List.take_append_drop 24 ((words1.drop 24).drop 24), List.all_append, w_t3, ← List.take_append_drop 24 (((words1.drop 24).drop 24).drop 24), List.all_append, w_t4, w_t5]
  rfl
set_option maxRecDepth 65536 in
theorem w_rest : rest_1_c.before args0 about1 = true := by decide +kernel
set_option maxRecDepth 65536 in
theorem w_case : (Jvm.Cond.and given_1 narrow_1).before args0 about1 = true := by decide +kernel
set_option maxRecDepth 65536 in
theorem w_consts : constsHeld consts_1 about1 := Jvm.Lit.constsHeldB_iff.mp (by decide +kernel)
theorem w_applies : (headSpec (Jvm.Cond.code x code maxLocals ret :: tables_1) room_1).applies x e0.platform about1 = true :=
  (Spec.applies_iff w_frames).mpr ⟨w_running, w_runnable, w_alone, w_named, w_hears, w_ripe, w_room, w_tables⟩
theorem atStart : AtStart classFile x code maxLocals ret World_1 tables_1 room_1 Calls_1 rest_1 Pre_1 launch0 p0 e0 about1 theMethod args0 below0 :=
  ⟨lists_1, trivial, launch0.admits_env _ _ _, launch0.least_env, fairChoices_fair.cas, fairChoices_fair.clock, w_frames, w_args, w_heap, w_applies, ⟨w_consts, trivial⟩, w_rest, w_case⟩
end start1
theorem witness_1 : WitnessClaimed_1 := ⟨start1.p0, start1.e0, start1.about1, start1.theMethod, start1.args0, start1.below0, start1.atStart⟩
end Jvm.Pilot.@@N@@
