import JvmDerived
import JvmDerived.Pilot.@@N@@Statement
import JvmDerived.Pilot.@@N@@Code
set_option linter.unusedVariables false
set_option linter.unusedSimpArgs false
namespace Jvm.RoadKit
open Sem ClassFile Op Lib Jvm.Stand Jvm.Free Jvm.LawKit
section Own
/-- from here the run comes to an end of which P holds -/
def own_Go (p : Program) (e : Env) (below : List Frame) (P : Outcome → State → Prop) (t : State) : Prop :=
  ∃ s₂ o, Steps p.tables e below t s₂ ∧ s₂.status = .running ∧ Ended s₂ below o ∧ P o s₂
variable {p : Program} {l : Launch} {e : Env} {R : Room} {s : State} {m : MethodId} {args : Array Value} {below : List Frame} {meth : Method} {c : Code} {T : State} {locs : List Loc} {cells slots : Nat}
theorem own_Go.st {P : Outcome → State → Prop} {t t' : State} (h : ∀ target, Steps p.tables e below t' target → Steps p.tables e below t target) (k : own_Go p e below P t') : own_Go p e below P t := by
  obtain ⟨a, b, h1, h2⟩ := k
  exact ⟨a, b, h _ h1, h2⟩
variable {C N : Nat} {Q : Option Value → Heap → List Loc → Prop}
theorem own_ret {v : Option Value} {g : JFrame} (X : Stand p l e R s m args below meth c T locs cells slots) (hlk : meth.locks = false) (hv : meth.sig.returnType = none → v = none)
    (hl : ∀ fs : List Frame, (∀ (f : JFrame) (acts : List Action), f.method = m → f.locked = none → f.entered = [] → (doReturn e (T.setTop f) acts v).1 = T.setFrames fs) → Steps p.tables e below (T.setTop g) (T.setFrames fs))
    (hc : cells ≤ C) (hn : slots ≤ N) (q : Q v T.heap locs) : own_Go p e below (fun o U' => ∃ v L, o = .returned v ∧ Q v U'.heap L ∧ FrameEnd s o U' L C N) (T.setTop g) := by
  obtain ⟨fs, hr, hrun, hended, hW, hsame⟩ := X.leave (v := v) hv hlk
  exact ⟨_, _, hl fs hr, hrun, hended, _, _, rfl, q, ⟨_, rfl⟩, hW, hsame.mono hc hn⟩
theorem own_retI {pc : Nat} {Ls : Array Slot} {z : Int32} {rest : List Value} (X : Stand p l e R s m args below meth c T locs cells slots) (hx : p.tables.exec = Jvm.exec) (hlk : meth.locks = false) (hret : meth.sig.returnType = some .int) (hd : decode c.code pc = .ok (.ireturn, 1))
    (hc : cells ≤ C) (hn : slots ≤ N) (q : Q (some (.int z)) T.heap locs) : own_Go p e below (fun o U' => ∃ v L, o = .returned v ∧ Q v U'.heap L ∧ FrameEnd s o U' L C N) (T.setTop (mkF m pc Ls (.int z :: rest))) :=
  own_ret X hlk (fun h => by rw [hret] at h; cases h) (fun fs hr => retOut X hx hret rfl (Or.inl ⟨rfl, Or.inl rfl, z, rfl⟩) hd hr) hc hn q
theorem own_retN {t : FieldType} {pc : Nat} {Ls : Array Slot} {z : Int32} {rest : List Value} (X : Stand p l e R s m args below meth c T locs cells slots) (hx : p.tables.exec = Jvm.exec) (hlk : meth.locks = false) (hret : meth.sig.returnType = some t) (ht : t = .boolean ∨ t = .byte ∨ t = .char ∨ t = .short) (hz : nar t z = z) (hd : decode c.code pc = .ok (.ireturn, 1))
    (hc : cells ≤ C) (hn : slots ≤ N) (q : Q (some (.int z)) T.heap locs) : own_Go p e below (fun o U' => ∃ v L, o = .returned v ∧ Q v U'.heap L ∧ FrameEnd s o U' L C N) (T.setTop (mkF m pc Ls (.int z :: rest))) :=
  own_ret X hlk (fun h => by rw [hret] at h; cases h) (fun fs hr => retN X hx (z := z) hret ht hd (by rw [hz]; exact hr)) hc hn q
theorem own_retZ {pc : Nat} {Ls : Array Slot} {z : Int32} {rest : List Value} (X : Stand p l e R s m args below meth c T locs cells slots) (hx : p.tables.exec = Jvm.exec) (hlk : meth.locks = false) (hret : meth.sig.returnType = some .boolean) (hz : z = 0 ∨ z = 1) (hd : decode c.code pc = .ok (.ireturn, 1))
    (hc : cells ≤ C) (hn : slots ≤ N) (q : Q (some (.int z)) T.heap locs) : own_Go p e below (fun o U' => ∃ v L, o = .returned v ∧ Q v U'.heap L ∧ FrameEnd s o U' L C N) (T.setTop (mkF m pc Ls (.int z :: rest))) :=
  own_retN X hx hlk hret (Or.inl rfl) (by rcases hz with rfl | rfl <;> rfl) hd hc hn q
theorem own_retJ {pc : Nat} {Ls : Array Slot} {z : Int64} {rest : List Value} (X : Stand p l e R s m args below meth c T locs cells slots) (hx : p.tables.exec = Jvm.exec) (hlk : meth.locks = false) (hret : meth.sig.returnType = some .long) (hd : decode c.code pc = .ok (.lreturn, 1))
    (hc : cells ≤ C) (hn : slots ≤ N) (q : Q (some (.long z)) T.heap locs) : own_Go p e below (fun o U' => ∃ v L, o = .returned v ∧ Q v U'.heap L ∧ FrameEnd s o U' L C N) (T.setTop (mkF m pc Ls (.long z :: rest))) :=
  own_ret X hlk (fun h => by rw [hret] at h; cases h) (fun fs hr => retOut X hx hret rfl (Or.inr (Or.inl ⟨rfl, rfl, z, rfl⟩)) hd hr) hc hn q
theorem own_retD {pc : Nat} {Ls : Array Slot} {z : UInt64} {rest : List Value} (X : Stand p l e R s m args below meth c T locs cells slots) (hx : p.tables.exec = Jvm.exec) (hlk : meth.locks = false) (hret : meth.sig.returnType = some .double) (hd : decode c.code pc = .ok (.dreturn, 1))
    (hc : cells ≤ C) (hn : slots ≤ N) (q : Q (some (.double z)) T.heap locs) : own_Go p e below (fun o U' => ∃ v L, o = .returned v ∧ Q v U'.heap L ∧ FrameEnd s o U' L C N) (T.setTop (mkF m pc Ls (.double z :: rest))) :=
  own_ret X hlk (fun h => by rw [hret] at h; cases h) (fun fs hr => retOut X hx hret rfl (Or.inr (Or.inr (Or.inl ⟨rfl, rfl, z, rfl⟩))) hd hr) hc hn q
theorem own_retA {t : FieldType} {pc : Nat} {Ls : Array Slot} {w : Value} {rest : List Value} (X : Stand p l e R s m args below meth c T locs cells slots) (hx : p.tables.exec = Jvm.exec) (hlk : meth.locks = false) (hret : meth.sig.returnType = some t) (ht : t.isReference = true) (hw : w.isRef = true) (hd : decode c.code pc = .ok (.areturn, 1))
    (hc : cells ≤ C) (hn : slots ≤ N) (q : Q (some w) T.heap locs) : own_Go p e below (fun o U' => ∃ v L, o = .returned v ∧ Q v U'.heap L ∧ FrameEnd s o U' L C N) (T.setTop (mkF m pc Ls (w :: rest))) :=
  own_ret X hlk (fun h => by rw [hret] at h; cases h) (fun fs hr => retOut X hx hret (by rcases ref_cases hw with rfl | ⟨z, rfl⟩ <;> cases t <;> rfl) (Or.inr (Or.inr (Or.inr (Or.inr ⟨rfl, ht, hw⟩)))) hd hr) hc hn q
theorem own_retV {pc : Nat} {Ls : Array Slot} (X : Stand p l e R s m args below meth c T locs cells slots) (hx : p.tables.exec = Jvm.exec) (hlk : meth.locks = false) (hret : meth.sig.returnType = none) (hd : decode c.code pc = .ok (.return_, 1))
    (hc : cells ≤ C) (hn : slots ≤ N) (q : Q none T.heap locs) : own_Go p e below (fun o U' => ∃ v L, o = .returned v ∧ Q v U'.heap L ∧ FrameEnd s o U' L C N) (T.setTop (mkF m pc Ls [])) :=
  own_ret X hlk (fun _ => rfl) (fun fs hr => X.returnOut hx hret hd hr) hc hn q
theorem own_retW {vm0 : Vm} {k0 : Nat} {v : Option Value} {g : JFrame} (X : Stand p l e R (s.setVm vm0) m args below meth c T locs cells slots) (hlk : meth.locks = false) (hv : meth.sig.returnType = none → v = none) (hS : s.Since vm0 k0) (hk : k0 ≤ T.heap.size)
    (hl : ∀ fs : List Frame, (∀ (f : JFrame) (acts : List Action), f.method = m → f.locked = none → f.entered = [] → (doReturn e (T.setTop f) acts v).1 = T.setFrames fs) → Steps p.tables e below (T.setTop g) (T.setFrames fs))
    (hc : cells ≤ C) (hn : slots ≤ N) (q : Q v T.heap locs) : own_Go p e below (fun o U' => ∃ v L, o = .returned v ∧ Q v U'.heap L ∧ ReturnedEndW s o U' L C N) (T.setTop g) := by
  obtain ⟨fs, hr, hrun, hended, h1, h2, h3, h4⟩ := X.leaveW hS hk (v := v) hv hlk
  exact ⟨_, _, hl fs hr, hrun, hended, _, _, rfl, q, h1, h2, h3, h4.mono hc hn⟩
theorem own_retWV {vm0 : Vm} {k0 : Nat} {pc : Nat} {Ls : Array Slot} (X : Stand p l e R (s.setVm vm0) m args below meth c T locs cells slots) (hx : p.tables.exec = Jvm.exec) (hlk : meth.locks = false) (hret : meth.sig.returnType = none) (hS : s.Since vm0 k0) (hk : k0 ≤ T.heap.size) (hd : decode c.code pc = .ok (.return_, 1))
    (hc : cells ≤ C) (hn : slots ≤ N) (q : Q none T.heap locs) : own_Go p e below (fun o U' => ∃ v L, o = .returned v ∧ Q v U'.heap L ∧ ReturnedEndW s o U' L C N) (T.setTop (mkF m pc Ls [])) :=
  own_retW X hlk (fun _ => rfl) hS hk (fun fs hr => X.returnOut hx hret hd hr) hc hn q
theorem own_retWZ {vm0 : Vm} {k0 : Nat} {pc : Nat} {Ls : Array Slot} {z : Int32} {rest : List Value} (X : Stand p l e R (s.setVm vm0) m args below meth c T locs cells slots) (hx : p.tables.exec = Jvm.exec) (hlk : meth.locks = false) (hret : meth.sig.returnType = some .boolean) (hS : s.Since vm0 k0) (hk : k0 ≤ T.heap.size) (hz : z = 0 ∨ z = 1) (hd : decode c.code pc = .ok (.ireturn, 1))
    (hc : cells ≤ C) (hn : slots ≤ N) (q : Q (some (.int z)) T.heap locs) : own_Go p e below (fun o U' => ∃ v L, o = .returned v ∧ Q v U'.heap L ∧ ReturnedEndW s o U' L C N) (T.setTop (mkF m pc Ls (.int z :: rest))) :=
  own_retW X hlk (fun h => by rw [hret] at h; cases h) hS hk (fun fs hr => retN X hx (z := z) (t := .boolean) hret (Or.inl rfl) hd (by rw [show nar .boolean z = z by rcases hz with rfl | rfl <;> rfl]; exact hr)) hc hn q
/-- an array: its length, and what each place holds -/
def own_Ar (Z : State) (h : Heap) (a : Addr) (ty : FieldType) (n : Nat) (f : Nat → Value) : Prop := ∃ c : Cell, Arr Z h a c ty ∧ c.slots.size = n ∧ ∀ j, j < n → c.slots[j]? = some (f j)
section OwnAr
variable {Z : State} {h h' : Heap} {a b : Addr} {ty : FieldType} {n : Nat} {f f' : Nat → Value} {ws : List Addr}
theorem own_Ar.lt (F : own_Ar Z h a ty n f) : a < h.size := by obtain ⟨c, A, -⟩ := F; exact A.lt
theorem own_Ar.ext (F : own_Ar Z h a ty n f) (E : Ext h h') : own_Ar Z h' a ty n f := by obtain ⟨c, A, r⟩ := F; exact ⟨c, A.ext E, r⟩
theorem own_Ar.other {sl : Nat} {v : Value} (F : own_Ar Z h b ty n f) (W : Wr h h' a sl v) (q : b ≠ a) : own_Ar Z h' b ty n f := by obtain ⟨c, A, r⟩ := F; exact ⟨c, A.other W q, r⟩
theorem own_Ar.keep (F : own_Ar Z h a ty n f) (K : Keep h h' ws) (q : a ∉ ws) : own_Ar Z h' a ty n f := by obtain ⟨c, A, r⟩ := F; exact ⟨c, ⟨K.2.1 a c A.1 q, A.2⟩, r⟩
theorem own_Ar.congr (F : own_Ar Z h a ty n f) (q : ∀ j, j < n → f j = f' j) : own_Ar Z h a ty n f' := by obtain ⟨c, A, S, r⟩ := F; exact ⟨c, A, S, fun j hj => by rw [← q j hj]; exact r j hj⟩
theorem own_Ar.new {cA : ClassId} {z : Int32} (A : Arr Z h a (newA cA ty z) ty) (hz : z.toInt = (n : Int)) : own_Ar Z h a ty n (fun _ => defaultValue ty) := by
  have e : z.toNatClampNeg = n := by show z.toInt.toNat = n; omega
  exact ⟨_, A, by rw [sz_new, e], fun j hj => by simp [newA, e, hj]⟩
theorem own_Ar.set {i : Nat} {v : Value} (F : own_Ar Z h a ty n f) (W : Wr h h' a i v) : own_Ar Z h' a ty n (fun j => if j = i then v else f j) := by
  obtain ⟨c, A, S, r⟩ := F
  refine ⟨c.setSlot i v, A.same W, by rw [sz_set, S], fun j hj => ?_⟩
  show (c.slots.setIfInBounds i v)[j]? = _
  by_cases q : j = i
  · subst q; simp [S, hj]
  · rw [Array.getElem?_setIfInBounds_ne (Ne.symm q), r j hj]; simp [q]
theorem own_inb {c : Cell} {j : Int32} {i : Nat} (S : c.slots.size = n) (hj : j.toInt = (i : Int)) (hi : i < n) : ¬ (j < 0 ∨ c.slots.size ≤ j.toNatClampNeg) := by
  have e : j.toNatClampNeg = i := by show j.toInt.toNat = i; omega
  rw [e, S, Int32.lt_iff_toInt_lt, hj, show (0 : Int32).toInt = 0 by decide]
  omega
theorem own_clamp {j : Int32} {i : Nat} (hj : j.toInt = (i : Int)) : j.toNatClampNeg = i := by show j.toInt.toNat = i; omega
theorem own_alen (X : Stand p l e R s m args below meth c T locs cells slots) (hx : p.tables.exec = Jvm.exec) (hZ : Z.Warmed39 s.vm) (eT : T.heap = h) (F : own_Ar Z h a ty n f) {z : Int32} (hz : z.toInt = (n : Int))
    {g : JFrame} (hg : g.method = m) {rest : List Value} (hs : g.stack = .ref a :: rest) (hd : decode c.code g.pc = .ok (.arraylength, 1)) (target : State)
    (hr : Steps p.tables e below (T.setTop { g with pc := g.pc + 1, stack := .int z :: rest }) target) : Steps p.tables e below (T.setTop g) target := by
  obtain ⟨cl, A, S, -⟩ := F
  refine X.arraylength hx (by rw [eT]; exact A.1) (State.isArrayOf_alike hZ.alike A.2.1) hg hs hd target ?_
  have q : cl.slots.size.toInt32 = z := by
    rw [← Int32.toInt_inj, S, hz]
    have := z.toInt_lt
    exact len_toInt (by omega)
  rw [q]; exact hr
theorem own_dld (X : Stand p l e R s m args below meth c T locs cells slots) (hx : p.tables.exec = Jvm.exec) (hZ : Z.Warmed39 s.vm) (eT : T.heap = h) (F : own_Ar Z h a .double n f) {j : Int32} {i : Nat} (hj : j.toInt = (i : Int)) (hi : i < n) {v : Value} (hv : f i = v)
    {g : JFrame} (hg : g.method = m) {rest : List Value} (hs : g.stack = .int j :: .ref a :: rest) (hd : decode c.code g.pc = .ok (.daload, 1)) (target : State)
    (hr : Steps p.tables e below (T.setTop { g with pc := g.pc + 1, stack := v :: rest }) target) : Steps p.tables e below (T.setTop g) target := by
  obtain ⟨cl, A, S, H⟩ := F
  exact X.daload hx (by rw [eT]; exact A.1) (State.isArrayOf_alike hZ.alike A.2.1) A.2.2 (own_inb S hj hi) (by rw [own_clamp hj, H i hi, hv]) hg hs hd target hr
theorem own_lld (X : Stand p l e R s m args below meth c T locs cells slots) (hx : p.tables.exec = Jvm.exec) (hZ : Z.Warmed39 s.vm) (eT : T.heap = h) (F : own_Ar Z h a .long n f) {j : Int32} {i : Nat} (hj : j.toInt = (i : Int)) (hi : i < n) {v : Value} (hv : f i = v)
    {g : JFrame} (hg : g.method = m) {rest : List Value} (hs : g.stack = .int j :: .ref a :: rest) (hd : decode c.code g.pc = .ok (.laload, 1)) (target : State)
    (hr : Steps p.tables e below (T.setTop { g with pc := g.pc + 1, stack := v :: rest }) target) : Steps p.tables e below (T.setTop g) target := by
  obtain ⟨cl, A, S, H⟩ := F
  exact X.laload hx (by rw [eT]; exact A.1) (State.isArrayOf_alike hZ.alike A.2.1) A.2.2 (own_inb S hj hi) (by rw [own_clamp hj, H i hi, hv]) hg hs hd target hr
theorem own_dst (X : Stand p l e R s m args below meth c T locs cells slots) (hx : p.tables.exec = Jvm.exec) (hZ : Z.Warmed39 s.vm) (eT : T.heap = h) (F : own_Ar Z h a .double n f) {j : Int32} {i : Nat} (hj : j.toInt = (i : Int)) (hi : i < n) {x : UInt64}
    {g : JFrame} (hg : g.method = m) {rest : List Value} (hs : g.stack = .double x :: .int j :: .ref a :: rest) (hd : decode c.code g.pc = .ok (.dastore, 1)) :
    ∃ T' h', Stand p l e R s m args below meth c T' (locs ++ [⟨a, i⟩]) cells slots ∧ T'.heap = h' ∧ Wr h h' a i (.double x) ∧ ∀ target, Steps p.tables e below (T'.setTop { g with pc := g.pc + 1, stack := rest }) target → Steps p.tables e below (T.setTop g) target := by
  obtain ⟨cl, A, S, H⟩ := F
  have q := stD X hx hZ eT A (x := x) (own_inb S hj hi) hg hs hd
  rw [own_clamp hj] at q
  exact q
theorem own_lst (X : Stand p l e R s m args below meth c T locs cells slots) (hx : p.tables.exec = Jvm.exec) (hZ : Z.Warmed39 s.vm) (eT : T.heap = h) (F : own_Ar Z h a .long n f) {j : Int32} {i : Nat} (hj : j.toInt = (i : Int)) (hi : i < n) {x : Int64}
    {g : JFrame} (hg : g.method = m) {rest : List Value} (hs : g.stack = .long x :: .int j :: .ref a :: rest) (hd : decode c.code g.pc = .ok (.lastore, 1)) :
    ∃ T' h', Stand p l e R s m args below meth c T' (locs ++ [⟨a, i⟩]) cells slots ∧ T'.heap = h' ∧ Wr h h' a i (.long x) ∧ ∀ target, Steps p.tables e below (T'.setTop { g with pc := g.pc + 1, stack := rest }) target → Steps p.tables e below (T.setTop g) target := by
  obtain ⟨cl, A, S, H⟩ := F
  have q := stJ X hx hZ eT A (x := x) (own_inb S hj hi) hg hs hd
  rw [own_clamp hj] at q
  exact q
end OwnAr
theorem own_stakeep {Z : State} {h h' : Heap} {C n d : String} {v : Value} {ws : List Addr} (F : Sta Z h C n d v) (K : Keep h h' ws) (q : ∀ x ∈ ws, ∀ c : Cell, h[x]? = some c → c.vm.isStatics = false) : Sta Z h' C n d v := by
  obtain ⟨cf, i, k, f, st, cell, h1, h2, h3, h4, h5, h6, h7⟩ := F
  exact ⟨cf, i, k, f, st, cell, h1, h2, h3, h4, K.2.1 st cell h5 (fun hm => by rw [q st hm cell h5] at h6; cases h6), h6, h7⟩
end Own
end Jvm.RoadKit
namespace Jvm.RoadKit
open Sem ClassFile Op Lib Jvm.Stand Jvm.Free Jvm.LawKit
section OwnStr
variable {p : Program} {l : Launch} {e : Env} {R : Room} {s : State} {m : MethodId} {args : Array Value} {below : List Frame} {meth : Method} {c : Code} {T : State} {locs : List Loc} {cells slots : Nat}
variable {Z : State} {h h' : Heap} {a b : Addr} {n : Nat} {f : Nat → Value} {ws : List Addr} {v : Value}
theorem own_cald (X : Stand p l e R s m args below meth c T locs cells slots) (hx : p.tables.exec = Jvm.exec) (hZ : Z.Warmed39 s.vm) (eT : T.heap = h) (F : own_Ar Z h a .char n f) {j : Int32} {i : Nat} (hj : j.toInt = (i : Int)) (hi : i < n) {v : Value} (hv : f i = v)
    {g : JFrame} (hg : g.method = m) {rest : List Value} (hs : g.stack = .int j :: .ref a :: rest) (hd : decode c.code g.pc = .ok (.caload, 1)) (target : State)
    (hr : Steps p.tables e below (T.setTop { g with pc := g.pc + 1, stack := v :: rest }) target) : Steps p.tables e below (T.setTop g) target := by
  obtain ⟨cl, A, S, H⟩ := F
  exact X.caload hx (by rw [eT]; exact A.1) (State.isArrayOf_alike hZ.alike A.2.1) A.2.2 (own_inb S hj hi) (by rw [own_clamp hj, H i hi, hv]) hg hs hd target hr
theorem own_bald (X : Stand p l e R s m args below meth c T locs cells slots) (hx : p.tables.exec = Jvm.exec) (hZ : Z.Warmed39 s.vm) (eT : T.heap = h) (F : own_Ar Z h a .byte n f) {j : Int32} {i : Nat} (hj : j.toInt = (i : Int)) (hi : i < n) {v : Value} (hv : f i = v)
    {g : JFrame} (hg : g.method = m) {rest : List Value} (hs : g.stack = .int j :: .ref a :: rest) (hd : decode c.code g.pc = .ok (.baload, 1)) (target : State)
    (hr : Steps p.tables e below (T.setTop { g with pc := g.pc + 1, stack := v :: rest }) target) : Steps p.tables e below (T.setTop g) target := by
  obtain ⟨cl, A, S, H⟩ := F
  exact X.baloadBytes hx (by rw [eT]; exact A.1) (State.isArrayOf_alike hZ.alike A.2.1) A.2.2 (own_inb S hj hi) (by rw [own_clamp hj, H i hi, hv]) hg hs hd target hr
theorem own_rald {ty : FieldType} (ht : ty.isReference = true) (X : Stand p l e R s m args below meth c T locs cells slots) (hx : p.tables.exec = Jvm.exec) (hZ : Z.Warmed39 s.vm) (eT : T.heap = h) (F : own_Ar Z h a ty n f) {j : Int32} {i : Nat} (hj : j.toInt = (i : Int)) (hi : i < n) {v : Value} (hv : f i = v)
    {g : JFrame} (hg : g.method = m) {rest : List Value} (hs : g.stack = .int j :: .ref a :: rest) (hd : decode c.code g.pc = .ok (.aaload, 1)) (target : State)
    (hr : Steps p.tables e below (T.setTop { g with pc := g.pc + 1, stack := v :: rest }) target) : Steps p.tables e below (T.setTop g) target := by
  obtain ⟨cl, A, S, H⟩ := F
  exact X.aaload hx (by rw [eT]; exact A.1) (State.isArrayOf_alike hZ.alike A.2.1) ht A.2.2 (own_inb S hj hi) (by rw [own_clamp hj, H i hi, hv]) hg hs hd target hr
theorem own_cast (X : Stand p l e R s m args below meth c T locs cells slots) (hx : p.tables.exec = Jvm.exec) (hZ : Z.Warmed39 s.vm) (eT : T.heap = h) (F : own_Ar Z h a .char n f) {j : Int32} {i : Nat} (hj : j.toInt = (i : Int)) (hi : i < n) {x : Int32} (hn : nar .char x = x)
    {g : JFrame} (hg : g.method = m) {rest : List Value} (hs : g.stack = .int x :: .int j :: .ref a :: rest) (hd : decode c.code g.pc = .ok (.castore, 1)) :
    ∃ T' h', Stand p l e R s m args below meth c T' (locs ++ [⟨a, i⟩]) cells slots ∧ T'.heap = h' ∧ Wr h h' a i (.int x) ∧ ∀ target, Steps p.tables e below (T'.setTop { g with pc := g.pc + 1, stack := rest }) target → Steps p.tables e below (T.setTop g) target := by
  obtain ⟨cl, A, S, H⟩ := F
  have q := stC X hx hZ eT A (x := x) (own_inb S hj hi) hg hs hd
  rw [own_clamp hj, hn] at q
  exact q
theorem own_bast (X : Stand p l e R s m args below meth c T locs cells slots) (hx : p.tables.exec = Jvm.exec) (hZ : Z.Warmed39 s.vm) (eT : T.heap = h) (F : own_Ar Z h a .byte n f) {j : Int32} {i : Nat} (hj : j.toInt = (i : Int)) (hi : i < n) {x : Int32} (hn : nar .byte x = x)
    {g : JFrame} (hg : g.method = m) {rest : List Value} (hs : g.stack = .int x :: .int j :: .ref a :: rest) (hd : decode c.code g.pc = .ok (.bastore, 1)) :
    ∃ T' h', Stand p l e R s m args below meth c T' (locs ++ [⟨a, i⟩]) cells slots ∧ T'.heap = h' ∧ Wr h h' a i (.int x) ∧ ∀ target, Steps p.tables e below (T'.setTop { g with pc := g.pc + 1, stack := rest }) target → Steps p.tables e below (T.setTop g) target := by
  obtain ⟨cl, A, S, H⟩ := F
  have q := stB X hx hZ eT A (x := x) (own_inb S hj hi) hg hs hd
  rw [own_clamp hj, hn] at q
  exact q
theorem own_Ar.arv {k : ClassId} {ty : FieldType} {z : Int32} {vs : List Value} {d : Value} (F : Arv Z h a k ty z vs d) (hn : z.toNatClampNeg = n) : own_Ar Z h a ty n (fun j => vs.getD j d) := by
  obtain ⟨c, A, -, S, -, H, -⟩ := F
  exact ⟨c, A, by rw [S, hn], fun j hj => H j (by rw [S, hn]; exact hj)⟩
/-- a char that fits a byte -/
def own_C8 (x : Int32) : Prop := 0 ≤ x.toInt ∧ x.toInt < 256
theorem own_nar_char {x : Int32} (h : own_C8 x) : nar .char x = x := by
  show x.toUInt32.toUInt16.toUInt32.toInt32 = x
  obtain ⟨h1, h2⟩ := h
  apply Int32.toInt_inj.mp
  have e : x.toBitVec.toNat < 256 := by
    have r := BitVec.toInt_eq_toNat_cond x.toBitVec
    have q : x.toInt = x.toBitVec.toInt := rfl
    have t := x.toBitVec.isLt
    split at r <;> omega
  have e2 : x.toUInt32.toUInt16.toUInt32 = x.toUInt32 := by
    apply UInt32.toNat_inj.mp
    rw [UInt16.toNat_toUInt32, UInt32.toNat_toUInt16]
    exact Nat.mod_eq_of_lt (show x.toBitVec.toNat < 2 ^ 16 by omega)
  rw [e2]; rfl
theorem own_nar_byte (x : Int32) : nar .byte x.toInt8.toInt32 = x.toInt8.toInt32 := by
  show x.toInt8.toInt32.toInt8.toInt32 = _
  rw [Int8.toInt8_toInt32]
/-- a String: its bytes' array and their ints -/
def own_Str (Z : State) (h : Heap) (a b : Addr) (n : Nat) (g : Nat → Int32) : Prop :=
  Exa Z h a "java/lang/String" ∧ Fld Z h a "java/lang/String" "coder" "B" (.int 0) ∧ Fld Z h a "java/lang/String" "value" "[B" (.ref b) ∧ own_Ar Z h b .byte n (fun j => .int (g j))
theorem own_Str.ext {g : Nat → Int32} (F : own_Str Z h a b n g) (E : Ext h h') : own_Str Z h' a b n g := ⟨F.1.ext E, F.2.1.ext E, F.2.2.1.ext E, F.2.2.2.ext E⟩
theorem own_Str.keep {g : Nat → Int32} (F : own_Str Z h a b n g) (K : Keep h h' ws) (q1 : a ∉ ws) (q2 : b ∉ ws) : own_Str Z h' a b n g := ⟨F.1.keep K, F.2.1.keep K q1, F.2.2.1.keep K q1, F.2.2.2.keep K q2⟩
theorem own_Str.congr {g g' : Nat → Int32} (F : own_Str Z h a b n g) (q : ∀ j, j < n → g j = g' j) : own_Str Z h a b n g' := ⟨F.1, F.2.1, F.2.2.1, F.2.2.2.congr fun j hj => by rw [q j hj]⟩
theorem own_fld_det {C nm d : String} {v w : Value} (F : Fld Z h a C nm d v) (G : Fld Z h a C nm d w) : v = w := by
  obtain ⟨c1, cf, k, i, fl, h1, h2, -, -, -, -, h3⟩ := F
  obtain ⟨c2, cf2, k2, i2, fl2, g1, g2, -, -, -, -, g3⟩ := G
  cases h1.symm.trans g1
  cases h2.symm.trans g2
  exact Option.some.inj (h3.symm.trans g3)
/-- two texts are the same -/
def own_eqt (n : Nat) (g : Nat → Int32) (n' : Nat) (g' : Nat → Int32) : Prop := n = n' ∧ ∀ j, j < n → g j = g' j
theorem own_Str.det {b' : Addr} {n' : Nat} {g g' : Nat → Int32} (F : own_Str Z h a b n g) (G : own_Str Z h a b' n' g') : own_eqt n g n' g' := by
  have e := own_fld_det F.2.2.1 G.2.2.1
  cases e
  obtain ⟨c1, A, S, H⟩ := F.2.2.2
  obtain ⟨c2, A', S', H'⟩ := G.2.2.2
  cases A.1.symm.trans A'.1
  have e : n = n' := S.symm.trans S'
  subst e
  exact ⟨rfl, fun j hj => by have := (H j hj).symm.trans (H' j hj); simpa using this⟩
def own_B (z : Int32) (P : Prop) : Prop := (z = 1 ∧ P) ∨ (z = 0 ∧ ¬ P)
theorem own_inc {n : Int32} {k : Nat} (h : n.toInt = (k : Int)) (hk : k < 100000) : (n + 1).toInt = ((k + 1 : Nat) : Int) := by
  have h1 := c_iadd n 1
  have h2 := rng32 (n + 1)
  rw [show (1 : Int32).toInt = 1 by decide] at h1
  omega
theorem own_i32 {n z : Int32} (h : n.toInt = z.toInt) : n = z := Int32.toInt_inj.mp h
/-- which texts were interned: over a callee -/
theorem own_IB_at {vm0 : Vm} {Ts : List String} (X : Stand p l e R (s.setVm vm0) m args below meth c T locs cells slots) (I : IB Z vm0 Ts) : IB Z T.vm Ts := by
  obtain ⟨more, h1, h2⟩ := I
  exact ⟨more, by rw [show T.vm.interned = vm0.interned from X.warmed.interned_eq]; exact h1, h2⟩
theorem own_backSI {vm0 : Vm} {Ts Us : List String} {a0 : Array Value} {y : MethodName} {bytes : ByteArray} {maxL : Nat} {ret : Option FieldType} {rm : Room} {len W : Nat} {as' : Array Value} {Q : Option Value → Heap → List Loc → Prop}
    (hM : MetFree l y (head1 [Cond.code y bytes maxL ret] rm) (fun a U => a = as' ∧ Z.Warmed39 U.vm ∧ U.heap = h ∧ IB Z U.vm Ts) (fun _ _ _ _ _ => True) (fun _ U o U' => ∃ v L, o = .returned v ∧ Q v U'.heap L ∧ IB Z U'.vm Us ∧ ReturnedEndW U o U' L rm.cells rm.slots))
    (hZ : Z.Warmed39 vm0) (wc : (Cond.code y bytes maxL ret).before a0 Z = true) (wz : (Cond.initialized y.cls).before a0 Z = true) (hf : rm.frames + 1 ≤ R.frames) (hl : W + (maxL + 11) + rm.locals ≤ R.locals) (I : IB Z vm0 Ts) :
    BackS l R p e below (s.setVm vm0) args y len W (fun A a => a = as' ∧ A.U.heap = h ∧ A.cells + rm.cells ≤ R.cells ∧ A.slots + rm.slots ≤ R.slots)
      (fun A _ v B => ∃ L, Q v B.U.heap L ∧ B.locs = A.locs ++ L ∧ B.cells = A.cells + rm.cells ∧ B.slots = A.slots + rm.slots ∧ IB Z B.U.vm Us) :=
  BackS.of_freeW (bytes := bytes) (maxL := maxL) (ret := ret) (E := fun _ first o t L k n => k = rm.cells ∧ n = rm.slots ∧ (∃ v, o = .returned v ∧ Q v t.heap L) ∧ IB Z t.vm Us) hM hf hl
    (fun m meth c A a Y hp => have hU : Z.Warmed39 A.U.vm := wtrans (s := s.setVm vm0) hZ Y.warmed
      ⟨by show (Cond.and _ .tt).before a A.U = true; rw [Cond.before_and, mv hU wc]; rfl, mv hU wc, mv hU wz, hp.2.2.1, hp.2.2.2⟩)
    (fun m meth c A a g mk Y hp => ⟨hp.1, wtrans (s := s.setVm vm0) hZ Y.warmed, hp.2.1, show IB Z A.U.vm Ts from own_IB_at Y I⟩) (fun _ _ _ _ _ _ _ _ _ => trivial)
    (fun _ _ _ _ ⟨v, L, h1, h2, h3, h4⟩ => ⟨L, _, _, h4, rfl, rfl, ⟨v, h1, h2⟩, h3⟩)
    (fun m meth c A a g mk v t L k n Y hp _ _ ⟨e1, e2, ⟨v', e3, e4⟩, e5⟩ => by
      cases e3; subst e1 e2
      exact ⟨L, e4, rfl, rfl, rfl, e5⟩)
theorem own_getD_map (ls : List Int32) (j : Nat) : (ls.map Value.int).getD j (.int 0) = .int (ls.getD j 0) := by
  induction ls generalizing j with
  | nil => rfl
  | cons x l ih => cases j with
    | zero => rfl
    | succ j => exact ih j
theorem own_retWVI {vm0 : Vm} {k0 C N : Nat} {Q : Option Value → Heap → List Loc → Prop} {Us : List String} {pc : Nat} {Ls : Array Slot} (X : Stand p l e R (s.setVm vm0) m args below meth c T locs cells slots) (hx : p.tables.exec = Jvm.exec) (hlk : meth.locks = false) (hret : meth.sig.returnType = none) (hS : s.Since vm0 k0) (hk : k0 ≤ T.heap.size) (hd : decode c.code pc = .ok (.return_, 1)) (I : IB Z T.vm Us)
    (hc : cells ≤ C) (hn : slots ≤ N) (q : Q none T.heap locs) : own_Go p e below (fun o U' => ∃ v L, o = .returned v ∧ Q v U'.heap L ∧ IB Z U'.vm Us ∧ ReturnedEndW s o U' L C N) (T.setTop (mkF m pc Ls [])) := by
  obtain ⟨fs, hr, hrun, hended, h1, h2, h3, h4⟩ := X.leaveW hS hk (v := none) (fun _ => rfl) hlk
  exact ⟨_, _, X.returnOut hx hret hd hr, hrun, hended, _, _, rfl, q, I, h1, h2, h3, h4.mono hc hn⟩
theorem own_ne0 {ty : FieldType} {C nm d : String} (F : own_Ar Z h b ty 0 f) (G : Fld Z h a C nm d v) : b ≠ a := fun q => by
  subst q
  obtain ⟨c1, A, S, -⟩ := F
  obtain ⟨c2, cf, k, i, fl, h1, -, -, -, -, -, h7⟩ := G
  cases A.1.symm.trans h1
  have : fl.slot < c1.slots.size := (Array.getElem?_eq_some_iff.mp h7).1
  omega
theorem own_fit_keep {ty : FieldType} {h0 : Heap} (F : own_Ar Z h0 a ty n f) (K : Keep h0 h []) (hF : ∀ c : Cell, Arr Z h0 a c ty → FitC Z c) : ∀ c : Cell, Arr Z h a c ty → FitC Z c := fun c A => by
  obtain ⟨c0, A0, -⟩ := F
  have e := K.2.1 a c0 A0.1 (List.not_mem_nil)
  cases A.1.symm.trans e
  exact hF c A0
theorem own_nst {K : String} (E : Exa Z h a K) : ∀ x ∈ [a], ∀ c : Cell, h[x]? = some c → c.vm.isStatics = false := by
  obtain ⟨c1, k1, e1, -, -, e2, -⟩ := E
  intro x hx c hc
  simp only [List.mem_cons, List.not_mem_nil, or_false] at hx
  subst hx
  cases e1.symm.trans hc; exact e2
theorem own_arr_start {t : Term} {ty : FieldType} {N : Int32} (et : t.eval args Z none [] Z = some (.ref a)) (ha : (Cond.arrayOf t ty).value args Z none Z [] = some true) (hl : (Cond.eq (.length t) (.int N)).value args Z none Z [] = some true) (hN : N.toInt = (n : Int)) :
    ∃ fv : Nat → Value, own_Ar Z Z.heap a ty n fv ∧ ∀ k, k < n → ∀ j : Int32, j.toInt = (k : Int) → (Term.elem t (.int j)).eval args Z none [] Z = some (fv k) := by
  obtain ⟨c, A⟩ := Arr.start et ha
  have fin := A.fin (Vm.Alike.refl _)
  have e := eqv_i (Term.int_eval N) hl
  have S : c.slots.size = n := by
    simp only [Term.eval, et, fin, Option.bind_eq_bind, Option.bind_some] at e
    split at e
    · rename_i q
      have e1 : c.slots.size.toInt32 = N := by simpa using e
      have := congrArg Int32.toInt e1
      rw [len_toInt q, hN] at this
      omega
    · cases e
  refine ⟨fun j => (c.slots[j]?).getD .null, ⟨c, A, S, fun j hj => ?_⟩, fun k hk j hj => ?_⟩
  · show c.slots[j]? = some ((c.slots[j]?).getD .null)
    rw [Array.getElem?_eq_getElem (show j < c.slots.size by omega)]; rfl
  · have nn : ¬ j < 0 := by rw [Int32.lt_iff_toInt_lt, hj, show (0 : Int32).toInt = 0 by decide]; omega
    rw [elem_f et (Term.int_eval j) fin nn, own_clamp hj]
    show c.slots[k]? = some ((c.slots[k]?).getD .null)
    rw [Array.getElem?_eq_getElem (show k < c.slots.size by omega)]; rfl
theorem own_Str.start {tn : Term} {N : Int32} (vn : tn.eval args Z none [] Z = some (.ref a)) (hx : (Cond.exactly tn "java/lang/String").value args Z none Z [] = some true) (hc : (Cond.eq (.field tn "java/lang/String" "coder" "B") (.int 0)).value args Z none Z [] = some true) (ha : (Cond.arrayOf (.field tn "java/lang/String" "value" "[B") .byte).value args Z none Z [] = some true) (hl : (Cond.eq (.length (.field tn "java/lang/String" "value" "[B")) (.int N)).value args Z none Z [] = some true) (hN : N.toInt = (n : Int)) (ls : List Int32)
    (he : ∀ k, k < n → ∃ j : Int32, j.toInt = (k : Int) ∧ (Cond.eq (.elem (.field tn "java/lang/String" "value" "[B") (.int j)) (.int (ls.getD k 0))).value args Z none Z [] = some true) : ∃ b, own_Str Z Z.heap a b n (fun j => ls.getD j 0) := by
  obtain ⟨b, vb⟩ := arr_v ha
  obtain ⟨fv, F, H⟩ := own_arr_start vb ha hl hN
  refine ⟨b, Exa.start vn hx, Fld.start ((fld_at vn).symm.trans (eqv_i (Term.int_eval (0)) hc)), Fld.start ((fld_at vn).symm.trans vb), F.congr fun k hk => ?_⟩
  obtain ⟨j, hj, hm⟩ := he k hk
  have e1 := H k hk j hj
  have e2 := eqv_i (Term.int_eval (ls.getD k 0)) hm
  exact Option.some.inj (e1.symm.trans e2)
theorem own_eqref {X F : Term} {y : Value} (hF : F.eval args Z none [] Z = some y) (hy : y.isRef = true) (h : (Cond.eq X F).value args Z none Z [] = some true) : X.eval args Z none [] Z = some y :=
  Cond.eq_refs (by show ((Cond.eq X F).value args Z none Z [] == some true) = true; rw [h]; rfl) hF hy
end OwnStr
end Jvm.RoadKit

namespace Jvm.RoadKit
open Sem ClassFile Op Lib Jvm.Stand Jvm.Free Jvm.LawKit
section OwnP2
variable {s : State} {args : Array Value} {Z : State}
theorem own_selp {a0 : Array Value} {K : String} {y0 y : MethodName} (hZ : Z.Warmed39 s.vm) (w0 : (Cond.selects K y0 y0).before a0 Z = true) (hk : y0.cls = y.cls) (wi : (Cond.instanceMethod y).before a0 Z = true) (wp : (Cond.privateMethod y).before a0 Z = true) (hy : y.cls ≠ "java/lang/invoke/MethodHandle" ∧ y.cls ≠ "java/lang/invoke/VarHandle") : (Cond.selects y.cls y y).before args s = true := by
  obtain ⟨c, r, m, -, -, q3, -, k, hk1, hk2⟩ := Cond.selects_spec (mvT (args := args) hZ w0)
  have hc := findClass_of_methodNamed q3
  rw [hk] at hc
  exact selects_self_of_private hc hk1 hk2 (Cond.privateMethod_at (mvP (args := args) hZ wp)) (mvT hZ wi) hy
theorem own_cat {v : Value} (h : v.isRef = true) : v.category = 1 := by rcases ref_cases h with rfl | ⟨_, rfl⟩ <;> rfl
end OwnP2
end Jvm.RoadKit
namespace Jvm.RoadKit
open Sem ClassFile Op Lib Jvm.Stand Jvm.Free Jvm.LawKit
section OwnSb
variable {p : Program} {l : Launch} {e : Env} {R : Room} {s : State} {m : MethodId} {args : Array Value} {below : List Frame} {meth : Method} {c : Code} {T : State} {locs : List Loc} {cells slots : Nat}
variable {Z : State} {h h' : Heap} {a b : Addr} {n : Nat} {a0 : Array Value}
/-- what a byte[] holds at j: the list's byte, 0 behind its end -/
def own_by (bs : List Int8) (j : Nat) : Value := .int (bs.getD j 0).toInt32
theorem own_by_fits (x : Int8) : fits .byte (.int x.toInt32) = true := by
  have h1 := x.le_toInt
  have h2 := x.toInt_lt
  have e : x.toInt32.toInt = x.toInt := Int8.toInt_toInt32 x
  have q1 : (-128 : Int32) ≤ x.toInt32 := by rw [Int32.le_iff_toInt_le, e, show (-128 : Int32).toInt = -128 by decide]; omega
  have q2 : x.toInt32 ≤ (127 : Int32) := by rw [Int32.le_iff_toInt_le, e, show (127 : Int32).toInt = 127 by decide]; omega
  show (decide ((-128 : Int32) ≤ x.toInt32) && decide (x.toInt32 ≤ (127 : Int32))) = true
  rw [decide_eq_true q1, decide_eq_true q2]; rfl
theorem own_rg (f : Nat → Value) (d : Value) {i n : Nat} (hi : i < n) : ((List.range n).map f).getD i d = f i := by
  rw [List.getD_eq_getElem?_getD, List.getElem?_map, List.getElem?_range hi]; rfl
theorem own_splice (f g : Nat → Value) (d : Value) {n j k q : Nat} (hjk : j + k ≤ n) (hq : q < n) :
    (((List.range n).map f).take j ++ (List.range k).map g ++ ((List.range n).map f).drop (j + k)).getD q d = if q < j then f q else if q < j + k then g (q - j) else f q := by
  rw [List.getD_eq_getElem?_getD]
  have l1 : (((List.range n).map f).take j).length = j := by simp; omega
  have l2 : ((List.range k).map g).length = k := by simp
  by_cases h1 : q < j
  · rw [if_pos h1, List.append_assoc, List.getElem?_append_left (by rw [l1]; exact h1), List.getElem?_take_of_lt h1, List.getElem?_map, List.getElem?_range hq]; rfl
  · rw [if_neg h1]
    by_cases h2 : q < j + k
    · rw [if_pos h2, List.getElem?_append_left (by rw [List.length_append, l1, l2]; exact h2), List.getElem?_append_right (by rw [l1]; omega), l1, List.getElem?_map, List.getElem?_range (by omega)]; rfl
    · rw [if_neg h2, List.getElem?_append_right (by rw [List.length_append, l1, l2]; omega), List.length_append, l1, l2, List.getElem?_drop, show j + k + (q - (j + k)) = q by omega, List.getElem?_map, List.getElem?_range hq]; rfl
theorem own_Ar.toArv {bs : List Int8} {z : Int32} (F : own_Ar Z h a .byte n (own_by bs)) (hz : z.toInt = (n : Int)) : ∃ k, Arv Z h a k .byte z ((List.range n).map (own_by bs)) (.int 0) := by
  obtain ⟨c, A, S, H⟩ := F
  have e := own_clamp hz
  refine ⟨c.cls, c, A, rfl, by rw [S, e], ?_, fun i hi => ?_, fun i hi => ?_⟩
  · rw [Int32.lt_iff_toInt_lt, hz, show (0 : Int32).toInt = 0 by decide]; omega
  · rw [S] at hi; rw [own_rg _ _ hi]; exact H i hi
  · rw [S] at hi; rw [own_rg _ _ hi]; exact own_by_fits _
theorem own_acp (X : Stand p l e R s m args below meth c T locs cells slots) (hx : p.tables.exec = Jvm.exec) (hZ : Z.Warmed39 s.vm) {own : String} {index : Nat} (hown : s.vm.findClass own = some m.cls)
    (w1 : (Cond.methodLink own index Jvm.Stand.acN).before a0 Z = true) (w2 : (Cond.native Jvm.Stand.acN).before a0 Z = true) (w3 : (Cond.static Jvm.Stand.acN).before a0 Z = true) (w4 : (Cond.initialized "java/lang/System").before a0 Z = true) (eT : T.heap = h)
    {na nb i j k : Nat} {us vs : List Int8} {sp dp nn za zb : Int32} (A : own_Ar Z h a .byte na (own_by us)) (B : own_Ar Z h b .byte nb (own_by vs)) (ha : za.toInt = (na : Int)) (hb : zb.toInt = (nb : Int)) (hi : sp.toInt = (i : Int)) (hj : dp.toInt = (j : Int)) (hk : nn.toInt = (k : Int)) (h4 : i + k ≤ na) (h5 : j + k ≤ nb)
    {n0 : Nat} (N : Fr n0 locs) (ge : n0 ≤ b) {g : JFrame} (hg : g.method = m) (hsize : g.locals.size = c.maxLocals) {rest : List Value} (hs : g.stack = .int nn :: .int dp :: .ref b :: .int sp :: .ref a :: rest) (hd : decode c.code g.pc = .ok (.invokestatic index, 3))
    (hf : 1 ≤ R.frames) {W : Nat} (hW : 2 * g.monitorRoom + (rest.map fun v => v.category).sum ≤ W) (hlo : W + 18 ≤ R.locals) :
    ∃ T' h' L, Stand p l e R s m args below meth c T' L cells slots ∧ T'.heap = h' ∧ Fr n0 L ∧ Keep h h' [b] ∧ own_Ar Z h' b .byte nb (fun q => if q < j then own_by vs q else if q < j + k then own_by us (i + (q - j)) else own_by vs q) ∧
      ∀ target, Steps p.tables e below (T'.setTop { g with pc := g.pc + 3, stack := rest }) target → Steps p.tables e below (T.setTop g) target := by
  obtain ⟨ka, A'⟩ := A.toArv ha
  obtain ⟨kb, B'⟩ := B.toArv hb
  have nz : ∀ {x : Int32} {t : Nat}, x.toInt = (t : Int) → ¬ x < 0 := fun {x t} q => by rw [Int32.lt_iff_toInt_lt, q, show (0 : Int32).toInt = 0 by decide]; omega
  obtain ⟨T', h', L, X', e', N', K', F', st⟩ := cpA X hx hZ hown w1 w2 w3 w4 eT A' B' (Or.inl ⟨rfl, rfl⟩) (nz hi) (nz hj) (nz hk) (by rw [own_clamp hi, own_clamp hk, own_clamp ha]; exact h4) (by rw [own_clamp hj, own_clamp hk, own_clamp hb]; exact h5) (us := (List.range k).map fun t => own_by us (i + t))
    (by rw [own_clamp hk, own_clamp hi]; exact List.map_congr_left fun t ht => (own_rg _ _ (by have := List.mem_range.mp ht; omega)).symm) (by rw [own_clamp hj, own_clamp hk, List.length_map, List.length_range]; exact h5) N ge hg hsize hs hd hf hW (by rw [show nativeFrameWords "java/lang/System" "arraycopy" 5 = 7 by decide]; exact hlo)
  refine ⟨T', h', L, X', e', N', K', (own_Ar.arv F' (own_clamp hb)).congr fun q hq => ?_, st⟩
  rw [own_clamp hj, own_clamp hk]
  exact own_splice _ _ _ h5 hq
theorem own_by_nil (j : Nat) : own_by [] j = .int 0 := rfl
theorem own_by_app (vs us : List Int8) (q : Nat) : (if q < vs.length then own_by vs q else if q < vs.length + us.length then own_by us (0 + (q - vs.length)) else own_by vs q) = own_by (vs ++ us) q := by
  unfold own_by
  simp only [List.getD_eq_getElem?_getD, List.getElem?_append, Nat.zero_add]
  by_cases h1 : q < vs.length
  · simp [h1]
  · by_cases h2 : q < vs.length + us.length
    · simp [h1, h2]
    · have e1 : vs[q]? = none := by simp; omega
      have e2 : us[q - vs.length]? = none := by simp; omega
      simp [h1, h2, e1, e2]
theorem own_by_cp (us : List Int8) (q : Nat) (hq : q < us.length) : (if q < 0 then own_by [] q else if q < 0 + us.length then own_by us (0 + (q - 0)) else own_by [] q) = own_by us q := by
  rw [if_neg (Nat.not_lt_zero q), if_pos (by omega), show 0 + (q - 0) = q by omega]
theorem own_by_snoc (bs : List Int8) (x : Int8) (j : Nat) : (if j = bs.length then Value.int x.toInt32 else own_by bs j) = own_by (bs ++ [x]) j := by
  unfold own_by
  simp only [List.getD_eq_getElem?_getD, List.getElem?_append]
  by_cases h1 : j < bs.length
  · simp [h1, Nat.ne_of_lt h1]
  · by_cases h2 : j = bs.length
    · subst h2; simp
    · have e1 : bs[j]? = none := by simp; omega
      have e2 : [x][j - bs.length]? = none := by simp; omega
      simp [h1, h2, e1, e2]
theorem own_by_snoc10 (bs : List Int8) (j : Nat) : (if j = bs.length then Value.int 10 else own_by bs j) = own_by (bs ++ [10]) j := own_by_snoc bs 10 j
theorem own_newB (X : Stand p l e R s m args below meth c T locs cells slots) (hx : p.tables.exec = Jvm.exec) (hZ : Z.Warmed39 s.vm) (w : (Cond.arrayClass .byte).before a0 Z = true) (eT : T.heap = h) {g : JFrame} (hg : g.method = m) (hd : decode c.code g.pc = .ok (.newarray .byte, 2)) {z : Int32} {rest : List Value} (hs : g.stack = .int z :: rest)
    (hz : z.toInt = (n : Int)) {cap : Nat} (hcap : n ≤ cap) (hb : cap ≤ 536870912) (hc : cells + 1 ≤ R.cells) (hl : slots + cap ≤ R.slots) :
    ∃ T' h', Stand p l e R s m args below meth c T' locs (cells + 1) (slots + cap) ∧ T'.heap = h' ∧ Ext h h' ∧ own_Ar Z h' h.size .byte n (own_by []) ∧ Exa Z h' h.size "[B" ∧
      ∀ target, Steps p.tables e below (T'.setTop { g with pc := g.pc + 2, stack := .ref h.size :: rest }) target → Steps p.tables e below (T.setTop g) target := by
  have ez := own_clamp hz
  have nz : ¬ z < 0 := by rw [Int32.lt_iff_toInt_lt, hz, show (0 : Int32).toInt = 0 by decide]; omega
  obtain ⟨cA, kA, comp, f1, f2, f3, X', st⟩ := X.newarrayPrim (atype := .byte) hx (mvA hZ w) hg hd hs nz (by show _ * 1 ≤ _; omega) hc (by omega)
  subst eT
  have ef : "[" ++ (newarray.typeOf .byte).toString = "[B" := by decide
  rw [ef] at f1
  have fZ : Z.vm.findClass "[B" = some cA := by rw [← hZ.alike.findClass]; exact f1
  obtain ⟨kZ, z1, -⟩ := Vm.findClass_spec fZ
  obtain ⟨k', z2, z3⟩ := hZ.alike.2.2 _ _ z1
  cases f2.symm.trans z2
  have kk : kZ.kind = .array comp .byte := (congrArg Class.kind z3).symm.trans f3
  have hit : (T.heap.push { cls := cA, slots := Array.replicate z.toNatClampNeg (defaultValue (newarray.typeOf .byte)), vm := .none })[T.heap.size]? = some { cls := cA, slots := Array.replicate z.toNatClampNeg (defaultValue (newarray.typeOf .byte)), vm := .none } := Array.getElem?_push_size
  refine ⟨_, _, X'.more (Nat.le_refl _) (by omega), rfl, ⟨?_, fun x cl q => ?_⟩, ⟨_, ⟨hit, ⟨fun _ q => (by cases q), kZ, z1, comp, kk⟩, fun q => (by cases q)⟩, ?_, fun j hj => ?_⟩, ⟨_, kZ, hit, fZ, z1, rfl, fun q => (by rw [kk] at q; cases q)⟩, st⟩
  · show T.heap.size ≤ (T.heap.push _).size
    rw [Array.size_push]; omega
  · show (T.heap.push _)[x]? = _
    rw [Array.getElem?_push_lt (Array.getElem?_eq_some_iff.mp q).1]; exact (Array.getElem?_eq_getElem _).symm.trans q
  · rw [← ez]; exact Array.size_replicate
  · rw [← ez] at hj
    show (Array.replicate z.toNatClampNeg (Value.int 0))[j]? = some (.int 0)
    rw [Array.getElem?_replicate, if_pos hj]
theorem own_sameM {K : String} {y0 y : MethodName} (wi : (Cond.instanceMethod y).before a0 Z = true) (ws : (Cond.selects K y0 y0).before a0 Z = true) (e : y0.cls = y.cls) (hy : y.cls ≠ "java/lang/invoke/MethodHandle" ∧ y.cls ≠ "java/lang/invoke/VarHandle") : (Cond.sameMethod y.cls y.cls y.name y.desc).before a0 Z = true := by
  obtain ⟨mk, methM, hnamed, -, -, -⟩ := Cond.instanceMethod_spec wi
  obtain ⟨c0, r, m0, -, -, q3, -, k, hk1, hk2⟩ := Cond.selects_spec ws
  have e1 := findClass_of_methodNamed q3
  have e2 := findClass_of_methodNamed hnamed
  rw [e, e2] at e1
  have hf := State.methodFound?_of_named hnamed hy
  have hn' : Z.methodNamed? ⟨y.cls, y.name, y.desc⟩ = some mk := hnamed
  have hk : Z.vm.classes[mk.cls]? = some k := by rw [Option.some.inj e1]; exact hk1
  simp only [Cond.before, Cond.holds, Cond.value, e2, hf, hn', hk]
  simp [hk2]
theorem own_notFace {K : String} {y0 y : MethodName} (w : (Cond.selects K y0 y0).before args s = true) (e : y0.cls = y.cls) : NotFace s y := fun r0 q0 => by
  obtain ⟨c0, r, m0, -, -, q3, -, k, hk1, hk2⟩ := Cond.selects_spec w
  have e1 := findClass_of_methodNamed q3
  rw [e, findClass_of_methodNamed q0] at e1
  exact ⟨k, by rw [Option.some.inj e1]; exact hk1, hk2⟩
theorem own_fitB {bs : List Int8} (F : own_Ar Z h a .byte n (own_by bs)) : ∀ c : Cell, Arr Z h a c .byte → FitC Z c := fun c A i v hv => by
  obtain ⟨c0, A0, S, H⟩ := F
  cases A.1.symm.trans A0.1
  have hi : i < n := by rw [← S]; exact (Array.getElem?_eq_some_iff.mp hv).1
  have ev := Option.some.inj (hv.symm.trans (H i hi))
  subst ev
  obtain ⟨-, k, hk, comp, hkind⟩ := A.2.1
  have q : Z.slotType? c.cls .none i = some .byte := by
    show (Z.vm.classes[c.cls]?).bind _ = _
    rw [hk]
    show (match k.kind with | .array _ type => some type | _ => k.instanceTypes[i]?) = _
    rw [hkind]
  show (match Z.slotType? c.cls .none i with | some t => fits t (own_by bs i) | none => false) = true
  rw [q]; exact own_by_fits _
theorem own_nstA {ty : FieldType} {f : Nat → Value} (F : own_Ar Z h a ty n f) : ∀ x ∈ [a], ∀ c : Cell, h[x]? = some c → c.vm.isStatics = false := by
  obtain ⟨c1, A, -⟩ := F
  intro x hx c hc
  simp only [List.mem_cons, List.not_mem_nil, or_false] at hx
  subst hx
  cases A.1.symm.trans hc; exact A.plain
theorem own_neOA {K : String} {k : Nat} {ty : FieldType} {f : Nat → Value} (E : Exa Z h a K) (wi : (Cond.instantiable K k).before a0 Z = true) (F : own_Ar Z h b ty n f) : a ≠ b := by
  obtain ⟨c1, A, -⟩ := F
  exact ne_arr E wi A
theorem own_neAA {ty ty' : FieldType} {n' : Nat} {f f' : Nat → Value} (F : own_Ar Z h a ty n f) (G : own_Ar Z h b ty' n' f') (q : n ≠ n') : a ≠ b := fun e => by
  subst e
  obtain ⟨c1, A, S, -⟩ := F
  obtain ⟨c2, A', S', -⟩ := G
  cases A.1.symm.trans A'.1
  exact q (S.symm.trans S')
theorem own_retWAI {vm0 : Vm} {k0 C N : Nat} {Q : Option Value → Heap → List Loc → Prop} {Us : List String} {t : FieldType} {pc : Nat} {Ls : Array Slot} {w : Value} {rest : List Value} (X : Stand p l e R (s.setVm vm0) m args below meth c T locs cells slots) (hx : p.tables.exec = Jvm.exec) (hlk : meth.locks = false) (hret : meth.sig.returnType = some t) (ht : t.isReference = true) (hw : w.isRef = true) (hS : s.Since vm0 k0) (hk : k0 ≤ T.heap.size) (hd : decode c.code pc = .ok (.areturn, 1)) (I : IB Z T.vm Us)
    (hc : cells ≤ C) (hn : slots ≤ N) (q : Q (some w) T.heap locs) : own_Go p e below (fun o U' => ∃ v L, o = .returned v ∧ Q v U'.heap L ∧ IB Z U'.vm Us ∧ ReturnedEndW s o U' L C N) (T.setTop (mkF m pc Ls (w :: rest))) := by
  obtain ⟨fs, hr, hrun, hended, h1, h2, h3, h4⟩ := X.leaveW hS hk (v := some w) (fun h => by rw [hret] at h; cases h) hlk
  exact ⟨_, _, retOut X hx hret (by rcases ref_cases hw with rfl | ⟨z, rfl⟩ <;> cases t <;> rfl) (Or.inr (Or.inr (Or.inr (Or.inr ⟨rfl, ht, hw⟩)))) hd hr, hrun, hended, _, _, rfl, q, I, h1, h2, h3, h4.mono hc hn⟩
/-- a String by its bytes -/
def own_Sl (Z : State) (h : Heap) (a b : Addr) (bs : List Int8) : Prop :=
  Exa Z h a "java/lang/String" ∧ Fld Z h a "java/lang/String" "coder" "B" (.int 0) ∧ Fld Z h a "java/lang/String" "value" "[B" (.ref b) ∧ own_Ar Z h b .byte bs.length (own_by bs)
theorem own_Str.sl {g : Nat → Int32} {bs : List Int8} (F : own_Str Z h a b n g) (hl : bs.length = n) (q : ∀ j, j < n → g j = (bs.getD j 0).toInt32) : own_Sl Z h a b bs := by
  subst hl
  exact ⟨F.1, F.2.1, F.2.2.1, F.2.2.2.congr fun j hj => by rw [q j hj]; rfl⟩
/-- a builder: its array of 16 bytes, its count and its bytes -/
def own_SB (Z : State) (h : Heap) (n0 : Nat) (o r : Addr) (k : Int32) (bs : List Int8) : Prop :=
  Exa Z h o "java/lang/StringBuilder" ∧ Fld Z h o "java/lang/AbstractStringBuilder" "value" "[B" (.ref r) ∧ Fld Z h o "java/lang/AbstractStringBuilder" "coder" "B" (.int 0) ∧ Fld Z h o "java/lang/AbstractStringBuilder" "count" "I" (.int k) ∧ own_Ar Z h r .byte 16 (own_by bs) ∧ k.toInt = (bs.length : Int) ∧ o ≠ r ∧ n0 ≤ o ∧ n0 ≤ r
theorem own_SB.nostat {n0 : Nat} {o r : Addr} {k : Int32} {bs : List Int8} (F : own_SB Z h n0 o r k bs) : ∀ x ∈ [o, r], ∀ c : Cell, h[x]? = some c → c.vm.isStatics = false := by
  intro x hx c hc
  simp only [List.mem_cons, List.not_mem_nil, or_false] at hx
  rcases hx with rfl | rfl
  · exact own_nst F.1 x (List.mem_cons_self ..) c hc
  · exact own_nstA F.2.2.2.2.1 x (List.mem_cons_self ..) c hc
theorem own_shr0 (x : Int32) : (x >>> ((0 : Int32) &&& 31)) = x := own_i32 (by rw [c_ishr x 0 0 (by decide)]; simp)
theorem own_shl0 (x : Int32) : (x <<< ((0 : Int32) &&& 31)) = x := own_i32 (by
  have h1 := c_ishl x 0 0 (by decide)
  have h2 := rng32 x
  have h3 := rng32 (x <<< ((0 : Int32) &&& 31))
  simp only [Nat.pow_zero, Int.natCast_one, Int.mul_one] at h1
  omega)
theorem own_shl1 {x : Int32} (hn : x.toInt = (n : Int)) (hl : n ≤ 100) : (x <<< ((1 : Int32) &&& 31)).toInt = ((2 * n : Nat) : Int) := by
  have h1 := c_ishl x 1 1 (by decide)
  have h3 := rng32 (x <<< ((1 : Int32) &&& 31))
  rw [hn] at h1
  simp only [Nat.pow_one] at h1
  omega
theorem own_addn {x y : Int32} {i j : Nat} (hx : x.toInt = (i : Int)) (hy : y.toInt = (j : Int)) (hl : i + j ≤ 100) : (x + y).toInt = ((i + j : Nat) : Int) := by
  have h1 := c_iadd x y
  have h2 := rng32 (x + y)
  omega
theorem own_cap {x : Int32} {t : Nat} (ht : x.toInt = (t : Int)) (htl : t ≤ 16) : ¬ (0 : Int32) < (x - ((16 : Int32) >>> ((0 : Int32) &&& 31))) := by
  rw [own_shr0, Int32.lt_iff_toInt_lt, show (0 : Int32).toInt = 0 by decide]
  have h1 := c_isub x 16
  have h2 := rng32 (x - 16)
  rw [show (16 : Int32).toInt = 16 by decide] at h1
  omega
theorem own_nn {x : Int32} (hx : x.toInt = (n : Int)) : ¬ x < 0 := by rw [Int32.lt_iff_toInt_lt, hx, show (0 : Int32).toInt = 0 by decide]; omega
theorem own_subz (x : Int32) : x - (0 : Int32) = x := own_i32 (by
  have h1 := c_isub x 0
  have h2 := rng32 (x - 0)
  have h3 := rng32 x
  rw [show (0 : Int32).toInt = 0 by decide] at h1
  omega)
theorem own_zadd (x : Int32) : (0 : Int32) + x = x := own_i32 (by
  have h1 := c_iadd 0 x
  have h2 := rng32 (0 + x)
  have h3 := rng32 x
  rw [show (0 : Int32).toInt = 0 by decide] at h1
  omega)
/-- UTF-8 of a Latin-1 byte -/
def own_e1 (x : Int8) : List Int8 := if x.toInt32 < 0 then [((192 : Int32) ||| ((x.toInt32 &&& 255) >>> ((6 : Int32) &&& 31))).toInt8, ((128 : Int32) ||| (x.toInt32 &&& 63)).toInt8] else [x]
def own_p1 (x : Int32) : List Int8 := if x < 128 then [x.toInt8] else [((192 : Int32) ||| (x >>> ((6 : Int32) &&& 31))).toInt8, ((128 : Int32) ||| (x &&& 63)).toInt8]
def own_enc (bs : List Int8) : List Int8 := bs.flatMap own_e1
theorem own_e1_len (x : Int8) : (own_e1 x).length ≤ 2 := by unfold own_e1; split <;> simp
theorem own_p1_len (x : Int32) : (own_p1 x).length ≤ 2 := by unfold own_p1; split <;> simp
theorem own_enc_app (us vs : List Int8) : own_enc (us ++ vs) = own_enc us ++ own_enc vs := List.flatMap_append
theorem own_enc_one (x : Int8) : own_enc [x] = own_e1 x := by unfold own_enc; simp
theorem own_enc_nil : own_enc [] = [] := rfl
theorem own_enc_ten : own_enc [10] = [10] := by decide
theorem own_enc_len (bs : List Int8) : (own_enc bs).length ≤ 2 * bs.length := by
  induction bs with
  | nil => exact Nat.le_refl _
  | cons x l ih =>
    have h1 := own_e1_len x
    have e : own_enc (x :: l) = own_e1 x ++ own_enc l := List.flatMap_cons
    rw [e, List.length_append, List.length_cons]; omega
theorem own_enc_pos : ∀ bs : List Int8, (∀ j, j < bs.length → ¬ (bs.getD j 0).toInt32 < 0) → own_enc bs = bs
  | [], _ => rfl
  | x :: l, q => by
    have e : own_enc (x :: l) = own_e1 x ++ own_enc l := List.flatMap_cons
    have e1 : own_e1 x = [x] := if_neg (q 0 (Nat.zero_lt_succ _))
    rw [e, e1, own_enc_pos l fun j hj => q (j + 1) (Nat.succ_lt_succ hj)]; rfl
theorem own_take (bs : List Int8) {i : Nat} (hi : i < bs.length) : bs.take (i + 1) = bs.take i ++ [bs.getD i 0] := by
  rw [List.take_add_one, List.getD_eq_getElem?_getD, List.getElem?_eq_getElem hi]; rfl
theorem own_enc_take (bs : List Int8) {i : Nat} (hi : i < bs.length) : own_enc (bs.take (i + 1)) = own_enc (bs.take i) ++ own_e1 (bs.getD i 0) := by rw [own_take bs hi, own_enc_app, own_enc_one]
theorem own_e1p1 {x : Int32} (h : own_C8 x) : own_e1 x.toInt8 = own_p1 x := by
  have k : ∀ t : Fin 256, own_e1 (Int32.ofNat t.val).toInt8 = own_p1 (Int32.ofNat t.val) := by decide +kernel
  obtain ⟨h1, h2⟩ := h
  have e : x = Int32.ofNat x.toInt.toNat := own_i32 (by
    have q : (Int32.ofNat x.toInt.toNat).toInt = ((x.toInt.toNat : Nat) : Int) := Int32.toInt_ofNat_of_lt (by omega)
    rw [q]; omega)
  have q := k ⟨x.toInt.toNat, by omega⟩
  rw [← e] at q
  exact q
end OwnSb
end Jvm.RoadKit
namespace Jvm.Pilot.@@N@@
open Jvm Jvm.ClassFile Sem Op Lib Jvm.Free Jvm.Stand Jvm.LawKit Jvm.RoadKit Bundle Jvm.Pilot.@@N@@.Jvm.D
theorem own_w {Z : State} {a0 : Array Value} {d : Jvm.Cond} (hw : ∀ d ∈ tables_1, d.before a0 Z = true) (i : Nat) (h : tables_1[i]? = some d) : d.before a0 Z = true := hw d (List.mem_of_getElem? h)
theorem own_strAtoms {Z : State} {a0 : Array Value} (hw : ∀ d ∈ tables_1, d.before a0 Z = true) : ∀ a ∈ Bundle.stringAtoms, a.before a0 Z = true := by
  intro d hd
  simp only [Bundle.stringAtoms, List.mem_cons, List.not_mem_nil, or_false] at hd
  rcases hd with rfl | rfl | rfl | rfl | rfl | rfl | rfl
  all_goals first | exact hw _ (List.mem_of_getElem? (i := 2) rfl) | exact hw _ (List.mem_of_getElem? (i := 3) rfl) | exact hw _ (List.mem_of_getElem? (i := 15) rfl) | exact hw _ (List.mem_of_getElem? (i := 16) rfl) | exact hw _ (List.mem_of_getElem? (i := 17) rfl) | exact hw _ (List.mem_of_getElem? (i := 18) rfl) | exact hw _ (List.mem_of_getElem? (i := 19) rfl)
theorem own_cstep (f : Nat → Int32) (fb : Nat → Value) (i j : Nat) : (if j = i then Value.int ((f i).toInt8.toInt32) else if j < i then Value.int ((f j).toInt8.toInt32) else fb j) = (if j < i + 1 then Value.int ((f j).toInt8.toInt32) else fb j) := by
  by_cases q : j = i
  · subst q; simp
  · by_cases q2 : j < i
    · simp [q, q2, show j < i + 1 by omega]
    · simp [q, q2, show ¬ j < i + 1 by omega]
theorem own_c255 (x : Int32) : ∃ z, ((x &&& (255 : Int32)).toUInt32.toUInt16.toUInt32.toInt32) = z ∧ own_C8 z := by
  refine ⟨_, rfl, ?_⟩
  have h := c_mask x 255 8 (by decide) (by decide)
  have q : own_C8 (x &&& 255) := by unfold own_C8; omega
  have e := own_nar_char q
  rw [show nar .char (x &&& 255) = (x &&& 255).toUInt32.toUInt16.toUInt32.toInt32 from rfl] at e
  rw [e]; exact q
theorem own_setc (f : Nat → Int32) (i : Nat) (x : Int32) (j : Nat) : (if j = i then Value.int x else .int (f j)) = .int (if j = i then x else f j) := by split <;> rfl
theorem own_c8set {f : Nat → Int32} {n i : Nat} {x : Int32} (hf : ∀ j, j < n → own_C8 (f j)) (hx : own_C8 x) : ∀ j, j < n → own_C8 (if j = i then x else f j) := fun j hj => by split; exact hx; exact hf j hj
theorem own_c8lit {x : Int32} (h : 0 ≤ x.toInt ∧ x.toInt < 256 := by decide) : own_C8 x := h
theorem own_pn0 : plainName "java/lang/StringUTF16" = true := by first | (simp [plainName, overriddenIn]; done) | decide +kernel
theorem own_ef1 (m : MethodId) (x0 : Addr) (x1 : Int32) (x2 : Addr) (x3 : Int32) (x4 : Int32) : entryFrame m #[(.ref x0), (.int x1), (.ref x2), (.int x3), (.int x4)] 7 = mkF m 0 #[.val (.ref x0), .val (.int x1), .val (.ref x2), .val (.int x3), .val (.int x4), .unset, .unset] [] := by first | (simp [entryFrame, mkF, argsToLocals, Value.category]; done) | rfl
theorem own_d_jdk_52_21_0 : decode jdk_52_method_21_code 0 = .ok (.iconst 0, 1) := by decide +kernel
theorem own_d_jdk_52_21_1 : decode jdk_52_method_21_code 1 = .ok (.istore 5, 2) := by decide +kernel
theorem own_d_jdk_52_21_3 : decode jdk_52_method_21_code 3 = .ok (.iload 5, 2) := by decide +kernel
theorem own_d_jdk_52_21_5 : decode jdk_52_method_21_code 5 = .ok (.iload 4, 2) := by decide +kernel
theorem own_d_jdk_52_21_7 : decode jdk_52_method_21_code 7 = .ok (.if_icmp .ge 37, 3) := by decide +kernel
theorem own_d_jdk_52_21_10 : decode jdk_52_method_21_code 10 = .ok (.aload_n 0, 1) := by decide +kernel
theorem own_d_jdk_52_21_11 : decode jdk_52_method_21_code 11 = .ok (.iload_n 1, 1) := by decide +kernel
theorem own_d_jdk_52_21_12 : decode jdk_52_method_21_code 12 = .ok (.caload, 1) := by decide +kernel
theorem own_d_jdk_52_21_13 : decode jdk_52_method_21_code 13 = .ok (.istore 6, 2) := by decide +kernel
theorem own_d_jdk_52_21_15 : decode jdk_52_method_21_code 15 = .ok (.iload 6, 2) := by decide +kernel
theorem own_d_jdk_52_21_17 : decode jdk_52_method_21_code 17 = .ok (.sipush 255, 3) := by decide +kernel
theorem own_d_jdk_52_21_20 : decode jdk_52_method_21_code 20 = .ok (.if_icmp .le 6, 3) := by decide +kernel
theorem own_d_jdk_52_21_26 : decode jdk_52_method_21_code 26 = .ok (.aload_n 2, 1) := by decide +kernel
theorem own_d_jdk_52_21_27 : decode jdk_52_method_21_code 27 = .ok (.iload_n 3, 1) := by decide +kernel
theorem own_d_jdk_52_21_28 : decode jdk_52_method_21_code 28 = .ok (.iload 6, 2) := by decide +kernel
theorem own_d_jdk_52_21_30 : decode jdk_52_method_21_code 30 = .ok (.i2b, 1) := by decide +kernel
theorem own_d_jdk_52_21_31 : decode jdk_52_method_21_code 31 = .ok (.bastore, 1) := by decide +kernel
theorem own_d_jdk_52_21_32 : decode jdk_52_method_21_code 32 = .ok (.iinc 1 1, 3) := by decide +kernel
theorem own_d_jdk_52_21_35 : decode jdk_52_method_21_code 35 = .ok (.iinc 3 1, 3) := by decide +kernel
theorem own_d_jdk_52_21_38 : decode jdk_52_method_21_code 38 = .ok (.iinc 5 1, 3) := by decide +kernel
theorem own_d_jdk_52_21_41 : decode jdk_52_method_21_code 41 = .ok (.goto (-38), 3) := by decide +kernel
theorem own_d_jdk_52_21_44 : decode jdk_52_method_21_code 44 = .ok (.iload 4, 2) := by decide +kernel
theorem own_d_jdk_52_21_46 : decode jdk_52_method_21_code 46 = .ok (.ireturn, 1) := by decide +kernel
def own_Q_own_cmp (Z : State) (rc rb : Addr) (xn : Int32) (n : Nat) (f : Nat → Int32) (fb : Nat → Value) (h0 : Heap) (n0 : Nat) (v : Option Value) (h : Heap) (L : List Loc) : Prop := v = some (.int xn) ∧ Fr n0 L ∧ own_Ar Z h rb .byte n (fun j => .int ((f j).toInt8.toInt32)) ∧ Keep h0 h [rb]
set_option maxRecDepth 65536 in
set_option maxHeartbeats 40000000 in
theorem own_cmp (l : Launch) (Z : State) (a0 : Array Value) (hw : ∀ d ∈ tables_1, d.before a0 Z = true) (ws : List Jvm.Cond) (rc rb : Addr) (xn : Int32) (n : Nat) (f : Nat → Int32) (fb : Nat → Value) (h0 : Heap) (n0 : Nat) (Z0 : n0 ≤ h0.size) (ac : own_Ar Z h0 rc .char n (fun j => .int (f j))) (ab : own_Ar Z h0 rb .byte n fb) (hne : rc ≠ rb) (gb : n0 ≤ rb) (hn : xn.toInt = (n : Int)) (hl : n ≤ 8) (hf : ∀ j, j < n → own_C8 (f j)) :
    MetFree l (⟨"java/lang/StringUTF16", "compress", "([CI[BII)I"⟩ : MethodName) (head1 (Jvm.Cond.code (⟨"java/lang/StringUTF16", "compress", "([CI[BII)I"⟩ : MethodName) jdk_52_method_21_code 7 (some .int) :: ws) ({ frames := 0, cells := 0, slots := 0, locals := 0 } : Room)) (fun av_ U => av_ = #[(.ref rc), (.int (0 : Int32)), (.ref rb), (.int (0 : Int32)), (.int xn)] ∧ Z.Warmed39 U.vm ∧ U.heap = h0) (fun _ _ _ _ _ => True) (fun _ U o U' => ∃ v L, o = .returned v ∧ own_Q_own_cmp Z rc rb xn n f fb h0 n0 v U'.heap L ∧ FrameEnd U o U' L ({ frames := 0, cells := 0, slots := 0, locals := 0 } : Room).cells ({ frames := 0, cells := 0, slots := 0, locals := 0 } : Room).slots) := by
  refine MetFree.of_bodySF (plainFor_of_name own_pn0) hisR ?_
  intro p e s m args below meth c s₁ Bd hml0 hP hK
  obtain ⟨rfl, hZ, hh⟩ := hP
  have hx := Bd.exec
  have hby := Bd.bytes
  have hml : c.maxLocals = 7 := hml0
  have hown : s.vm.findClass "java/lang/StringUTF16" = some m.cls := findClass_of_methodNamed Bd.named
  have hnm := (name_of_methodNamed Bd.named Bd.method).1
  have X0 : Stand p l e ({ frames := 0, cells := 0, slots := 0, locals := 0 } : Room) s m #[(.ref rc), (.int (0 : Int32)), (.ref rb), (.int (0 : Int32)), (.int xn)] below meth c s₁ [] 0 0 := Stand.of_body Bd
  have e0 : s₁.heap = h0 := by rw [← hh, Bd.state]; rfl
  have N0 := Fr.nil n0
  suffices hgo : own_Go p e below (fun o U' => ∃ v L, o = .returned v ∧ own_Q_own_cmp Z rc rb xn n f fb h0 n0 v U'.heap L ∧ FrameEnd s o U' L ({ frames := 0, cells := 0, slots := 0, locals := 0 } : Room).cells ({ frames := 0, cells := 0, slots := 0, locals := 0 } : Room).slots) (s₁.setTop (mkF m 0 #[.val (.ref rc), .val (.int (0 : Int32)), .val (.ref rb), .val (.int (0 : Int32)), .val (.int xn), .unset, .unset] [])) by
    obtain ⟨s₂, o, h1, h2, h3, h4⟩ := hgo
    exact ⟨s₂, o, castTop (own_ef1 m rc (0 : Int32) rb (0 : Int32) xn) h1, h2, h3, h4⟩
  have kk0 : Keep h0 h0 [rb] := Keep.refl _ _
  show own_Go p e below _ (s₁.setTop (mkF m 0 #[.val (.ref rc), .val (.int (0 : Int32)), .val (.ref rb), .val (.int (0 : Int32)), .val (.int xn), .unset, .unset] []))
  refine own_Go.st (fun _ kt => XS.iconst X0.here hx rfl (hb hby own_d_jdk_52_21_0) kt) ?_
  show own_Go p e below _ (s₁.setTop (mkF m 1 #[.val (.ref rc), .val (.int (0 : Int32)), .val (.ref rb), .val (.int (0 : Int32)), .val (.int xn), .unset, .unset] [(.int (0 : Int32))]))
  refine own_Go.st (fun _ kt => XS.istore X0.here hx rfl (hb hby own_d_jdk_52_21_1) rfl (l' := #[.val (.ref rc), .val (.int (0 : Int32)), .val (.ref rb), .val (.int (0 : Int32)), .val (.int xn), .val (.int (0 : Int32)), .unset]) rfl kt) ?_
  show own_Go p e below _ (s₁.setTop (mkF m 3 #[.val (.ref rc), .val (.int (0 : Int32)), .val (.ref rb), .val (.int (0 : Int32)), .val (.int xn), .val (.int (0 : Int32)), .unset] []))
  have LO : ∀ (td : Nat) (T1 : State) (lc1 : List Loc) (h1 : Heap) (X1 : Stand p l e ({ frames := 0, cells := 0, slots := 0, locals := 0 } : Room) s m #[(.ref rc), (.int (0 : Int32)), (.ref rb), (.int (0 : Int32)), (.int xn)] below meth c T1 lc1 0 0) (e1 : T1.heap = h1) (N1 : Fr n0 lc1) (i : Nat) (x1 : Int32) (x3 : Int32) (x5 : Int32) (s6 : Slot) (hs6 : s6 = .unset ∨ ∃ y6, s6 = .val (.int y6)) (ht : i + td = n) (i1 : x1.toInt = (i : Int)) (i3 : x3.toInt = (i : Int)) (i5 : x5.toInt = (i : Int)) (ac : own_Ar Z h1 rc .char n (fun j => .int (f j))) (ab : own_Ar Z h1 rb .byte n (fun j => if j < i then Value.int ((f j).toInt8.toInt32) else fb j)) (zz : n0 ≤ Array.size h1) (kk : Keep h0 h1 [rb]), own_Go p e below (fun o U' => ∃ v L, o = .returned v ∧ own_Q_own_cmp Z rc rb xn n f fb h0 n0 v U'.heap L ∧ FrameEnd s o U' L ({ frames := 0, cells := 0, slots := 0, locals := 0 } : Room).cells ({ frames := 0, cells := 0, slots := 0, locals := 0 } : Room).slots) (T1.setTop (mkF m 3 #[.val (.ref rc), .val (.int x1), .val (.ref rb), .val (.int x3), .val (.int xn), .val (.int x5), s6] [])) := by
    intro td
    induction td using Nat.strongRecOn with
    | ind td IH =>
      intro T1 lc1 h1 X1 e1 N1 i x1 x3 x5 s6 hs6 ht i1 i3 i5 ac ab zz kk
      show own_Go p e below _ (T1.setTop (mkF m 3 #[.val (.ref rc), .val (.int x1), .val (.ref rb), .val (.int x3), .val (.int xn), .val (.int x5), s6] []))
      refine own_Go.st (fun _ kt => XS.iload X1.here hx rfl (hb hby own_d_jdk_52_21_3) rfl kt) ?_
      show own_Go p e below _ (T1.setTop (mkF m 5 #[.val (.ref rc), .val (.int x1), .val (.ref rb), .val (.int x3), .val (.int xn), .val (.int x5), s6] [(.int x5)]))
      refine own_Go.st (fun _ kt => XS.iload X1.here hx rfl (hb hby own_d_jdk_52_21_5) rfl kt) ?_
      show own_Go p e below _ (T1.setTop (mkF m 7 #[.val (.ref rc), .val (.int x1), .val (.ref rb), .val (.int x3), .val (.int xn), .val (.int x5), s6] [(.int xn), (.int x5)]))
      have hci : x5 < xn ↔ i < n := by rw [Int32.lt_iff_toInt_lt, i5, hn]; omega
      by_cases hc7 : x5 < xn
      · refine own_Go.st (fun _ kt => XS.icmpNo X1.here hx rfl (hb hby own_d_jdk_52_21_7) rfl (tlt hc7).2.1 kt) ?_
        show own_Go p e below _ (T1.setTop (mkF m 10 #[.val (.ref rc), .val (.int x1), .val (.ref rb), .val (.int x3), .val (.int xn), .val (.int x5), s6] []))
        refine own_Go.st (fun _ kt => XS.aloadN X1.here hx rfl (hb hby own_d_jdk_52_21_10) rfl rfl kt) ?_
        show own_Go p e below _ (T1.setTop (mkF m 11 #[.val (.ref rc), .val (.int x1), .val (.ref rb), .val (.int x3), .val (.int xn), .val (.int x5), s6] [(.ref rc)]))
        refine own_Go.st (fun _ kt => XS.iloadN X1.here hx rfl (hb hby own_d_jdk_52_21_11) rfl kt) ?_
        show own_Go p e below _ (T1.setTop (mkF m 12 #[.val (.ref rc), .val (.int x1), .val (.ref rb), .val (.int x3), .val (.int xn), .val (.int x5), s6] [(.int x1), (.ref rc)]))
        have hlt := hci.mp hc7
        refine own_Go.st (fun _ kt => own_cald X1 hx hZ e1 ac i1 hlt (v := (.int (f i))) rfl (g := (mkF m 12 #[.val (.ref rc), .val (.int x1), .val (.ref rb), .val (.int x3), .val (.int xn), .val (.int x5), s6] [(.int x1), (.ref rc)])) rfl rfl (hb hby own_d_jdk_52_21_12) _ kt) ?_
        show own_Go p e below _ (T1.setTop (mkF m 13 #[.val (.ref rc), .val (.int x1), .val (.ref rb), .val (.int x3), .val (.int xn), .val (.int x5), s6] [(.int (f i))]))
        refine own_Go.st (fun _ kt => XS.istore X1.here hx rfl (hb hby own_d_jdk_52_21_13) rfl (l' := #[.val (.ref rc), .val (.int x1), .val (.ref rb), .val (.int x3), .val (.int xn), .val (.int x5), .val (.int (f i))]) (by rcases hs6 with rfl | ⟨y6, rfl⟩ <;> rfl) kt) ?_
        show own_Go p e below _ (T1.setTop (mkF m 15 #[.val (.ref rc), .val (.int x1), .val (.ref rb), .val (.int x3), .val (.int xn), .val (.int x5), .val (.int (f i))] []))
        refine own_Go.st (fun _ kt => XS.iload X1.here hx rfl (hb hby own_d_jdk_52_21_15) rfl kt) ?_
        show own_Go p e below _ (T1.setTop (mkF m 17 #[.val (.ref rc), .val (.int x1), .val (.ref rb), .val (.int x3), .val (.int xn), .val (.int x5), .val (.int (f i))] [(.int (f i))]))
        refine own_Go.st (fun _ kt => XS.sipush X1.here hx rfl (hb hby own_d_jdk_52_21_17) kt) ?_
        show own_Go p e below _ (T1.setTop (mkF m 20 #[.val (.ref rc), .val (.int x1), .val (.ref rb), .val (.int x3), .val (.int xn), .val (.int x5), .val (.int (f i))] [(.int (255 : Int32)), (.int (f i))]))
        have h8 : ¬ (255 : Int32) < f i := by rw [Int32.lt_iff_toInt_lt, show (255 : Int32).toInt = 255 by decide]; have := hf i hlt; unfold own_C8 at this; omega
        refine own_Go.st (fun _ kt => XS.icmpYes X1.here hx rfl (pc0 := 20) (pc' := 26) rfl (hb hby own_d_jdk_52_21_20) rfl (flt h8).2.2.2 (by decide) (by decide) kt) ?_
        show own_Go p e below _ (T1.setTop (mkF m 26 #[.val (.ref rc), .val (.int x1), .val (.ref rb), .val (.int x3), .val (.int xn), .val (.int x5), .val (.int (f i))] []))
        refine own_Go.st (fun _ kt => XS.aloadN X1.here hx rfl (hb hby own_d_jdk_52_21_26) rfl rfl kt) ?_
        show own_Go p e below _ (T1.setTop (mkF m 27 #[.val (.ref rc), .val (.int x1), .val (.ref rb), .val (.int x3), .val (.int xn), .val (.int x5), .val (.int (f i))] [(.ref rb)]))
        refine own_Go.st (fun _ kt => XS.iloadN X1.here hx rfl (hb hby own_d_jdk_52_21_27) rfl kt) ?_
        show own_Go p e below _ (T1.setTop (mkF m 28 #[.val (.ref rc), .val (.int x1), .val (.ref rb), .val (.int x3), .val (.int xn), .val (.int x5), .val (.int (f i))] [(.int x3), (.ref rb)]))
        refine own_Go.st (fun _ kt => XS.iload X1.here hx rfl (hb hby own_d_jdk_52_21_28) rfl kt) ?_
        show own_Go p e below _ (T1.setTop (mkF m 30 #[.val (.ref rc), .val (.int x1), .val (.ref rb), .val (.int x3), .val (.int xn), .val (.int x5), .val (.int (f i))] [(.int (f i)), (.int x3), (.ref rb)]))
        refine own_Go.st (fun _ kt => XS.i2b X1.here hx rfl (hb hby own_d_jdk_52_21_30) rfl kt) ?_
        show own_Go p e below _ (T1.setTop (mkF m 31 #[.val (.ref rc), .val (.int x1), .val (.ref rb), .val (.int x3), .val (.int xn), .val (.int x5), .val (.int (f i))] [(.int ((f i).toInt8.toInt32)), (.int x3), (.ref rb)]))
        obtain ⟨T2, h2, X2, e2, W2, st2⟩ := own_bast X1 hx hZ e1 ab i3 hlt (own_nar_byte _) (g := (mkF m 31 #[.val (.ref rc), .val (.int x1), .val (.ref rb), .val (.int x3), .val (.int xn), .val (.int x5), .val (.int (f i))] [(.int ((f i).toInt8.toInt32)), (.int x3), (.ref rb)])) rfl rfl (hb hby own_d_jdk_52_21_31)
        refine own_Go.st st2 ?_
        have N2 := Fr.snoc X2 N1 gb
        have a2 := own_Ar.set ab W2
        have zz3 : n0 ≤ Array.size h2 := Nat.le_trans zz (Nat.le_of_eq (Wr.size W2).symm)
        have kk3 : Keep h0 h2 [rb] := kk.wr W2 (Or.inl (List.mem_of_getElem? (i := 0) rfl))
        show own_Go p e below _ (T2.setTop (mkF m 32 #[.val (.ref rc), .val (.int x1), .val (.ref rb), .val (.int x3), .val (.int xn), .val (.int x5), .val (.int (f i))] []))
        refine own_Go.st (fun _ kt => XS.iinc X2.here hx rfl (hb hby own_d_jdk_52_21_32) rfl (l' := #[.val (.ref rc), .val (.int (x1 + (1 : Int32))), .val (.ref rb), .val (.int x3), .val (.int xn), .val (.int x5), .val (.int (f i))]) rfl kt) ?_
        show own_Go p e below _ (T2.setTop (mkF m 35 #[.val (.ref rc), .val (.int (x1 + (1 : Int32))), .val (.ref rb), .val (.int x3), .val (.int xn), .val (.int x5), .val (.int (f i))] []))
        refine own_Go.st (fun _ kt => XS.iinc X2.here hx rfl (hb hby own_d_jdk_52_21_35) rfl (l' := #[.val (.ref rc), .val (.int (x1 + (1 : Int32))), .val (.ref rb), .val (.int (x3 + (1 : Int32))), .val (.int xn), .val (.int x5), .val (.int (f i))]) rfl kt) ?_
        show own_Go p e below _ (T2.setTop (mkF m 38 #[.val (.ref rc), .val (.int (x1 + (1 : Int32))), .val (.ref rb), .val (.int (x3 + (1 : Int32))), .val (.int xn), .val (.int x5), .val (.int (f i))] []))
        refine own_Go.st (fun _ kt => XS.iinc X2.here hx rfl (hb hby own_d_jdk_52_21_38) rfl (l' := #[.val (.ref rc), .val (.int (x1 + (1 : Int32))), .val (.ref rb), .val (.int (x3 + (1 : Int32))), .val (.int xn), .val (.int (x5 + (1 : Int32))), .val (.int (f i))]) rfl kt) ?_
        show own_Go p e below _ (T2.setTop (mkF m 41 #[.val (.ref rc), .val (.int (x1 + (1 : Int32))), .val (.ref rb), .val (.int (x3 + (1 : Int32))), .val (.int xn), .val (.int (x5 + (1 : Int32))), .val (.int (f i))] []))
        refine own_Go.st (fun _ kt => XS.goto X2.here hx rfl (pc0 := 41) (pc' := 3) rfl (hb hby own_d_jdk_52_21_41) (by decide) (by decide) kt) ?_
        show own_Go p e below _ (T2.setTop (mkF m 3 #[.val (.ref rc), .val (.int (x1 + (1 : Int32))), .val (.ref rb), .val (.int (x3 + (1 : Int32))), .val (.int xn), .val (.int (x5 + (1 : Int32))), .val (.int (f i))] []))
        have nb : own_Ar Z h2 rb .byte n (fun j => if j < i + 1 then Value.int ((f j).toInt8.toInt32) else fb j) := a2.congr fun j _ => own_cstep f fb i j
        have f4 := (ac.other W2 hne)
        exact IH (td - 1) (by omega) _ _ _ X2 e2 N2 (i + 1) _ _ _ _ (Or.inr ⟨_, rfl⟩) (by omega) (own_inc i1 (by omega)) (own_inc i3 (by omega)) (own_inc i5 (by omega)) f4 nb zz3 kk3
      · refine own_Go.st (fun _ kt => XS.icmpYes X1.here hx rfl (pc0 := 7) (pc' := 44) rfl (hb hby own_d_jdk_52_21_7) rfl (flt hc7).2.1 (by decide) (by decide) kt) ?_
        show own_Go p e below _ (T1.setTop (mkF m 44 #[.val (.ref rc), .val (.int x1), .val (.ref rb), .val (.int x3), .val (.int xn), .val (.int x5), s6] []))
        refine own_Go.st (fun _ kt => XS.iload X1.here hx rfl (hb hby own_d_jdk_52_21_44) rfl kt) ?_
        show own_Go p e below _ (T1.setTop (mkF m 46 #[.val (.ref rc), .val (.int x1), .val (.ref rb), .val (.int x3), .val (.int xn), .val (.int x5), s6] [(.int xn)]))
        have hge : i = n := by have := mt hci.mpr hc7; omega
        subst hge
        have fin := ab.congr (f' := fun j => .int ((f j).toInt8.toInt32)) (fun j hj => by simp [hj])
        rw [← e1] at fin kk
        exact own_retI X1 hx Bd.notSynchronized Bd.returns (hb hby own_d_jdk_52_21_46) (by decide) (by decide) ⟨rfl, N1, fin, kk⟩
  exact LO n _ _ _ X0 e0 N0 0 _ _ _ _ (Or.inl rfl) (by omega) (by decide) (by decide) (by decide) ac (ab.congr fun j _ => by simp) Z0 kk0
theorem own_ef2 (m : MethodId) (x0 : Addr) (x1 : Int32) (x2 : Int32) : entryFrame m #[(.ref x0), (.int x1), (.int x2)] 6 = mkF m 0 #[.val (.ref x0), .val (.int x1), .val (.int x2), .unset, .unset, .unset] [] := by first | (simp [entryFrame, mkF, argsToLocals, Value.category]; done) | rfl
theorem own_d_jdk_52_16_0 : decode jdk_52_method_16_code 0 = .ok (.iload_n 2, 1) := by decide +kernel
theorem own_d_jdk_52_16_1 : decode jdk_52_method_16_code 1 = .ok (.newarray .byte, 2) := by decide +kernel
theorem own_d_jdk_52_16_3 : decode jdk_52_method_16_code 3 = .ok (.astore_n 3, 1) := by decide +kernel
theorem own_d_jdk_52_16_4 : decode jdk_52_method_16_code 4 = .ok (.aload_n 0, 1) := by decide +kernel
theorem own_d_jdk_52_16_5 : decode jdk_52_method_16_code 5 = .ok (.iload_n 1, 1) := by decide +kernel
theorem own_d_jdk_52_16_6 : decode jdk_52_method_16_code 6 = .ok (.aload_n 3, 1) := by decide +kernel
theorem own_d_jdk_52_16_7 : decode jdk_52_method_16_code 7 = .ok (.iconst 0, 1) := by decide +kernel
theorem own_d_jdk_52_16_8 : decode jdk_52_method_16_code 8 = .ok (.iload_n 2, 1) := by decide +kernel
theorem own_d_jdk_52_16_9 : decode jdk_52_method_16_code 9 = .ok (.invokestatic 115, 3) := by decide +kernel
theorem own_pd0 : parseMethodDescriptor "([CI[BII)I" = some ⟨[(.array .char), .int, (.array .byte), .int, .int], some .int⟩ := by decide +kernel
theorem own_d_jdk_52_16_12 : decode jdk_52_method_16_code 12 = .ok (.istore 4, 2) := by decide +kernel
theorem own_d_jdk_52_16_14 : decode jdk_52_method_16_code 14 = .ok (.iload 4, 2) := by decide +kernel
theorem own_d_jdk_52_16_16 : decode jdk_52_method_16_code 16 = .ok (.iload_n 2, 1) := by decide +kernel
theorem own_d_jdk_52_16_17 : decode jdk_52_method_16_code 17 = .ok (.if_icmp .eq 40, 3) := by decide +kernel
theorem own_d_jdk_52_16_57 : decode jdk_52_method_16_code 57 = .ok (.aload_n 3, 1) := by decide +kernel
theorem own_d_jdk_52_16_58 : decode jdk_52_method_16_code 58 = .ok (.areturn, 1) := by decide +kernel
def own_Q_own_cmp2 (Z : State) (rc : Addr) (xn : Int32) (n : Nat) (f : Nat → Int32) (h0 : Heap) (n0 : Nat) (v : Option Value) (h : Heap) (L : List Loc) : Prop := ∃ rb, v = some (.ref rb) ∧ Fr n0 L ∧ own_Ar Z h rb .byte n (fun j => .int ((f j).toInt8.toInt32)) ∧ Array.size h0 ≤ rb ∧ Keep h0 h []
set_option maxRecDepth 65536 in
set_option maxHeartbeats 40000000 in
theorem own_cmp2 (l : Launch) (Z : State) (a0 : Array Value) (hw : ∀ d ∈ tables_1, d.before a0 Z = true) (ws : List Jvm.Cond) (rc : Addr) (xn : Int32) (n : Nat) (f : Nat → Int32) (h0 : Heap) (n0 : Nat) (Z0 : n0 ≤ h0.size) (ac : own_Ar Z h0 rc .char n (fun j => .int (f j))) (hn : xn.toInt = (n : Int)) (hl : n ≤ 8) (hf : ∀ j, j < n → own_C8 (f j)) :
    MetFree l (⟨"java/lang/StringUTF16", "compress", "([CII)[B"⟩ : MethodName) (head1 (Jvm.Cond.code (⟨"java/lang/StringUTF16", "compress", "([CII)[B"⟩ : MethodName) jdk_52_method_16_code 6 (some (.array .byte)) :: ws) ({ frames := 1, cells := 1, slots := 8, locals := 18 } : Room)) (fun av_ U => av_ = #[(.ref rc), (.int (0 : Int32)), (.int xn)] ∧ Z.Warmed39 U.vm ∧ U.heap = h0) (fun _ _ _ _ _ => True) (fun _ U o U' => ∃ v L, o = .returned v ∧ own_Q_own_cmp2 Z rc xn n f h0 n0 v U'.heap L ∧ FrameEnd U o U' L ({ frames := 1, cells := 1, slots := 8, locals := 18 } : Room).cells ({ frames := 1, cells := 1, slots := 8, locals := 18 } : Room).slots) := by
  refine MetFree.of_bodySF (plainFor_of_name own_pn0) hisR ?_
  intro p e s m args below meth c s₁ Bd hml0 hP hK
  obtain ⟨rfl, hZ, hh⟩ := hP
  have hx := Bd.exec
  have hby := Bd.bytes
  have hml : c.maxLocals = 6 := hml0
  have hown : s.vm.findClass "java/lang/StringUTF16" = some m.cls := findClass_of_methodNamed Bd.named
  have hnm := (name_of_methodNamed Bd.named Bd.method).1
  have X0 : Stand p l e ({ frames := 1, cells := 1, slots := 8, locals := 18 } : Room) s m #[(.ref rc), (.int (0 : Int32)), (.int xn)] below meth c s₁ [] 0 0 := Stand.of_body Bd
  have e0 : s₁.heap = h0 := by rw [← hh, Bd.state]; rfl
  have N0 := Fr.nil n0
  suffices hgo : own_Go p e below (fun o U' => ∃ v L, o = .returned v ∧ own_Q_own_cmp2 Z rc xn n f h0 n0 v U'.heap L ∧ FrameEnd s o U' L ({ frames := 1, cells := 1, slots := 8, locals := 18 } : Room).cells ({ frames := 1, cells := 1, slots := 8, locals := 18 } : Room).slots) (s₁.setTop (mkF m 0 #[.val (.ref rc), .val (.int (0 : Int32)), .val (.int xn), .unset, .unset, .unset] [])) by
    obtain ⟨s₂, o, h1, h2, h3, h4⟩ := hgo
    exact ⟨s₂, o, castTop (own_ef2 m rc (0 : Int32) xn) h1, h2, h3, h4⟩
  have kk0 : Keep h0 h0 [] := Keep.refl _ _
  show own_Go p e below _ (s₁.setTop (mkF m 0 #[.val (.ref rc), .val (.int (0 : Int32)), .val (.int xn), .unset, .unset, .unset] []))
  refine own_Go.st (fun _ kt => XS.iloadN X0.here hx rfl (hb hby own_d_jdk_52_16_0) rfl kt) ?_
  show own_Go p e below _ (s₁.setTop (mkF m 1 #[.val (.ref rc), .val (.int (0 : Int32)), .val (.int xn), .unset, .unset, .unset] [(.int xn)]))
  obtain ⟨T1, h1, k1, X1, e1, E1, A1, st1⟩ := newP X0 hx hZ (own_w hw 15 rfl) e0 (g := (mkF m 1 #[.val (.ref rc), .val (.int (0 : Int32)), .val (.int xn), .unset, .unset, .unset] [(.int xn)])) rfl (hb hby own_d_jdk_52_16_1) rfl (by rw [Int32.lt_iff_toInt_lt, hn, show (0 : Int32).toInt = 0 by decide]; omega) (cap := 8) (by rw [own_clamp hn]; exact hl) (by decide) (by decide) (by decide)
  obtain ⟨rb, g1⟩ : ∃ z, z = Array.size h0 := ⟨_, rfl⟩
  rw [← g1] at A1 st1
  refine own_Go.st st1 ?_
  have ne_rc_rb : rc ≠ rb := Nat.ne_of_lt (Nat.lt_of_lt_of_le (ac).lt (Nat.le_of_eq g1.symm))
  have n0_rb : n0 ≤ rb := Nat.le_trans Z0 (Nat.le_of_eq g1.symm)
  have b_rb : Array.size h0 ≤ rb := Nat.le_trans kk0.1 (Nat.le_of_eq g1.symm)
  have zz2 : n0 ≤ Array.size h1 := Nat.le_trans Z0 E1.1
  have kk2 : Keep h0 h1 [] := kk0.ext E1
  show own_Go p e below _ (T1.setTop (mkF m 3 #[.val (.ref rc), .val (.int (0 : Int32)), .val (.int xn), .unset, .unset, .unset] [(.ref rb)]))
  have ab0 := own_Ar.new A1 (n := n) hn
  refine own_Go.st (fun _ kt => XS.astoreN X1.here hx rfl (hb hby own_d_jdk_52_16_3) rfl rfl (l' := #[.val (.ref rc), .val (.int (0 : Int32)), .val (.int xn), .val (.ref rb), .unset, .unset]) rfl kt) ?_
  show own_Go p e below _ (T1.setTop (mkF m 4 #[.val (.ref rc), .val (.int (0 : Int32)), .val (.int xn), .val (.ref rb), .unset, .unset] []))
  refine own_Go.st (fun _ kt => XS.aloadN X1.here hx rfl (hb hby own_d_jdk_52_16_4) rfl rfl kt) ?_
  show own_Go p e below _ (T1.setTop (mkF m 5 #[.val (.ref rc), .val (.int (0 : Int32)), .val (.int xn), .val (.ref rb), .unset, .unset] [(.ref rc)]))
  refine own_Go.st (fun _ kt => XS.iloadN X1.here hx rfl (hb hby own_d_jdk_52_16_5) rfl kt) ?_
  show own_Go p e below _ (T1.setTop (mkF m 6 #[.val (.ref rc), .val (.int (0 : Int32)), .val (.int xn), .val (.ref rb), .unset, .unset] [(.int (0 : Int32)), (.ref rc)]))
  refine own_Go.st (fun _ kt => XS.aloadN X1.here hx rfl (hb hby own_d_jdk_52_16_6) rfl rfl kt) ?_
  show own_Go p e below _ (T1.setTop (mkF m 7 #[.val (.ref rc), .val (.int (0 : Int32)), .val (.int xn), .val (.ref rb), .unset, .unset] [(.ref rb), (.int (0 : Int32)), (.ref rc)]))
  refine own_Go.st (fun _ kt => XS.iconst X1.here hx rfl (hb hby own_d_jdk_52_16_7) kt) ?_
  show own_Go p e below _ (T1.setTop (mkF m 8 #[.val (.ref rc), .val (.int (0 : Int32)), .val (.int xn), .val (.ref rb), .unset, .unset] [(.int (0 : Int32)), (.ref rb), (.int (0 : Int32)), (.ref rc)]))
  refine own_Go.st (fun _ kt => XS.iloadN X1.here hx rfl (hb hby own_d_jdk_52_16_8) rfl kt) ?_
  show own_Go p e below _ (T1.setTop (mkF m 9 #[.val (.ref rc), .val (.int (0 : Int32)), .val (.int xn), .val (.ref rb), .unset, .unset] [(.int xn), (.int (0 : Int32)), (.ref rb), (.int (0 : Int32)), (.ref rc)]))
  have f3 := (ac.ext E1)
  obtain ⟨_, _, ⟨T4, L4, k4, n4⟩, -, X4, ⟨Lc4, hQ4, l4, y4, z4⟩, st4⟩ := Jvm.LawKit.callS X1 hx (y := (⟨"java/lang/StringUTF16", "compress", "([CI[BII)I"⟩ : MethodName)) hown (mvT hZ (own_w hw 180 rfl)) (mvT hZ (own_w hw 181 rfl)) (mvT hZ (own_w hw 178 rfl)) (mvT hZ (own_w hw 182 rfl)) (by decide) (backOf (W := 0) (own_cmp l Z a0 hw [] rc rb xn n f _ h1 n0 zz2 f3 ab0 ne_rc_rb n0_rb hn hl hf) hZ (own_w hw 182 rfl) (own_w hw 178 rfl) (by decide) (by decide)) (g := (mkF m 9 #[.val (.ref rc), .val (.int (0 : Int32)), .val (.int xn), .val (.ref rb), .unset, .unset] [(.int xn), (.int (0 : Int32)), (.ref rb), (.int (0 : Int32)), (.ref rc)])) rfl (by rw [hml]; rfl) (argsL := [(.ref rc), (.int (0 : Int32)), (.ref rb), (.int (0 : Int32)), (.int xn)]) (rest := []) (lenOf own_pd0 rfl) rfl (by show 2 * 0 + _ ≤ _; exact Nat.le_of_eq rfl) (hb hby own_d_jdk_52_16_9) (fun _ _ => ⟨rfl, e1, (by decide : 1 + 0 ≤ _), (by decide : 8 + 0 ≤ _)⟩)
  dsimp only [Pt.U, Pt.locs, Pt.cells, Pt.slots] at X4 l4 y4 z4 st4 hQ4
  subst l4 y4 z4
  obtain ⟨rfl, N4q, ab4, KF4⟩ := hQ4
  have N4 := Fr.app N0 N4q
  refine own_Go.st (fun _ kt => st4 _ kt) ?_
  have zz5 : n0 ≤ Array.size T4.heap := Nat.le_trans zz2 KF4.1
  have kk5 : Keep h0 T4.heap [] := kk2.trans KF4 (allS (P := fun x => x ∈ [] ∨ _) (Or.inr b_rb) all0)
  show own_Go p e below _ (T4.setTop (mkF m 12 #[.val (.ref rc), .val (.int (0 : Int32)), .val (.int xn), .val (.ref rb), .unset, .unset] [(.int xn)]))
  refine own_Go.st (fun _ kt => XS.istore X4.here hx rfl (hb hby own_d_jdk_52_16_12) rfl (l' := #[.val (.ref rc), .val (.int (0 : Int32)), .val (.int xn), .val (.ref rb), .val (.int xn), .unset]) rfl kt) ?_
  show own_Go p e below _ (T4.setTop (mkF m 14 #[.val (.ref rc), .val (.int (0 : Int32)), .val (.int xn), .val (.ref rb), .val (.int xn), .unset] []))
  refine own_Go.st (fun _ kt => XS.iload X4.here hx rfl (hb hby own_d_jdk_52_16_14) rfl kt) ?_
  show own_Go p e below _ (T4.setTop (mkF m 16 #[.val (.ref rc), .val (.int (0 : Int32)), .val (.int xn), .val (.ref rb), .val (.int xn), .unset] [(.int xn)]))
  refine own_Go.st (fun _ kt => XS.iloadN X4.here hx rfl (hb hby own_d_jdk_52_16_16) rfl kt) ?_
  show own_Go p e below _ (T4.setTop (mkF m 17 #[.val (.ref rc), .val (.int (0 : Int32)), .val (.int xn), .val (.ref rb), .val (.int xn), .unset] [(.int xn), (.int xn)]))
  refine own_Go.st (fun _ kt => XS.icmpYes X4.here hx rfl (pc0 := 17) (pc' := 57) rfl (hb hby own_d_jdk_52_16_17) rfl (teq rfl).1 (by decide) (by decide) kt) ?_
  show own_Go p e below _ (T4.setTop (mkF m 57 #[.val (.ref rc), .val (.int (0 : Int32)), .val (.int xn), .val (.ref rb), .val (.int xn), .unset] []))
  refine own_Go.st (fun _ kt => XS.aloadN X4.here hx rfl (hb hby own_d_jdk_52_16_57) rfl rfl kt) ?_
  show own_Go p e below _ (T4.setTop (mkF m 58 #[.val (.ref rc), .val (.int (0 : Int32)), .val (.int xn), .val (.ref rb), .val (.int xn), .unset] [(.ref rb)]))
  have fin := ab4
  have kk := kk5
  exact own_retA X4 hx Bd.notSynchronized Bd.returns rfl rfl (hb hby own_d_jdk_52_16_58) (by decide) (by decide) ⟨rb, rfl, N4, fin, b_rb, kk⟩
theorem own_ef3 (m : MethodId) (x0 : Addr) (x1 : Int32) : entryFrame m #[(.ref x0), (.int x1)] 2 = mkF m 0 #[.val (.ref x0), .val (.int x1)] [] := by first | (simp [entryFrame, mkF, argsToLocals, Value.category]; done) | rfl
theorem own_d_jdk_52_15_0 : decode jdk_52_method_15_code 0 = .ok (.iload_n 1, 1) := by decide +kernel
theorem own_d_jdk_52_15_1 : decode jdk_52_method_15_code 1 = .ok (.aload_n 0, 1) := by decide +kernel
theorem own_d_jdk_52_15_2 : decode jdk_52_method_15_code 2 = .ok (.arraylength, 1) := by decide +kernel
theorem own_d_jdk_52_15_3 : decode jdk_52_method_15_code 3 = .ok (.isub, 1) := by decide +kernel
theorem own_d_jdk_52_15_4 : decode jdk_52_method_15_code 4 = .ok (.bipush 31, 2) := by decide +kernel
theorem own_d_jdk_52_15_6 : decode jdk_52_method_15_code 6 = .ok (.iushr, 1) := by decide +kernel
theorem own_d_jdk_52_15_7 : decode jdk_52_method_15_code 7 = .ok (.i2b, 1) := by decide +kernel
theorem own_d_jdk_52_15_8 : decode jdk_52_method_15_code 8 = .ok (.ireturn, 1) := by decide +kernel
def own_Q_own_cfl (Z : State) (rb : Addr) (xn : Int32) (n : Nat) (fb : Nat → Value) (h0 : Heap) (n0 : Nat) (v : Option Value) (h : Heap) (L : List Loc) : Prop := v = some (.int 0) ∧ Fr n0 L ∧ h = h0
set_option maxRecDepth 65536 in
set_option maxHeartbeats 40000000 in
theorem own_cfl (l : Launch) (Z : State) (a0 : Array Value) (hw : ∀ d ∈ tables_1, d.before a0 Z = true) (ws : List Jvm.Cond) (rb : Addr) (xn : Int32) (n : Nat) (fb : Nat → Value) (h0 : Heap) (n0 : Nat) (Z0 : n0 ≤ h0.size) (ab : own_Ar Z h0 rb .byte n fb) (hn : xn.toInt = (n : Int)) :
    MetFree l (⟨"java/lang/StringUTF16", "coderFromArrayLen", "([BI)B"⟩ : MethodName) (head1 (Jvm.Cond.code (⟨"java/lang/StringUTF16", "coderFromArrayLen", "([BI)B"⟩ : MethodName) jdk_52_method_15_code 2 (some .byte) :: ws) ({ frames := 0, cells := 0, slots := 0, locals := 0 } : Room)) (fun av_ U => av_ = #[(.ref rb), (.int xn)] ∧ Z.Warmed39 U.vm ∧ U.heap = h0) (fun _ _ _ _ _ => True) (fun _ U o U' => ∃ v L, o = .returned v ∧ own_Q_own_cfl Z rb xn n fb h0 n0 v U'.heap L ∧ FrameEnd U o U' L ({ frames := 0, cells := 0, slots := 0, locals := 0 } : Room).cells ({ frames := 0, cells := 0, slots := 0, locals := 0 } : Room).slots) := by
  refine MetFree.of_bodySF (plainFor_of_name own_pn0) hisR ?_
  intro p e s m args below meth c s₁ Bd hml0 hP hK
  obtain ⟨rfl, hZ, hh⟩ := hP
  have hx := Bd.exec
  have hby := Bd.bytes
  have hml : c.maxLocals = 2 := hml0
  have hown : s.vm.findClass "java/lang/StringUTF16" = some m.cls := findClass_of_methodNamed Bd.named
  have hnm := (name_of_methodNamed Bd.named Bd.method).1
  have X0 : Stand p l e ({ frames := 0, cells := 0, slots := 0, locals := 0 } : Room) s m #[(.ref rb), (.int xn)] below meth c s₁ [] 0 0 := Stand.of_body Bd
  have e0 : s₁.heap = h0 := by rw [← hh, Bd.state]; rfl
  have N0 := Fr.nil n0
  suffices hgo : own_Go p e below (fun o U' => ∃ v L, o = .returned v ∧ own_Q_own_cfl Z rb xn n fb h0 n0 v U'.heap L ∧ FrameEnd s o U' L ({ frames := 0, cells := 0, slots := 0, locals := 0 } : Room).cells ({ frames := 0, cells := 0, slots := 0, locals := 0 } : Room).slots) (s₁.setTop (mkF m 0 #[.val (.ref rb), .val (.int xn)] [])) by
    obtain ⟨s₂, o, h1, h2, h3, h4⟩ := hgo
    exact ⟨s₂, o, castTop (own_ef3 m rb xn) h1, h2, h3, h4⟩
  show own_Go p e below _ (s₁.setTop (mkF m 0 #[.val (.ref rb), .val (.int xn)] []))
  refine own_Go.st (fun _ kt => XS.iloadN X0.here hx rfl (hb hby own_d_jdk_52_15_0) rfl kt) ?_
  show own_Go p e below _ (s₁.setTop (mkF m 1 #[.val (.ref rb), .val (.int xn)] [(.int xn)]))
  refine own_Go.st (fun _ kt => XS.aloadN X0.here hx rfl (hb hby own_d_jdk_52_15_1) rfl rfl kt) ?_
  show own_Go p e below _ (s₁.setTop (mkF m 2 #[.val (.ref rb), .val (.int xn)] [(.ref rb), (.int xn)]))
  refine own_Go.st (fun _ kt => own_alen X0 hx hZ e0 ab (z := xn) hn (g := (mkF m 2 #[.val (.ref rb), .val (.int xn)] [(.ref rb), (.int xn)])) rfl rfl (hb hby own_d_jdk_52_15_2) _ kt) ?_
  show own_Go p e below _ (s₁.setTop (mkF m 3 #[.val (.ref rb), .val (.int xn)] [(.int xn), (.int xn)]))
  refine own_Go.st (fun _ kt => XS.isub X0.here hx rfl (hb hby own_d_jdk_52_15_3) rfl kt) ?_
  show own_Go p e below _ (s₁.setTop (mkF m 4 #[.val (.ref rb), .val (.int xn)] [(.int (xn - xn))]))
  rw [show (xn - xn) = (0 : Int32) from (Int32.sub_self _)]
  show own_Go p e below _ (s₁.setTop (mkF m 4 #[.val (.ref rb), .val (.int xn)] [(.int (0 : Int32))]))
  refine own_Go.st (fun _ kt => XS.bipush X0.here hx rfl (hb hby own_d_jdk_52_15_4) kt) ?_
  show own_Go p e below _ (s₁.setTop (mkF m 6 #[.val (.ref rb), .val (.int xn)] [(.int (31 : Int32)), (.int (0 : Int32))]))
  refine own_Go.st (fun _ kt => XS.iushr X0.here hx rfl (hb hby own_d_jdk_52_15_6) rfl kt) ?_
  show own_Go p e below _ (s₁.setTop (mkF m 7 #[.val (.ref rb), .val (.int xn)] [(.int (((0 : Int32).toUInt32 >>> ((31 : Int32) &&& 31).toUInt32).toInt32))]))
  refine own_Go.st (fun _ kt => XS.i2b X0.here hx rfl (hb hby own_d_jdk_52_15_7) rfl kt) ?_
  show own_Go p e below _ (s₁.setTop (mkF m 8 #[.val (.ref rb), .val (.int xn)] [(.int ((((0 : Int32).toUInt32 >>> ((31 : Int32) &&& 31).toUInt32).toInt32).toInt8.toInt32))]))
  rw [show ((((0 : Int32).toUInt32 >>> ((31 : Int32) &&& 31).toUInt32).toInt32).toInt8.toInt32) = (0 : Int32) from (by decide)]
  show own_Go p e below _ (s₁.setTop (mkF m 8 #[.val (.ref rb), .val (.int xn)] [(.int (0 : Int32))]))
  exact own_retN X0 hx Bd.notSynchronized Bd.returns (t := .byte) (by simp) rfl (hb hby own_d_jdk_52_15_8) (by decide) (by decide) ⟨rfl, N0, e0⟩
theorem own_pn1 : plainName "java/lang/String" = true := by first | (simp [plainName, overriddenIn]; done) | decide +kernel
theorem own_ef4 (m : MethodId) (x0 : Addr) (x1 : Addr) (x2 : Int32) (x3 : Int32) : entryFrame m #[(.ref x0), (.ref x1), (.int x2), (.int x3), .null] 6 = mkF m 0 #[.val (.ref x0), .val (.ref x1), .val (.int x2), .val (.int x3), .val .null, .unset] [] := by first | (simp [entryFrame, mkF, argsToLocals, Value.category]; done) | rfl
theorem own_d_jdk_42_149_0 : decode jdk_42_method_149_code 0 = .ok (.aload_n 0, 1) := by decide +kernel
theorem own_d_jdk_42_149_1 : decode jdk_42_method_149_code 1 = .ok (.invokespecial 1, 3) := by decide +kernel
theorem own_d_jdk_42_149_4 : decode jdk_42_method_149_code 4 = .ok (.iload_n 3, 1) := by decide +kernel
theorem own_d_jdk_42_149_5 : decode jdk_42_method_149_code 5 = .ok (.ifCond .ne 22, 3) := by decide +kernel
theorem own_d_jdk_42_149_27 : decode jdk_42_method_149_code 27 = .ok (.getstatic 38, 3) := by decide +kernel
theorem own_d_jdk_42_149_30 : decode jdk_42_method_149_code 30 = .ok (.ifCond .eq 28, 3) := by decide +kernel
theorem own_d_jdk_42_149_33 : decode jdk_42_method_149_code 33 = .ok (.aload_n 1, 1) := by decide +kernel
theorem own_d_jdk_42_149_34 : decode jdk_42_method_149_code 34 = .ok (.iload_n 2, 1) := by decide +kernel
theorem own_d_jdk_42_149_35 : decode jdk_42_method_149_code 35 = .ok (.iload_n 3, 1) := by decide +kernel
theorem own_d_jdk_42_149_36 : decode jdk_42_method_149_code 36 = .ok (.invokestatic 177, 3) := by decide +kernel
theorem own_pd1 : parseMethodDescriptor "([CII)[B" = some ⟨[(.array .char), .int, .int], some (.array .byte)⟩ := by decide +kernel
theorem own_d_jdk_42_149_39 : decode jdk_42_method_149_code 39 = .ok (.astore 5, 2) := by decide +kernel
theorem own_d_jdk_42_149_41 : decode jdk_42_method_149_code 41 = .ok (.aload_n 0, 1) := by decide +kernel
theorem own_d_jdk_42_149_42 : decode jdk_42_method_149_code 42 = .ok (.aload 5, 2) := by decide +kernel
theorem own_d_jdk_42_149_44 : decode jdk_42_method_149_code 44 = .ok (.iload_n 3, 1) := by decide +kernel
theorem own_d_jdk_42_149_45 : decode jdk_42_method_149_code 45 = .ok (.invokestatic 47, 3) := by decide +kernel
theorem own_pd2 : parseMethodDescriptor "([BI)B" = some ⟨[(.array .byte), .int], some .byte⟩ := by decide +kernel
theorem own_d_jdk_42_149_48 : decode jdk_42_method_149_code 48 = .ok (.putfield 15, 3) := by decide +kernel
theorem own_d_jdk_42_149_51 : decode jdk_42_method_149_code 51 = .ok (.aload_n 0, 1) := by decide +kernel
theorem own_d_jdk_42_149_52 : decode jdk_42_method_149_code 52 = .ok (.aload 5, 2) := by decide +kernel
theorem own_d_jdk_42_149_54 : decode jdk_42_method_149_code 54 = .ok (.putfield 9, 3) := by decide +kernel
theorem own_d_jdk_42_149_57 : decode jdk_42_method_149_code 57 = .ok (.return_, 1) := by decide +kernel
def own_Q_own_si (Z : State) (sx rc : Addr) (xn : Int32) (n : Nat) (f : Nat → Int32) (zc : Int32) (h0 : Heap) (n0 : Nat) (v : Option Value) (h : Heap) (L : List Loc) : Prop := ∃ rb, v = none ∧ Fr n0 L ∧ own_Str Z h sx rb n (fun j => (f j).toInt8.toInt32) ∧ Array.size h0 ≤ rb ∧ Keep h0 h [sx]
set_option maxRecDepth 65536 in
set_option maxHeartbeats 40000000 in
theorem own_si (l : Launch) (Z : State) (a0 : Array Value) (hw : ∀ d ∈ tables_1, d.before a0 Z = true) (ws : List Jvm.Cond) (sx rc : Addr) (xn : Int32) (n : Nat) (f : Nat → Int32) (zc : Int32) (h0 : Heap) (n0 : Nat) (Z0 : n0 ≤ h0.size) (fE : Exa Z h0 sx "java/lang/String") (fV : Fld Z h0 sx "java/lang/String" "value" "[B" .null) (fC : Fld Z h0 sx "java/lang/String" "coder" "B" (.int 0)) (gs : n0 ≤ sx) (ac : own_Ar Z h0 rc .char n (fun j => .int (f j))) (hn : xn.toInt = (n : Int)) (hl : n ≤ 8) (hp : 0 < n) (hf : ∀ j, j < n → own_C8 (f j)) (cs : Sta Z h0 "java/lang/String" "COMPACT_STRINGS" "Z" (.int zc)) (hzc : ¬ zc = 0) :
    MetFree l (⟨"java/lang/String", "<init>", "([CIILjava/lang/Void;)V"⟩ : MethodName) (head1 (Jvm.Cond.code (⟨"java/lang/String", "<init>", "([CIILjava/lang/Void;)V"⟩ : MethodName) jdk_42_method_149_code 6 none :: ws) ({ frames := 2, cells := 1, slots := 8, locals := 35 } : Room)) (fun av_ U => av_ = #[(.ref sx), (.ref rc), (.int (0 : Int32)), (.int xn), .null] ∧ Z.Warmed39 U.vm ∧ U.heap = h0) (fun _ _ _ _ _ => True) (fun _ U o U' => ∃ v L, o = .returned v ∧ own_Q_own_si Z sx rc xn n f zc h0 n0 v U'.heap L ∧ FrameEnd U o U' L ({ frames := 2, cells := 1, slots := 8, locals := 35 } : Room).cells ({ frames := 2, cells := 1, slots := 8, locals := 35 } : Room).slots) := by
  refine MetFree.of_bodySF (plainFor_of_name own_pn1) hisR ?_
  intro p e s m args below meth c s₁ Bd hml0 hP hK
  obtain ⟨rfl, hZ, hh⟩ := hP
  have hx := Bd.exec
  have hby := Bd.bytes
  have hml : c.maxLocals = 6 := hml0
  have hown : s.vm.findClass "java/lang/String" = some m.cls := findClass_of_methodNamed Bd.named
  have hnm := (name_of_methodNamed Bd.named Bd.method).1
  have X0 : Stand p l e ({ frames := 2, cells := 1, slots := 8, locals := 35 } : Room) s m #[(.ref sx), (.ref rc), (.int (0 : Int32)), (.int xn), .null] below meth c s₁ [] 0 0 := Stand.of_body Bd
  have e0 : s₁.heap = h0 := by rw [← hh, Bd.state]; rfl
  have N0 := Fr.nil n0
  suffices hgo : own_Go p e below (fun o U' => ∃ v L, o = .returned v ∧ own_Q_own_si Z sx rc xn n f zc h0 n0 v U'.heap L ∧ FrameEnd s o U' L ({ frames := 2, cells := 1, slots := 8, locals := 35 } : Room).cells ({ frames := 2, cells := 1, slots := 8, locals := 35 } : Room).slots) (s₁.setTop (mkF m 0 #[.val (.ref sx), .val (.ref rc), .val (.int (0 : Int32)), .val (.int xn), .val .null, .unset] [])) by
    obtain ⟨s₂, o, h1, h2, h3, h4⟩ := hgo
    exact ⟨s₂, o, castTop (own_ef4 m sx rc (0 : Int32) xn) h1, h2, h3, h4⟩
  have kk0 : Keep h0 h0 [sx] := Keep.refl _ _
  show own_Go p e below _ (s₁.setTop (mkF m 0 #[.val (.ref sx), .val (.ref rc), .val (.int (0 : Int32)), .val (.int xn), .val .null, .unset] []))
  have hxn : ¬ xn = 0 := fun q => by rw [q, show (0 : Int32).toInt = 0 by decide] at hn; omega
  have sxl := fE.lt
  refine own_Go.st (fun _ kt => XS.aloadN X0.here hx rfl (hb hby own_d_jdk_42_149_0) rfl rfl kt) ?_
  show own_Go p e below _ (s₁.setTop (mkF m 1 #[.val (.ref sx), .val (.ref rc), .val (.int (0 : Int32)), .val (.int xn), .val .null, .unset] [(.ref sx)]))
  obtain ⟨T1, X1, e1, st1⟩ := initO X0 hx hZ hown (own_w hw 11 rfl) (own_w hw 12 rfl) (own_w hw 13 rfl) e0 (g := (mkF m 1 #[.val (.ref sx), .val (.ref rc), .val (.int (0 : Int32)), .val (.int xn), .val .null, .unset] [(.ref sx)])) rfl (by rw [hml]; rfl) rfl (hb hby own_d_jdk_42_149_1) (by decide) (W := 0) (by show 2 * 0 + _ ≤ _; exact Nat.le_of_eq rfl) (by decide)
  refine own_Go.st st1 ?_
  show own_Go p e below _ (T1.setTop (mkF m 4 #[.val (.ref sx), .val (.ref rc), .val (.int (0 : Int32)), .val (.int xn), .val .null, .unset] []))
  refine own_Go.st (fun _ kt => XS.iloadN X1.here hx rfl (hb hby own_d_jdk_42_149_4) rfl kt) ?_
  show own_Go p e below _ (T1.setTop (mkF m 5 #[.val (.ref sx), .val (.ref rc), .val (.int (0 : Int32)), .val (.int xn), .val .null, .unset] [(.int xn)]))
  refine own_Go.st (fun _ kt => XS.ifYes X1.here hx rfl (pc0 := 5) (pc' := 27) rfl (hb hby own_d_jdk_42_149_5) rfl ((if0 _ _).trans (feq hxn).2) (by decide) (by decide) kt) ?_
  show own_Go p e below _ (T1.setTop (mkF m 27 #[.val (.ref sx), .val (.ref rc), .val (.int (0 : Int32)), .val (.int xn), .val .null, .unset] []))
  obtain ⟨T2, X2, e2, st2⟩ := getS2 X1 hx hZ hown (host := "") (Or.inl (own_w hw 64 rfl)) Via.refl e1 cs (g := (mkF m 27 #[.val (.ref sx), .val (.ref rc), .val (.int (0 : Int32)), .val (.int xn), .val .null, .unset] [])) rfl (hb hby own_d_jdk_42_149_27)
  refine own_Go.st st2 ?_
  show own_Go p e below _ (T2.setTop (mkF m 30 #[.val (.ref sx), .val (.ref rc), .val (.int (0 : Int32)), .val (.int xn), .val .null, .unset] [(.int zc)]))
  refine own_Go.st (fun _ kt => XS.ifNo X2.here hx rfl (hb hby own_d_jdk_42_149_30) rfl ((if0 _ _).trans (feq hzc).1) kt) ?_
  show own_Go p e below _ (T2.setTop (mkF m 33 #[.val (.ref sx), .val (.ref rc), .val (.int (0 : Int32)), .val (.int xn), .val .null, .unset] []))
  refine own_Go.st (fun _ kt => XS.aloadN X2.here hx rfl (hb hby own_d_jdk_42_149_33) rfl rfl kt) ?_
  show own_Go p e below _ (T2.setTop (mkF m 34 #[.val (.ref sx), .val (.ref rc), .val (.int (0 : Int32)), .val (.int xn), .val .null, .unset] [(.ref rc)]))
  refine own_Go.st (fun _ kt => XS.iloadN X2.here hx rfl (hb hby own_d_jdk_42_149_34) rfl kt) ?_
  show own_Go p e below _ (T2.setTop (mkF m 35 #[.val (.ref sx), .val (.ref rc), .val (.int (0 : Int32)), .val (.int xn), .val .null, .unset] [(.int (0 : Int32)), (.ref rc)]))
  refine own_Go.st (fun _ kt => XS.iloadN X2.here hx rfl (hb hby own_d_jdk_42_149_35) rfl kt) ?_
  show own_Go p e below _ (T2.setTop (mkF m 36 #[.val (.ref sx), .val (.ref rc), .val (.int (0 : Int32)), .val (.int xn), .val .null, .unset] [(.int xn), (.int (0 : Int32)), (.ref rc)]))
  obtain ⟨_, _, ⟨T3, L3, k3, n3⟩, -, X3, ⟨Lc3, hQ3, l3, y3, z3⟩, st3⟩ := Jvm.LawKit.callS X2 hx (y := (⟨"java/lang/StringUTF16", "compress", "([CII)[B"⟩ : MethodName)) hown (mvT hZ (own_w hw 176 rfl)) (mvT hZ (own_w hw 177 rfl)) (mvT hZ (own_w hw 178 rfl)) (mvT hZ (own_w hw 179 rfl)) (by decide) (backOf (W := 0) (own_cmp2 l Z a0 hw [] rc xn n f h0 n0 Z0 ac hn hl hf) hZ (own_w hw 179 rfl) (own_w hw 178 rfl) (by decide) (by decide)) (g := (mkF m 36 #[.val (.ref sx), .val (.ref rc), .val (.int (0 : Int32)), .val (.int xn), .val .null, .unset] [(.int xn), (.int (0 : Int32)), (.ref rc)])) rfl (by rw [hml]; rfl) (argsL := [(.ref rc), (.int (0 : Int32)), (.int xn)]) (rest := []) (lenOf own_pd1 rfl) rfl (by show 2 * 0 + _ ≤ _; exact Nat.le_of_eq rfl) (hb hby own_d_jdk_42_149_36) (fun _ _ => ⟨rfl, e2, (by decide : 0 + 1 ≤ _), (by decide : 0 + 8 ≤ _)⟩)
  dsimp only [Pt.U, Pt.locs, Pt.cells, Pt.slots] at X3 l3 y3 z3 st3 hQ3
  subst l3 y3 z3
  obtain ⟨rb, rfl, N3q, ab3, bb3, KF3⟩ := hQ3
  have N3 := Fr.app N0 N3q
  refine own_Go.st (fun _ kt => st3 _ kt) ?_
  have zz4 : n0 ≤ Array.size T3.heap := Nat.le_trans Z0 KF3.1
  have kk4 : Keep h0 T3.heap [sx] := kk0.trans KF3 all0
  show own_Go p e below _ (T3.setTop (mkF m 39 #[.val (.ref sx), .val (.ref rc), .val (.int (0 : Int32)), .val (.int xn), .val .null, .unset] [(.ref rb)]))
  have nesb : sx ≠ rb := Nat.ne_of_lt (Nat.lt_of_lt_of_le sxl bb3)
  refine own_Go.st (fun _ kt => XS.astore X3.here hx rfl (hb hby own_d_jdk_42_149_39) rfl rfl (l' := #[.val (.ref sx), .val (.ref rc), .val (.int (0 : Int32)), .val (.int xn), .val .null, .val (.ref rb)]) rfl kt) ?_
  show own_Go p e below _ (T3.setTop (mkF m 41 #[.val (.ref sx), .val (.ref rc), .val (.int (0 : Int32)), .val (.int xn), .val .null, .val (.ref rb)] []))
  refine own_Go.st (fun _ kt => XS.aloadN X3.here hx rfl (hb hby own_d_jdk_42_149_41) rfl rfl kt) ?_
  show own_Go p e below _ (T3.setTop (mkF m 42 #[.val (.ref sx), .val (.ref rc), .val (.int (0 : Int32)), .val (.int xn), .val .null, .val (.ref rb)] [(.ref sx)]))
  refine own_Go.st (fun _ kt => XS.aload X3.here hx rfl (hb hby own_d_jdk_42_149_42) rfl rfl kt) ?_
  show own_Go p e below _ (T3.setTop (mkF m 44 #[.val (.ref sx), .val (.ref rc), .val (.int (0 : Int32)), .val (.int xn), .val .null, .val (.ref rb)] [(.ref rb), (.ref sx)]))
  refine own_Go.st (fun _ kt => XS.iloadN X3.here hx rfl (hb hby own_d_jdk_42_149_44) rfl kt) ?_
  show own_Go p e below _ (T3.setTop (mkF m 45 #[.val (.ref sx), .val (.ref rc), .val (.int (0 : Int32)), .val (.int xn), .val .null, .val (.ref rb)] [(.int xn), (.ref rb), (.ref sx)]))
  obtain ⟨_, _, ⟨T5, L5, k5, n5⟩, -, X5, ⟨Lc5, hQ5, l5, y5, z5⟩, st5⟩ := Jvm.LawKit.callS X3 hx (y := (⟨"java/lang/StringUTF16", "coderFromArrayLen", "([BI)B"⟩ : MethodName)) hown (mvT hZ (own_w hw 183 rfl)) (mvT hZ (own_w hw 184 rfl)) (mvT hZ (own_w hw 178 rfl)) (mvT hZ (own_w hw 185 rfl)) (by decide) (backOf (W := 1) (own_cfl l Z a0 hw [] rb xn n _ T3.heap n0 zz4 ab3 hn) hZ (own_w hw 185 rfl) (own_w hw 178 rfl) (by decide) (by decide)) (g := (mkF m 45 #[.val (.ref sx), .val (.ref rc), .val (.int (0 : Int32)), .val (.int xn), .val .null, .val (.ref rb)] [(.int xn), (.ref rb), (.ref sx)])) rfl (by rw [hml]; rfl) (argsL := [(.ref rb), (.int xn)]) (rest := [(.ref sx)]) (lenOf own_pd2 rfl) rfl (by show 2 * 0 + _ ≤ _; exact Nat.le_of_eq rfl) (hb hby own_d_jdk_42_149_45) (fun _ _ => ⟨rfl, rfl, (by decide : 1 + 0 ≤ _), (by decide : 8 + 0 ≤ _)⟩)
  dsimp only [Pt.U, Pt.locs, Pt.cells, Pt.slots] at X5 l5 y5 z5 st5 hQ5
  subst l5 y5 z5
  obtain ⟨rfl, N5q, hh5⟩ := hQ5
  have N5 := Fr.app N3 N5q
  refine own_Go.st (fun _ kt => st5 _ kt) ?_
  show own_Go p e below _ (T5.setTop (mkF m 48 #[.val (.ref sx), .val (.ref rc), .val (.int (0 : Int32)), .val (.int xn), .val .null, .val (.ref rb)] [(.int (0 : Int32)), (.ref sx)]))
  have f6 := (fC.keep KF3 nin0)
  have f7 := (fE.keep KF3)
  obtain ⟨T8, h8, X8, e8, W8, st8⟩ := putF X5 hx hZ hown (host := "") (Or.inl (own_w hw 21 rfl)) Via.refl hh5 f6 f7 (Or.inr ⟨(own_w hw 17 rfl), rfl, hnm⟩) (own_w hw 2 rfl) (ty := .byte) (by decide) rfl rfl (g := (mkF m 48 #[.val (.ref sx), .val (.ref rc), .val (.int (0 : Int32)), .val (.int xn), .val .null, .val (.ref rb)] [(.int (0 : Int32)), (.ref sx)])) rfl rfl (hb hby own_d_jdk_42_149_48)
  refine own_Go.st st8 ?_
  have N8 := Fr.snoc X8 N5 gs
  have f8_coder := Fld.same W8 f6
  have zz9 : n0 ≤ Array.size h8 := Nat.le_trans zz4 (Nat.le_of_eq (Wr.size W8).symm)
  have kk9 : Keep h0 h8 [sx] := kk4.wr W8 (Or.inl (List.mem_of_getElem? (i := 0) rfl))
  show own_Go p e below _ (T8.setTop (mkF m 51 #[.val (.ref sx), .val (.ref rc), .val (.int (0 : Int32)), .val (.int xn), .val .null, .val (.ref rb)] []))
  refine own_Go.st (fun _ kt => XS.aloadN X8.here hx rfl (hb hby own_d_jdk_42_149_51) rfl rfl kt) ?_
  show own_Go p e below _ (T8.setTop (mkF m 52 #[.val (.ref sx), .val (.ref rc), .val (.int (0 : Int32)), .val (.int xn), .val .null, .val (.ref rb)] [(.ref sx)]))
  refine own_Go.st (fun _ kt => XS.aload X8.here hx rfl (hb hby own_d_jdk_42_149_52) rfl rfl kt) ?_
  show own_Go p e below _ (T8.setTop (mkF m 54 #[.val (.ref sx), .val (.ref rc), .val (.int (0 : Int32)), .val (.int xn), .val .null, .val (.ref rb)] [(.ref rb), (.ref sx)]))
  have f10 := ((fV.keep KF3 nin0).other W8 (Or.inr (slot_ne (Or.inr (own_w hw 16 rfl)) (Or.inr (own_w hw 17 rfl)) (by decide) (t := (.array .byte)) (t' := .byte) (by decide) (by decide))))
  have f11 := (f7.wr W8)
  obtain ⟨T12, h12, X12, e12, W12, st12⟩ := putF X8 hx hZ hown (host := "") (Or.inl (own_w hw 20 rfl)) Via.refl e8 f10 f11 (Or.inr ⟨(own_w hw 16 rfl), rfl, hnm⟩) (own_w hw 2 rfl) (ty := (.array .byte)) (by decide) rfl rfl (g := (mkF m 54 #[.val (.ref sx), .val (.ref rc), .val (.int (0 : Int32)), .val (.int xn), .val .null, .val (.ref rb)] [(.ref rb), (.ref sx)])) rfl rfl (hb hby own_d_jdk_42_149_54)
  refine own_Go.st st12 ?_
  have N12 := Fr.snoc X12 N8 gs
  have f12_value := Fld.same W12 f10
  have zz13 : n0 ≤ Array.size h12 := Nat.le_trans zz9 (Nat.le_of_eq (Wr.size W12).symm)
  have kk13 : Keep h0 h12 [sx] := kk9.wr W12 (Or.inl (List.mem_of_getElem? (i := 0) rfl))
  show own_Go p e below _ (T12.setTop (mkF m 57 #[.val (.ref sx), .val (.ref rc), .val (.int (0 : Int32)), .val (.int xn), .val .null, .val (.ref rb)] []))
  have f14 := (f11.wr W12)
  have f15 := (f8_coder.other W12 (Or.inr (slot_ne (Or.inr (own_w hw 17 rfl)) (Or.inr (own_w hw 16 rfl)) (by decide) (t := .byte) (t' := (.array .byte)) (by decide) (by decide))))
  have f16 := ((ab3.other W8 (Ne.symm nesb)).other W12 (Ne.symm nesb))
  have fin : own_Str Z h12 sx rb n (fun j => (f j).toInt8.toInt32) := ⟨f14, f15, f12_value, f16⟩
  have kk := kk13
  rw [← e12] at fin kk
  exact own_retV X12 hx Bd.notSynchronized Bd.returns (hb hby own_d_jdk_42_149_57) (by decide) (by decide) ⟨rb, rfl, N12, fin, bb3, kk⟩
theorem own_ef5 (m : MethodId) (x0 : Addr) (x1 : Addr) : entryFrame m #[(.ref x0), (.ref x1)] 2 = mkF m 0 #[.val (.ref x0), .val (.ref x1)] [] := by first | (simp [entryFrame, mkF, argsToLocals, Value.category]; done) | rfl
theorem own_d_jdk_42_3_0 : decode jdk_42_method_3_code 0 = .ok (.aload_n 0, 1) := by decide +kernel
theorem own_d_jdk_42_3_1 : decode jdk_42_method_3_code 1 = .ok (.aload_n 1, 1) := by decide +kernel
theorem own_d_jdk_42_3_2 : decode jdk_42_method_3_code 2 = .ok (.iconst 0, 1) := by decide +kernel
theorem own_d_jdk_42_3_3 : decode jdk_42_method_3_code 3 = .ok (.aload_n 1, 1) := by decide +kernel
theorem own_d_jdk_42_3_4 : decode jdk_42_method_3_code 4 = .ok (.arraylength, 1) := by decide +kernel
theorem own_d_jdk_42_3_5 : decode jdk_42_method_3_code 5 = .ok (.aconst_null, 1) := by decide +kernel
theorem own_d_jdk_42_3_6 : decode jdk_42_method_3_code 6 = .ok (.invokespecial 27, 3) := by decide +kernel
theorem own_pd3 : parseMethodDescriptor "([CIILjava/lang/Void;)V" = some ⟨[(.array .char), .int, .int, (.object "java/lang/Void")], none⟩ := by decide +kernel
theorem own_d_jdk_42_3_9 : decode jdk_42_method_3_code 9 = .ok (.return_, 1) := by decide +kernel
def own_Q_own_s1 (Z : State) (sx rc : Addr) (xn : Int32) (n : Nat) (f : Nat → Int32) (zc : Int32) (h0 : Heap) (n0 : Nat) (v : Option Value) (h : Heap) (L : List Loc) : Prop := ∃ rb, v = none ∧ Fr n0 L ∧ own_Str Z h sx rb n (fun j => (f j).toInt8.toInt32) ∧ Array.size h0 ≤ rb ∧ Keep h0 h [sx]
set_option maxRecDepth 65536 in
set_option maxHeartbeats 40000000 in
theorem own_s1 (l : Launch) (Z : State) (a0 : Array Value) (hw : ∀ d ∈ tables_1, d.before a0 Z = true) (ws : List Jvm.Cond) (sx rc : Addr) (xn : Int32) (n : Nat) (f : Nat → Int32) (zc : Int32) (h0 : Heap) (n0 : Nat) (Z0 : n0 ≤ h0.size) (fE : Exa Z h0 sx "java/lang/String") (fV : Fld Z h0 sx "java/lang/String" "value" "[B" .null) (fC : Fld Z h0 sx "java/lang/String" "coder" "B" (.int 0)) (gs : n0 ≤ sx) (ac : own_Ar Z h0 rc .char n (fun j => .int (f j))) (hn : xn.toInt = (n : Int)) (hl : n ≤ 8) (hp : 0 < n) (hf : ∀ j, j < n → own_C8 (f j)) (cs : Sta Z h0 "java/lang/String" "COMPACT_STRINGS" "Z" (.int zc)) (hzc : ¬ zc = 0) :
    MetFree l (⟨"java/lang/String", "<init>", "([C)V"⟩ : MethodName) (head1 (Jvm.Cond.code (⟨"java/lang/String", "<init>", "([C)V"⟩ : MethodName) jdk_42_method_3_code 2 none :: ws) ({ frames := 3, cells := 1, slots := 8, locals := 52 } : Room)) (fun av_ U => av_ = #[(.ref sx), (.ref rc)] ∧ Z.Warmed39 U.vm ∧ U.heap = h0) (fun _ _ _ _ _ => True) (fun _ U o U' => ∃ v L, o = .returned v ∧ own_Q_own_s1 Z sx rc xn n f zc h0 n0 v U'.heap L ∧ FrameEnd U o U' L ({ frames := 3, cells := 1, slots := 8, locals := 52 } : Room).cells ({ frames := 3, cells := 1, slots := 8, locals := 52 } : Room).slots) := by
  refine MetFree.of_bodySF (plainFor_of_name own_pn1) hisR ?_
  intro p e s m args below meth c s₁ Bd hml0 hP hK
  obtain ⟨rfl, hZ, hh⟩ := hP
  have hx := Bd.exec
  have hby := Bd.bytes
  have hml : c.maxLocals = 2 := hml0
  have hown : s.vm.findClass "java/lang/String" = some m.cls := findClass_of_methodNamed Bd.named
  have hnm := (name_of_methodNamed Bd.named Bd.method).1
  have X0 : Stand p l e ({ frames := 3, cells := 1, slots := 8, locals := 52 } : Room) s m #[(.ref sx), (.ref rc)] below meth c s₁ [] 0 0 := Stand.of_body Bd
  have e0 : s₁.heap = h0 := by rw [← hh, Bd.state]; rfl
  have N0 := Fr.nil n0
  suffices hgo : own_Go p e below (fun o U' => ∃ v L, o = .returned v ∧ own_Q_own_s1 Z sx rc xn n f zc h0 n0 v U'.heap L ∧ FrameEnd s o U' L ({ frames := 3, cells := 1, slots := 8, locals := 52 } : Room).cells ({ frames := 3, cells := 1, slots := 8, locals := 52 } : Room).slots) (s₁.setTop (mkF m 0 #[.val (.ref sx), .val (.ref rc)] [])) by
    obtain ⟨s₂, o, h1, h2, h3, h4⟩ := hgo
    exact ⟨s₂, o, castTop (own_ef5 m sx rc) h1, h2, h3, h4⟩
  have kk0 : Keep h0 h0 [sx] := Keep.refl _ _
  show own_Go p e below _ (s₁.setTop (mkF m 0 #[.val (.ref sx), .val (.ref rc)] []))
  refine own_Go.st (fun _ kt => XS.aloadN X0.here hx rfl (hb hby own_d_jdk_42_3_0) rfl rfl kt) ?_
  show own_Go p e below _ (s₁.setTop (mkF m 1 #[.val (.ref sx), .val (.ref rc)] [(.ref sx)]))
  refine own_Go.st (fun _ kt => XS.aloadN X0.here hx rfl (hb hby own_d_jdk_42_3_1) rfl rfl kt) ?_
  show own_Go p e below _ (s₁.setTop (mkF m 2 #[.val (.ref sx), .val (.ref rc)] [(.ref rc), (.ref sx)]))
  refine own_Go.st (fun _ kt => XS.iconst X0.here hx rfl (hb hby own_d_jdk_42_3_2) kt) ?_
  show own_Go p e below _ (s₁.setTop (mkF m 3 #[.val (.ref sx), .val (.ref rc)] [(.int (0 : Int32)), (.ref rc), (.ref sx)]))
  refine own_Go.st (fun _ kt => XS.aloadN X0.here hx rfl (hb hby own_d_jdk_42_3_3) rfl rfl kt) ?_
  show own_Go p e below _ (s₁.setTop (mkF m 4 #[.val (.ref sx), .val (.ref rc)] [(.ref rc), (.int (0 : Int32)), (.ref rc), (.ref sx)]))
  refine own_Go.st (fun _ kt => own_alen X0 hx hZ e0 ac (z := xn) hn (g := (mkF m 4 #[.val (.ref sx), .val (.ref rc)] [(.ref rc), (.int (0 : Int32)), (.ref rc), (.ref sx)])) rfl rfl (hb hby own_d_jdk_42_3_4) _ kt) ?_
  show own_Go p e below _ (s₁.setTop (mkF m 5 #[.val (.ref sx), .val (.ref rc)] [(.int xn), (.int (0 : Int32)), (.ref rc), (.ref sx)]))
  refine own_Go.st (fun _ kt => XS.aconstNull X0.here hx rfl (hb hby own_d_jdk_42_3_5) kt) ?_
  show own_Go p e below _ (s₁.setTop (mkF m 6 #[.val (.ref sx), .val (.ref rc)] [.null, (.int xn), (.int (0 : Int32)), (.ref rc), (.ref sx)]))
  obtain ⟨_, _, ⟨T1, L1, k1, n1⟩, -, X1, ⟨Lc1, hQ1, l1, y1, z1⟩, st1⟩ := X0.specialBack hx (y := (⟨"java/lang/String", "<init>", "([CIILjava/lang/Void;)V"⟩ : MethodName)) rfl hown (mvT hZ (own_w hw 7 rfl)) (mvT hZ (own_w hw 8 rfl)) (mvT hZ (own_w hw 10 rfl)) (by decide) (backOf (W := 0) (own_si l Z a0 hw [] sx rc xn n f zc h0 n0 Z0 fE fV fC gs ac hn hl hp hf cs hzc) hZ (own_w hw 10 rfl) (own_w hw 3 rfl) (by decide) (by decide)) (g := (mkF m 6 #[.val (.ref sx), .val (.ref rc)] [.null, (.int xn), (.int (0 : Int32)), (.ref rc), (.ref sx)])) rfl (by rw [hml]; rfl) (Steps.refl _) (a := sx) (argsL := [(.ref rc), (.int (0 : Int32)), (.int xn), .null]) (rest := []) (lenOf own_pd3 rfl) rfl (by show 2 * 0 + _ ≤ _; exact Nat.le_of_eq rfl) (hb hby own_d_jdk_42_3_6) (fun _ _ => ⟨rfl, e0, (by decide : 0 + 1 ≤ _), (by decide : 0 + 8 ≤ _)⟩)
  dsimp only [Pt.U, Pt.locs, Pt.cells, Pt.slots] at X1 l1 y1 z1 st1 hQ1
  subst l1 y1 z1
  obtain ⟨rb, rfl, N1q, st_1, bb1, KF1⟩ := hQ1
  have N1 := Fr.app N0 N1q
  refine own_Go.st (fun _ kt => st1.trans kt) ?_
  have zz2 : n0 ≤ Array.size T1.heap := Nat.le_trans Z0 KF1.1
  have kk2 : Keep h0 T1.heap [sx] := kk0.trans KF1 (allS (P := fun x => x ∈ [sx] ∨ _) (Or.inl (List.mem_of_getElem? (i := 0) rfl)) all0)
  show own_Go p e below _ (T1.setTop (mkF m 9 #[.val (.ref sx), .val (.ref rc)] []))
  have kk := kk2
  exact own_retV X1 hx Bd.notSynchronized Bd.returns (hb hby own_d_jdk_42_3_9) (by decide) (by decide) ⟨rb, rfl, N1, st_1, bb1, kk⟩
theorem own_ef6 (m : MethodId) (x0 : Addr) (x1 : Addr) (x2 : Int32) (x3 : Int32) : entryFrame m #[(.ref x0), (.ref x1), (.int x2), (.int x3), .null] 6 = mkF m 0 #[.val (.ref x0), .val (.ref x1), .val (.int x2), .val (.int x3), .val .null, .unset] [] := by first | (simp [entryFrame, mkF, argsToLocals, Value.category]; done) | rfl
theorem own_d_jdk_42_149_8 : decode jdk_42_method_149_code 8 = .ok (.aload_n 0, 1) := by decide +kernel
theorem own_d_jdk_42_149_9 : decode jdk_42_method_149_code 9 = .ok (.ldc 7, 2) := by decide +kernel
theorem own_d_jdk_42_149_11 : decode jdk_42_method_149_code 11 = .ok (.getfield 9, 3) := by decide +kernel
theorem own_d_jdk_42_149_14 : decode jdk_42_method_149_code 14 = .ok (.putfield 9, 3) := by decide +kernel
theorem own_d_jdk_42_149_17 : decode jdk_42_method_149_code 17 = .ok (.aload_n 0, 1) := by decide +kernel
theorem own_d_jdk_42_149_18 : decode jdk_42_method_149_code 18 = .ok (.ldc 7, 2) := by decide +kernel
theorem own_d_jdk_42_149_20 : decode jdk_42_method_149_code 20 = .ok (.getfield 15, 3) := by decide +kernel
theorem own_d_jdk_42_149_23 : decode jdk_42_method_149_code 23 = .ok (.putfield 15, 3) := by decide +kernel
theorem own_d_jdk_42_149_26 : decode jdk_42_method_149_code 26 = .ok (.return_, 1) := by decide +kernel
def own_Q_own_si0 (Z : State) (sx rc : Addr) (h0 : Heap) (n0 : Nat) (v : Option Value) (h : Heap) (L : List Loc) : Prop := ∃ rb, v = none ∧ Fr n0 L ∧ own_Str Z h sx rb 0 (fun _ => 0) ∧ Keep h0 h [sx]
set_option maxRecDepth 65536 in
set_option maxHeartbeats 40000000 in
theorem own_si0 (l : Launch) (Z : State) (a0 : Array Value) (hw : ∀ d ∈ tables_1, d.before a0 Z = true) (ws : List Jvm.Cond) (sx rc : Addr) (h0 : Heap) (n0 : Nat) (Z0 : n0 ≤ h0.size) (fE : Exa Z h0 sx "java/lang/String") (fV : Fld Z h0 sx "java/lang/String" "value" "[B" .null) (fC : Fld Z h0 sx "java/lang/String" "coder" "B" (.int 0)) (gs : n0 ≤ sx) (hkp : ∀ (b : Addr) (cl : Cell), Z.heap[b]? = some cl → h0[b]? = some cl) (held : Jvm.Lit.constHeld Z "java/lang/String" 7) (hcw : Jvm.Lit.compactW.before a0 Z = true) :
    MetFree l (⟨"java/lang/String", "<init>", "([CIILjava/lang/Void;)V"⟩ : MethodName) (head1 (Jvm.Cond.code (⟨"java/lang/String", "<init>", "([CIILjava/lang/Void;)V"⟩ : MethodName) jdk_42_method_149_code 6 none :: ws) ({ frames := 1, cells := 2, slots := 4, locals := 12 } : Room)) (fun av_ U => av_ = #[(.ref sx), (.ref rc), (.int (0 : Int32)), (.int (0 : Int32)), .null] ∧ Z.Warmed39 U.vm ∧ U.heap = h0 ∧ IB Z U.vm []) (fun _ _ _ _ _ => True) (fun _ U o U' => ∃ v L, o = .returned v ∧ own_Q_own_si0 Z sx rc h0 n0 v U'.heap L ∧ IB Z U'.vm [""] ∧ ReturnedEndW U o U' L ({ frames := 1, cells := 2, slots := 4, locals := 12 } : Room).cells ({ frames := 1, cells := 2, slots := 4, locals := 12 } : Room).slots) := by
  refine MetFree.of_bodySF (plainFor_of_name own_pn1) hisR ?_
  intro p e s m args below meth c s₁ Bd hml0 hP hK
  obtain ⟨rfl, hZ, hh, hIB⟩ := hP
  have hx := Bd.exec
  have hby := Bd.bytes
  have hml : c.maxLocals = 6 := hml0
  have hown : s.vm.findClass "java/lang/String" = some m.cls := findClass_of_methodNamed Bd.named
  have hnm := (name_of_methodNamed Bd.named Bd.method).1
  have X0 : Stand p l e ({ frames := 1, cells := 2, slots := 4, locals := 12 } : Room) (s.setVm s.vm) m #[(.ref sx), (.ref rc), (.int (0 : Int32)), (.int (0 : Int32)), .null] below meth c s₁ [] 0 0 := Stand.of_body Bd
  have e0 : s₁.heap = h0 := by rw [← hh, Bd.state]; rfl
  have N0 := Fr.nil n0
  suffices hgo : own_Go p e below (fun o U' => ∃ v L, o = .returned v ∧ own_Q_own_si0 Z sx rc h0 n0 v U'.heap L ∧ IB Z U'.vm [""] ∧ ReturnedEndW s o U' L ({ frames := 1, cells := 2, slots := 4, locals := 12 } : Room).cells ({ frames := 1, cells := 2, slots := 4, locals := 12 } : Room).slots) (s₁.setTop (mkF m 0 #[.val (.ref sx), .val (.ref rc), .val (.int (0 : Int32)), .val (.int (0 : Int32)), .val .null, .unset] [])) by
    obtain ⟨s₂, o, h1, h2, h3, h4⟩ := hgo
    exact ⟨s₂, o, castTop (own_ef6 m sx rc (0 : Int32) (0 : Int32)) h1, h2, h3, h4⟩
  have hS0 : s.Since s.vm (Array.size h0) := State.WarmedH.since (State.WarmedH.refl _) _
  have kk0 : Keep h0 h0 [sx] := Keep.refl _ _
  show own_Go p e below _ (s₁.setTop (mkF m 0 #[.val (.ref sx), .val (.ref rc), .val (.int (0 : Int32)), .val (.int (0 : Int32)), .val .null, .unset] []))
  refine own_Go.st (fun _ kt => XS.aloadN X0.here hx rfl (hb hby own_d_jdk_42_149_0) rfl rfl kt) ?_
  show own_Go p e below _ (s₁.setTop (mkF m 1 #[.val (.ref sx), .val (.ref rc), .val (.int (0 : Int32)), .val (.int (0 : Int32)), .val .null, .unset] [(.ref sx)]))
  obtain ⟨T1, X1, e1, st1⟩ := initO X0 hx hZ hown (own_w hw 11 rfl) (own_w hw 12 rfl) (own_w hw 13 rfl) e0 (g := (mkF m 1 #[.val (.ref sx), .val (.ref rc), .val (.int (0 : Int32)), .val (.int (0 : Int32)), .val .null, .unset] [(.ref sx)])) rfl (by rw [hml]; rfl) rfl (hb hby own_d_jdk_42_149_1) (by decide) (W := 0) (by show 2 * 0 + _ ≤ _; exact Nat.le_of_eq rfl) (by decide)
  refine own_Go.st st1 ?_
  show own_Go p e below _ (T1.setTop (mkF m 4 #[.val (.ref sx), .val (.ref rc), .val (.int (0 : Int32)), .val (.int (0 : Int32)), .val .null, .unset] []))
  refine own_Go.st (fun _ kt => XS.iloadN X1.here hx rfl (hb hby own_d_jdk_42_149_4) rfl kt) ?_
  show own_Go p e below _ (T1.setTop (mkF m 5 #[.val (.ref sx), .val (.ref rc), .val (.int (0 : Int32)), .val (.int (0 : Int32)), .val .null, .unset] [(.int (0 : Int32))]))
  refine own_Go.st (fun _ kt => XS.ifNo X1.here hx rfl (hb hby own_d_jdk_42_149_5) rfl ((if0 _ _).trans (teq rfl).2) kt) ?_
  show own_Go p e below _ (T1.setTop (mkF m 8 #[.val (.ref sx), .val (.ref rc), .val (.int (0 : Int32)), .val (.int (0 : Int32)), .val .null, .unset] []))
  refine own_Go.st (fun _ kt => XS.aloadN X1.here hx rfl (hb hby own_d_jdk_42_149_8) rfl rfl kt) ?_
  show own_Go p e below _ (T1.setTop (mkF m 9 #[.val (.ref sx), .val (.ref rc), .val (.int (0 : Int32)), .val (.int (0 : Int32)), .val .null, .unset] [(.ref sx)]))
  obtain ⟨sq, T2, h2, k2, bq, kb2, X2, e2, E2, hS2, hk2, hZ2, ho2, Ex2, Cd2, Vl2, Av2, -, -, ib2, Lt2, st2⟩ := ldcSVL X1 hx hZ hown (own_w hw 14 rfl) (own_strAtoms hw) e1 hS0 (Nat.le_refl _) (Fr.nil _) (fun b cl q => by rw [hh]; exact hkp b cl q) hIB (by decide) held hcw (vs := ([] : List Int32).map Value.int) (z := (0 : Int32)) ⟨by decide, by decide⟩ (by decide) rfl (g := (mkF m 9 #[.val (.ref sx), .val (.ref rc), .val (.int (0 : Int32)), .val (.int (0 : Int32)), .val .null, .unset] [(.ref sx)])) rfl (hb hby own_d_jdk_42_149_9) (n := 0) (by decide) (by decide) (by decide) (by decide)
  refine own_Go.st st2 ?_
  have zz3 : n0 ≤ Array.size h2 := Nat.le_trans Z0 E2.1
  have kk3 : Keep h0 h2 [sx] := kk0.ext E2
  have sa2 := (own_Ar.arv Av2 (n := 0) rfl).congr (fun j _ => own_getD_map ([] : List Int32) j)
  show own_Go p e below _ (T2.setTop (mkF m 11 #[.val (.ref sx), .val (.ref rc), .val (.int (0 : Int32)), .val (.int (0 : Int32)), .val .null, .unset] [(.ref sq), (.ref sx)]))
  have f4 := (fV.ext E2)
  have neq : sq ≠ sx := fun q => by
    have q1 := Vl2
    rw [q] at q1
    have q2 := own_fld_det q1 f4
    cases q2
  have neb : bq ≠ sx := own_ne0 sa2 f4
  obtain ⟨T5, X5, e5, st5⟩ := getF X2 hx hZ2 ho2 (host := "") (Or.inl (own_w hw 20 rfl)) Via.refl e2 Vl2 (g := (mkF m 11 #[.val (.ref sx), .val (.ref rc), .val (.int (0 : Int32)), .val (.int (0 : Int32)), .val .null, .unset] [(.ref sq), (.ref sx)])) rfl rfl (hb hby own_d_jdk_42_149_11)
  refine own_Go.st st5 ?_
  show own_Go p e below _ (T5.setTop (mkF m 14 #[.val (.ref sx), .val (.ref rc), .val (.int (0 : Int32)), .val (.int (0 : Int32)), .val .null, .unset] [(.ref bq), (.ref sx)]))
  have f6 := (fE.ext E2)
  obtain ⟨T7, h7, X7, e7, W7, st7⟩ := putF X5 hx hZ2 ho2 (host := "") (Or.inl (own_w hw 20 rfl)) Via.refl e5 f4 f6 (Or.inr ⟨(own_w hw 16 rfl), rfl, hnm⟩) (own_w hw 2 rfl) (ty := (.array .byte)) (by decide) rfl rfl (g := (mkF m 14 #[.val (.ref sx), .val (.ref rc), .val (.int (0 : Int32)), .val (.int (0 : Int32)), .val .null, .unset] [(.ref bq), (.ref sx)])) rfl rfl (hb hby own_d_jdk_42_149_14)
  refine own_Go.st st7 ?_
  have N7 := Fr.snoc X7 N0 gs
  have f7_value := Fld.same W7 f4
  have zz8 : n0 ≤ Array.size h7 := Nat.le_trans zz3 (Nat.le_of_eq (Wr.size W7).symm)
  have kk8 : Keep h0 h7 [sx] := kk3.wr W7 (Or.inl (List.mem_of_getElem? (i := 0) rfl))
  have hk8 : k2 ≤ Array.size h7 := Nat.le_trans hk2 (Nat.le_of_eq (Wr.size W7).symm)
  show own_Go p e below _ (T7.setTop (mkF m 17 #[.val (.ref sx), .val (.ref rc), .val (.int (0 : Int32)), .val (.int (0 : Int32)), .val .null, .unset] []))
  refine own_Go.st (fun _ kt => XS.aloadN X7.here hx rfl (hb hby own_d_jdk_42_149_17) rfl rfl kt) ?_
  show own_Go p e below _ (T7.setTop (mkF m 18 #[.val (.ref sx), .val (.ref rc), .val (.int (0 : Int32)), .val (.int (0 : Int32)), .val .null, .unset] [(.ref sx)]))
  refine own_Go.st (fun _ kt => ldcAgain X7 hx hZ2 ho2 (own_w hw 14 rfl) Lt2 (g := (mkF m 18 #[.val (.ref sx), .val (.ref rc), .val (.int (0 : Int32)), .val (.int (0 : Int32)), .val .null, .unset] [(.ref sx)])) rfl (hb hby own_d_jdk_42_149_18) _ kt) ?_
  show own_Go p e below _ (T7.setTop (mkF m 20 #[.val (.ref sx), .val (.ref rc), .val (.int (0 : Int32)), .val (.int (0 : Int32)), .val .null, .unset] [(.ref sq), (.ref sx)]))
  have f9 := (Cd2.other W7 (Or.inl neq))
  obtain ⟨T10, X10, e10, st10⟩ := getF X7 hx hZ2 ho2 (host := "") (Or.inl (own_w hw 21 rfl)) Via.refl e7 f9 (g := (mkF m 20 #[.val (.ref sx), .val (.ref rc), .val (.int (0 : Int32)), .val (.int (0 : Int32)), .val .null, .unset] [(.ref sq), (.ref sx)])) rfl rfl (hb hby own_d_jdk_42_149_20)
  refine own_Go.st st10 ?_
  show own_Go p e below _ (T10.setTop (mkF m 23 #[.val (.ref sx), .val (.ref rc), .val (.int (0 : Int32)), .val (.int (0 : Int32)), .val .null, .unset] [(.int (0 : Int32)), (.ref sx)]))
  have f11 := ((fC.ext E2).other W7 (Or.inr (slot_ne (Or.inr (own_w hw 17 rfl)) (Or.inr (own_w hw 16 rfl)) (by decide) (t := .byte) (t' := (.array .byte)) (by decide) (by decide))))
  have f12 := (f6.wr W7)
  obtain ⟨T13, h13, X13, e13, W13, st13⟩ := putF X10 hx hZ2 ho2 (host := "") (Or.inl (own_w hw 21 rfl)) Via.refl e10 f11 f12 (Or.inr ⟨(own_w hw 17 rfl), rfl, hnm⟩) (own_w hw 2 rfl) (ty := .byte) (by decide) rfl rfl (g := (mkF m 23 #[.val (.ref sx), .val (.ref rc), .val (.int (0 : Int32)), .val (.int (0 : Int32)), .val .null, .unset] [(.int (0 : Int32)), (.ref sx)])) rfl rfl (hb hby own_d_jdk_42_149_23)
  refine own_Go.st st13 ?_
  have N13 := Fr.snoc X13 N7 gs
  have f13_coder := Fld.same W13 f11
  have zz14 : n0 ≤ Array.size h13 := Nat.le_trans zz8 (Nat.le_of_eq (Wr.size W13).symm)
  have kk14 : Keep h0 h13 [sx] := kk8.wr W13 (Or.inl (List.mem_of_getElem? (i := 0) rfl))
  have hk14 : k2 ≤ Array.size h13 := Nat.le_trans hk8 (Nat.le_of_eq (Wr.size W13).symm)
  show own_Go p e below _ (T13.setTop (mkF m 26 #[.val (.ref sx), .val (.ref rc), .val (.int (0 : Int32)), .val (.int (0 : Int32)), .val .null, .unset] []))
  have f15 := (f12.wr W13)
  have f16 := (f7_value.other W13 (Or.inr (slot_ne (Or.inr (own_w hw 16 rfl)) (Or.inr (own_w hw 17 rfl)) (by decide) (t := (.array .byte)) (t' := .byte) (by decide) (by decide))))
  have f17 := ((sa2.other W7 neb).other W13 neb)
  have fin : own_Str Z h13 sx bq 0 (fun _ => 0) := ⟨f15, f13_coder, f16, f17.congr fun j hj => absurd hj (Nat.not_lt_zero j)⟩
  have kk := kk14
  rw [← e13] at fin kk
  exact own_retWVI X13 hx Bd.notSynchronized Bd.returns hS2 (Nat.le_trans hk14 (Nat.le_of_eq (congrArg Array.size e13).symm)) (hb hby own_d_jdk_42_149_26) (own_IB_at X13 ib2) (by decide) (by decide) ⟨bq, rfl, N13, fin, kk⟩
theorem own_ef7 (m : MethodId) (x0 : Addr) (x1 : Addr) : entryFrame m #[(.ref x0), (.ref x1)] 2 = mkF m 0 #[.val (.ref x0), .val (.ref x1)] [] := by first | (simp [entryFrame, mkF, argsToLocals, Value.category]; done) | rfl
def own_Q_own_s10 (Z : State) (sx rc : Addr) (f : Nat → Value) (h0 : Heap) (n0 : Nat) (v : Option Value) (h : Heap) (L : List Loc) : Prop := ∃ rb, v = none ∧ Fr n0 L ∧ own_Str Z h sx rb 0 (fun _ => 0) ∧ Keep h0 h [sx]
set_option maxRecDepth 65536 in
set_option maxHeartbeats 40000000 in
theorem own_s10 (l : Launch) (Z : State) (a0 : Array Value) (hw : ∀ d ∈ tables_1, d.before a0 Z = true) (ws : List Jvm.Cond) (sx rc : Addr) (f : Nat → Value) (h0 : Heap) (n0 : Nat) (Z0 : n0 ≤ h0.size) (fE : Exa Z h0 sx "java/lang/String") (fV : Fld Z h0 sx "java/lang/String" "value" "[B" .null) (fC : Fld Z h0 sx "java/lang/String" "coder" "B" (.int 0)) (gs : n0 ≤ sx) (hkp : ∀ (b : Addr) (cl : Cell), Z.heap[b]? = some cl → h0[b]? = some cl) (held : Jvm.Lit.constHeld Z "java/lang/String" 7) (hcw : Jvm.Lit.compactW.before a0 Z = true) (ac : own_Ar Z h0 rc .char 0 f) :
    MetFree l (⟨"java/lang/String", "<init>", "([C)V"⟩ : MethodName) (head1 (Jvm.Cond.code (⟨"java/lang/String", "<init>", "([C)V"⟩ : MethodName) jdk_42_method_3_code 2 none :: ws) ({ frames := 2, cells := 2, slots := 4, locals := 29 } : Room)) (fun av_ U => av_ = #[(.ref sx), (.ref rc)] ∧ Z.Warmed39 U.vm ∧ U.heap = h0 ∧ IB Z U.vm []) (fun _ _ _ _ _ => True) (fun _ U o U' => ∃ v L, o = .returned v ∧ own_Q_own_s10 Z sx rc f h0 n0 v U'.heap L ∧ IB Z U'.vm [""] ∧ ReturnedEndW U o U' L ({ frames := 2, cells := 2, slots := 4, locals := 29 } : Room).cells ({ frames := 2, cells := 2, slots := 4, locals := 29 } : Room).slots) := by
  refine MetFree.of_bodySF (plainFor_of_name own_pn1) hisR ?_
  intro p e s m args below meth c s₁ Bd hml0 hP hK
  obtain ⟨rfl, hZ, hh, hIB⟩ := hP
  have hx := Bd.exec
  have hby := Bd.bytes
  have hml : c.maxLocals = 2 := hml0
  have hown : s.vm.findClass "java/lang/String" = some m.cls := findClass_of_methodNamed Bd.named
  have hnm := (name_of_methodNamed Bd.named Bd.method).1
  have X0 : Stand p l e ({ frames := 2, cells := 2, slots := 4, locals := 29 } : Room) (s.setVm s.vm) m #[(.ref sx), (.ref rc)] below meth c s₁ [] 0 0 := Stand.of_body Bd
  have e0 : s₁.heap = h0 := by rw [← hh, Bd.state]; rfl
  have N0 := Fr.nil n0
  suffices hgo : own_Go p e below (fun o U' => ∃ v L, o = .returned v ∧ own_Q_own_s10 Z sx rc f h0 n0 v U'.heap L ∧ IB Z U'.vm [""] ∧ ReturnedEndW s o U' L ({ frames := 2, cells := 2, slots := 4, locals := 29 } : Room).cells ({ frames := 2, cells := 2, slots := 4, locals := 29 } : Room).slots) (s₁.setTop (mkF m 0 #[.val (.ref sx), .val (.ref rc)] [])) by
    obtain ⟨s₂, o, h1, h2, h3, h4⟩ := hgo
    exact ⟨s₂, o, castTop (own_ef7 m sx rc) h1, h2, h3, h4⟩
  have hS0 : s.Since s.vm (Array.size h0) := State.WarmedH.since (State.WarmedH.refl _) _
  have kk0 : Keep h0 h0 [sx] := Keep.refl _ _
  show own_Go p e below _ (s₁.setTop (mkF m 0 #[.val (.ref sx), .val (.ref rc)] []))
  refine own_Go.st (fun _ kt => XS.aloadN X0.here hx rfl (hb hby own_d_jdk_42_3_0) rfl rfl kt) ?_
  show own_Go p e below _ (s₁.setTop (mkF m 1 #[.val (.ref sx), .val (.ref rc)] [(.ref sx)]))
  refine own_Go.st (fun _ kt => XS.aloadN X0.here hx rfl (hb hby own_d_jdk_42_3_1) rfl rfl kt) ?_
  show own_Go p e below _ (s₁.setTop (mkF m 2 #[.val (.ref sx), .val (.ref rc)] [(.ref rc), (.ref sx)]))
  refine own_Go.st (fun _ kt => XS.iconst X0.here hx rfl (hb hby own_d_jdk_42_3_2) kt) ?_
  show own_Go p e below _ (s₁.setTop (mkF m 3 #[.val (.ref sx), .val (.ref rc)] [(.int (0 : Int32)), (.ref rc), (.ref sx)]))
  refine own_Go.st (fun _ kt => XS.aloadN X0.here hx rfl (hb hby own_d_jdk_42_3_3) rfl rfl kt) ?_
  show own_Go p e below _ (s₁.setTop (mkF m 4 #[.val (.ref sx), .val (.ref rc)] [(.ref rc), (.int (0 : Int32)), (.ref rc), (.ref sx)]))
  refine own_Go.st (fun _ kt => own_alen X0 hx hZ e0 ac (z := (0 : Int32)) (by decide) (g := (mkF m 4 #[.val (.ref sx), .val (.ref rc)] [(.ref rc), (.int (0 : Int32)), (.ref rc), (.ref sx)])) rfl rfl (hb hby own_d_jdk_42_3_4) _ kt) ?_
  show own_Go p e below _ (s₁.setTop (mkF m 5 #[.val (.ref sx), .val (.ref rc)] [(.int (0 : Int32)), (.int (0 : Int32)), (.ref rc), (.ref sx)]))
  refine own_Go.st (fun _ kt => XS.aconstNull X0.here hx rfl (hb hby own_d_jdk_42_3_5) kt) ?_
  show own_Go p e below _ (s₁.setTop (mkF m 6 #[.val (.ref sx), .val (.ref rc)] [.null, (.int (0 : Int32)), (.int (0 : Int32)), (.ref rc), (.ref sx)]))
  obtain ⟨_, _, ⟨T1, L1, k1, n1⟩, -, X1, hS1, hgr1, ⟨Lc1, hQ1, l1, y1, z1, ib1⟩, st1⟩ := X0.specialBackS hx (y := (⟨"java/lang/String", "<init>", "([CIILjava/lang/Void;)V"⟩ : MethodName)) rfl hown (mvT hZ (own_w hw 7 rfl)) (mvT hZ (own_w hw 8 rfl)) (mvT hZ (own_w hw 10 rfl)) (by decide) (own_backSI (W := 0) (own_si0 l Z a0 hw [] sx rc h0 n0 Z0 fE fV fC gs hkp held hcw) hZ (own_w hw 10 rfl) (own_w hw 3 rfl) (by decide) (by decide) hIB) (g := (mkF m 6 #[.val (.ref sx), .val (.ref rc)] [.null, (.int (0 : Int32)), (.int (0 : Int32)), (.ref rc), (.ref sx)])) rfl (by rw [hml]; rfl) (Steps.refl _) (a := sx) (argsL := [(.ref rc), (.int (0 : Int32)), (.int (0 : Int32)), .null]) (rest := []) (lenOf own_pd3 rfl) rfl (by show 2 * 0 + _ ≤ _; exact Nat.le_of_eq rfl) (hb hby own_d_jdk_42_3_6) (fun _ _ => ⟨rfl, e0, (by decide : 0 + 2 ≤ _), (by decide : 0 + 4 ≤ _)⟩)
  dsimp only [Pt.U, Pt.locs, Pt.cells, Pt.slots] at X1 l1 y1 z1 st1 hQ1 hS1 hgr1 ib1
  subst l1 y1 z1
  obtain ⟨rb, rfl, N1q, st_1, KF1⟩ := hQ1
  have N1 := Fr.app N0 N1q
  refine own_Go.st (fun _ kt => st1.trans kt) ?_
  have hZ1 : Z.Warmed39 (s.setVm T1.vm).vm := State.Warmed39.trans (t := s.setVm s.vm) hZ hS1.1
  have ho1 : (s.setVm T1.vm).vm.findClass "java/lang/String" = some m.cls := by rw [show (s.setVm T1.vm).vm = T1.vm from rfl, hS1.1.alike.findClass]; exact hown
  have hT1 : s.Since T1.vm (Array.size T1.heap) := State.Since.trans hS0 hS1 (Nat.le_trans (Nat.le_refl _) (Nat.le_trans (Nat.le_of_eq (congrArg Array.size e0).symm) hgr1))
  have zz2 : n0 ≤ Array.size T1.heap := Nat.le_trans Z0 KF1.1
  have kk2 : Keep h0 T1.heap [sx] := kk0.trans KF1 (allS (P := fun x => x ∈ [sx] ∨ _) (Or.inl (List.mem_of_getElem? (i := 0) rfl)) all0)
  show own_Go p e below _ (T1.setTop (mkF m 9 #[.val (.ref sx), .val (.ref rc)] []))
  have kk := kk2
  exact own_retWVI X1 hx Bd.notSynchronized Bd.returns hT1 (Nat.le_trans (Nat.le_of_eq (congrArg Array.size rfl)) (Nat.le_of_eq (congrArg Array.size rfl).symm)) (hb hby own_d_jdk_42_3_9) (own_IB_at X1 ib1) (by decide) (by decide) ⟨rb, rfl, N1, st_1, kk⟩
theorem own_ef8 (m : MethodId) (x0 : Addr) : entryFrame m #[(.ref x0)] 1 = mkF m 0 #[.val (.ref x0)] [] := by first | (simp [entryFrame, mkF, argsToLocals, Value.category]; done) | rfl
theorem own_d_jdk_42_152_0 : decode jdk_42_method_152_code 0 = .ok (.getstatic 38, 3) := by decide +kernel
theorem own_d_jdk_42_152_3 : decode jdk_42_method_152_code 3 = .ok (.ifCond .eq 10, 3) := by decide +kernel
theorem own_d_jdk_42_152_6 : decode jdk_42_method_152_code 6 = .ok (.aload_n 0, 1) := by decide +kernel
theorem own_d_jdk_42_152_7 : decode jdk_42_method_152_code 7 = .ok (.getfield 15, 3) := by decide +kernel
theorem own_d_jdk_42_152_10 : decode jdk_42_method_152_code 10 = .ok (.goto 4, 3) := by decide +kernel
theorem own_d_jdk_42_152_14 : decode jdk_42_method_152_code 14 = .ok (.ireturn, 1) := by decide +kernel
def own_Q_own_coder (Z : State) (sx : Addr) (zc : Int32) (h0 : Heap) (n0 : Nat) (v : Option Value) (h : Heap) (L : List Loc) : Prop := v = some (.int 0) ∧ Fr n0 L ∧ h = h0
set_option maxRecDepth 65536 in
set_option maxHeartbeats 40000000 in
theorem own_coder (l : Launch) (Z : State) (a0 : Array Value) (hw : ∀ d ∈ tables_1, d.before a0 Z = true) (ws : List Jvm.Cond) (sx : Addr) (zc : Int32) (h0 : Heap) (n0 : Nat) (Z0 : n0 ≤ h0.size) (fC : (Fld Z h0 sx "java/lang/String" "coder" "B" (.int 0))) (cs : Sta Z h0 "java/lang/String" "COMPACT_STRINGS" "Z" (.int zc)) (hzc : ¬ zc = 0) :
    MetFree l (⟨"java/lang/String", "coder", "()B"⟩ : MethodName) (head1 (Jvm.Cond.code (⟨"java/lang/String", "coder", "()B"⟩ : MethodName) jdk_42_method_152_code 1 (some .byte) :: ws) ({ frames := 0, cells := 0, slots := 0, locals := 0 } : Room)) (fun av_ U => av_ = #[(.ref sx)] ∧ Z.Warmed39 U.vm ∧ U.heap = h0) (fun _ _ _ _ _ => True) (fun _ U o U' => ∃ v L, o = .returned v ∧ own_Q_own_coder Z sx zc h0 n0 v U'.heap L ∧ FrameEnd U o U' L ({ frames := 0, cells := 0, slots := 0, locals := 0 } : Room).cells ({ frames := 0, cells := 0, slots := 0, locals := 0 } : Room).slots) := by
  refine MetFree.of_bodySF (plainFor_of_name own_pn1) hisR ?_
  intro p e s m args below meth c s₁ Bd hml0 hP hK
  obtain ⟨rfl, hZ, hh⟩ := hP
  have hx := Bd.exec
  have hby := Bd.bytes
  have hml : c.maxLocals = 1 := hml0
  have hown : s.vm.findClass "java/lang/String" = some m.cls := findClass_of_methodNamed Bd.named
  have hnm := (name_of_methodNamed Bd.named Bd.method).1
  have X0 : Stand p l e ({ frames := 0, cells := 0, slots := 0, locals := 0 } : Room) s m #[(.ref sx)] below meth c s₁ [] 0 0 := Stand.of_body Bd
  have e0 : s₁.heap = h0 := by rw [← hh, Bd.state]; rfl
  have N0 := Fr.nil n0
  suffices hgo : own_Go p e below (fun o U' => ∃ v L, o = .returned v ∧ own_Q_own_coder Z sx zc h0 n0 v U'.heap L ∧ FrameEnd s o U' L ({ frames := 0, cells := 0, slots := 0, locals := 0 } : Room).cells ({ frames := 0, cells := 0, slots := 0, locals := 0 } : Room).slots) (s₁.setTop (mkF m 0 #[.val (.ref sx)] [])) by
    obtain ⟨s₂, o, h1, h2, h3, h4⟩ := hgo
    exact ⟨s₂, o, castTop (own_ef8 m sx) h1, h2, h3, h4⟩
  show own_Go p e below _ (s₁.setTop (mkF m 0 #[.val (.ref sx)] []))
  obtain ⟨T1, X1, e1, st1⟩ := getS2 X0 hx hZ hown (host := "") (Or.inl (own_w hw 64 rfl)) Via.refl e0 cs (g := (mkF m 0 #[.val (.ref sx)] [])) rfl (hb hby own_d_jdk_42_152_0)
  refine own_Go.st st1 ?_
  show own_Go p e below _ (T1.setTop (mkF m 3 #[.val (.ref sx)] [(.int zc)]))
  refine own_Go.st (fun _ kt => XS.ifNo X1.here hx rfl (hb hby own_d_jdk_42_152_3) rfl ((if0 _ _).trans (feq hzc).1) kt) ?_
  show own_Go p e below _ (T1.setTop (mkF m 6 #[.val (.ref sx)] []))
  refine own_Go.st (fun _ kt => XS.aloadN X1.here hx rfl (hb hby own_d_jdk_42_152_6) rfl rfl kt) ?_
  show own_Go p e below _ (T1.setTop (mkF m 7 #[.val (.ref sx)] [(.ref sx)]))
  obtain ⟨T2, X2, e2, st2⟩ := getF X1 hx hZ hown (host := "") (Or.inl (own_w hw 21 rfl)) Via.refl e1 fC (g := (mkF m 7 #[.val (.ref sx)] [(.ref sx)])) rfl rfl (hb hby own_d_jdk_42_152_7)
  refine own_Go.st st2 ?_
  show own_Go p e below _ (T2.setTop (mkF m 10 #[.val (.ref sx)] [(.int (0 : Int32))]))
  refine own_Go.st (fun _ kt => XS.goto X2.here hx rfl (pc0 := 10) (pc' := 14) rfl (hb hby own_d_jdk_42_152_10) (by decide) (by decide) kt) ?_
  show own_Go p e below _ (T2.setTop (mkF m 14 #[.val (.ref sx)] [(.int (0 : Int32))]))
  exact own_retN X2 hx Bd.notSynchronized Bd.returns (t := .byte) (by simp) rfl (hb hby own_d_jdk_42_152_14) (by decide) (by decide) ⟨rfl, N0, e2⟩
theorem own_ef9 (m : MethodId) (x0 : Addr) : entryFrame m #[(.ref x0)] 1 = mkF m 0 #[.val (.ref x0)] [] := by first | (simp [entryFrame, mkF, argsToLocals, Value.category]; done) | rfl
theorem own_d_jdk_42_54_0 : decode jdk_42_method_54_code 0 = .ok (.aload_n 0, 1) := by decide +kernel
theorem own_d_jdk_42_54_1 : decode jdk_42_method_54_code 1 = .ok (.getfield 9, 3) := by decide +kernel
theorem own_d_jdk_42_54_4 : decode jdk_42_method_54_code 4 = .ok (.arraylength, 1) := by decide +kernel
theorem own_d_jdk_42_54_5 : decode jdk_42_method_54_code 5 = .ok (.aload_n 0, 1) := by decide +kernel
theorem own_d_jdk_42_54_6 : decode jdk_42_method_54_code 6 = .ok (.invokevirtual 335, 3) := by decide +kernel
theorem own_pd4 : parseMethodDescriptor "()B" = some ⟨[], some .byte⟩ := by decide +kernel
theorem own_d_jdk_42_54_9 : decode jdk_42_method_54_code 9 = .ok (.ishr, 1) := by decide +kernel
theorem own_d_jdk_42_54_10 : decode jdk_42_method_54_code 10 = .ok (.ireturn, 1) := by decide +kernel
def own_Q_own_slen (Z : State) (sx bx : Addr) (xn : Int32) (us : List Int8) (zc : Int32) (h0 : Heap) (n0 : Nat) (v : Option Value) (h : Heap) (L : List Loc) : Prop := v = some (.int xn) ∧ Fr n0 L ∧ h = h0
set_option maxRecDepth 65536 in
set_option maxHeartbeats 40000000 in
theorem own_slen (l : Launch) (Z : State) (a0 : Array Value) (hw : ∀ d ∈ tables_1, d.before a0 Z = true) (ws : List Jvm.Cond) (sx bx : Addr) (xn : Int32) (us : List Int8) (zc : Int32) (h0 : Heap) (n0 : Nat) (Z0 : n0 ≤ h0.size) (fs : own_Sl Z h0 sx bx us) (hn : xn.toInt = (us.length : Int)) (cs : Sta Z h0 "java/lang/String" "COMPACT_STRINGS" "Z" (.int zc)) (hzc : ¬ zc = 0) :
    MetFree l (⟨"java/lang/String", "length", "()I"⟩ : MethodName) (head1 (Jvm.Cond.code (⟨"java/lang/String", "length", "()I"⟩ : MethodName) jdk_42_method_54_code 1 (some .int) :: ws) ({ frames := 1, cells := 0, slots := 0, locals := 13 } : Room)) (fun av_ U => av_ = #[(.ref sx)] ∧ Z.Warmed39 U.vm ∧ U.heap = h0) (fun _ _ _ _ _ => True) (fun _ U o U' => ∃ v L, o = .returned v ∧ own_Q_own_slen Z sx bx xn us zc h0 n0 v U'.heap L ∧ FrameEnd U o U' L ({ frames := 1, cells := 0, slots := 0, locals := 13 } : Room).cells ({ frames := 1, cells := 0, slots := 0, locals := 13 } : Room).slots) := by
  refine MetFree.of_bodySF (plainFor_of_name own_pn1) hisR ?_
  intro p e s m args below meth c s₁ Bd hml0 hP hK
  obtain ⟨rfl, hZ, hh⟩ := hP
  have hx := Bd.exec
  have hby := Bd.bytes
  have hml : c.maxLocals = 1 := hml0
  have hown : s.vm.findClass "java/lang/String" = some m.cls := findClass_of_methodNamed Bd.named
  have hnm := (name_of_methodNamed Bd.named Bd.method).1
  have X0 : Stand p l e ({ frames := 1, cells := 0, slots := 0, locals := 13 } : Room) s m #[(.ref sx)] below meth c s₁ [] 0 0 := Stand.of_body Bd
  have e0 : s₁.heap = h0 := by rw [← hh, Bd.state]; rfl
  have N0 := Fr.nil n0
  suffices hgo : own_Go p e below (fun o U' => ∃ v L, o = .returned v ∧ own_Q_own_slen Z sx bx xn us zc h0 n0 v U'.heap L ∧ FrameEnd s o U' L ({ frames := 1, cells := 0, slots := 0, locals := 13 } : Room).cells ({ frames := 1, cells := 0, slots := 0, locals := 13 } : Room).slots) (s₁.setTop (mkF m 0 #[.val (.ref sx)] [])) by
    obtain ⟨s₂, o, h1, h2, h3, h4⟩ := hgo
    exact ⟨s₂, o, castTop (own_ef9 m sx) h1, h2, h3, h4⟩
  show own_Go p e below _ (s₁.setTop (mkF m 0 #[.val (.ref sx)] []))
  refine own_Go.st (fun _ kt => XS.aloadN X0.here hx rfl (hb hby own_d_jdk_42_54_0) rfl rfl kt) ?_
  show own_Go p e below _ (s₁.setTop (mkF m 1 #[.val (.ref sx)] [(.ref sx)]))
  obtain ⟨T1, X1, e1, st1⟩ := getF X0 hx hZ hown (host := "") (Or.inl (own_w hw 20 rfl)) Via.refl e0 fs.2.2.1 (g := (mkF m 1 #[.val (.ref sx)] [(.ref sx)])) rfl rfl (hb hby own_d_jdk_42_54_1)
  refine own_Go.st st1 ?_
  show own_Go p e below _ (T1.setTop (mkF m 4 #[.val (.ref sx)] [(.ref bx)]))
  refine own_Go.st (fun _ kt => own_alen X1 hx hZ e1 fs.2.2.2 (z := xn) hn (g := (mkF m 4 #[.val (.ref sx)] [(.ref bx)])) rfl rfl (hb hby own_d_jdk_42_54_4) _ kt) ?_
  show own_Go p e below _ (T1.setTop (mkF m 5 #[.val (.ref sx)] [(.int xn)]))
  refine own_Go.st (fun _ kt => XS.aloadN X1.here hx rfl (hb hby own_d_jdk_42_54_5) rfl rfl kt) ?_
  show own_Go p e below _ (T1.setTop (mkF m 6 #[.val (.ref sx)] [(.ref sx), (.int xn)]))
  obtain ⟨cq2, kq2, q2a, q2b, q2c⟩ := isOf hZ e1 fs.1
  obtain ⟨_, _, ⟨T2, L2, k2, n2⟩, -, X2, ⟨Lc2, hQ2, l2, y2, z2⟩, st2⟩ := X1.virtualBack hx (y := (⟨"java/lang/String", "coder", "()B"⟩ : MethodName)) (z := (⟨"java/lang/String", "coder", "()B"⟩ : MethodName)) hown (mvT hZ (own_w hw 59 rfl)) (mvT hZ (own_w hw 60 rfl)) (notFace_of_selects (args := #[]) (mvT hZ (own_w hw 62 rfl))) (mvT hZ (own_w hw 62 rfl)) (mvT hZ (own_w hw 61 rfl)) (by decide) (backOf (W := 1) (own_coder l Z a0 hw [] sx zc h0 n0 Z0 fs.2.1 cs hzc) hZ (own_w hw 63 rfl) (own_w hw 3 rfl) (by decide) (by decide)) q2a q2c (g := (mkF m 6 #[.val (.ref sx)] [(.ref sx), (.int xn)])) rfl (by rw [hml]; rfl) (Steps.refl _) (argsL := []) (rest := [(.int xn)]) (lenOf own_pd4 rfl) rfl (by show 2 * 0 + _ ≤ _; exact Nat.le_of_eq rfl) (hb hby own_d_jdk_42_54_6) (fun _ _ => ⟨rfl, e1, (by decide : 0 + 0 ≤ _), (by decide : 0 + 0 ≤ _)⟩)
  dsimp only [Pt.U, Pt.locs, Pt.cells, Pt.slots] at X2 l2 y2 z2 st2 hQ2
  subst l2 y2 z2
  obtain ⟨rfl, N2q, hh2⟩ := hQ2
  have N2 := Fr.app N0 N2q
  refine own_Go.st (fun _ kt => st2.trans kt) ?_
  show own_Go p e below _ (T2.setTop (mkF m 9 #[.val (.ref sx)] [(.int (0 : Int32)), (.int xn)]))
  refine own_Go.st (fun _ kt => XS.ishr X2.here hx rfl (hb hby own_d_jdk_42_54_9) rfl kt) ?_
  show own_Go p e below _ (T2.setTop (mkF m 10 #[.val (.ref sx)] [(.int (xn >>> ((0 : Int32) &&& 31)))]))
  rw [show (xn >>> ((0 : Int32) &&& 31)) = xn from (own_shr0 xn)]
  show own_Go p e below _ (T2.setTop (mkF m 10 #[.val (.ref sx)] [(.int xn)]))
  exact own_retI X2 hx Bd.notSynchronized Bd.returns (hb hby own_d_jdk_42_54_10) (by decide) (by decide) ⟨rfl, N2, hh2⟩
theorem own_pn2 : plainName "java/lang/AbstractStringBuilder" = true := by first | (simp [plainName, overriddenIn]; done) | decide +kernel
theorem own_ef10 (m : MethodId) (x0 : Addr) (x1 : Int32) : entryFrame m #[(.ref x0), (.int x1)] 3 = mkF m 0 #[.val (.ref x0), .val (.int x1), .unset] [] := by first | (simp [entryFrame, mkF, argsToLocals, Value.category]; done) | rfl
theorem own_d_jdk_68_9_0 : decode jdk_68_method_9_code 0 = .ok (.aload_n 0, 1) := by decide +kernel
theorem own_d_jdk_68_9_1 : decode jdk_68_method_9_code 1 = .ok (.getfield 15, 3) := by decide +kernel
theorem own_d_jdk_68_9_4 : decode jdk_68_method_9_code 4 = .ok (.arraylength, 1) := by decide +kernel
theorem own_d_jdk_68_9_5 : decode jdk_68_method_9_code 5 = .ok (.aload_n 0, 1) := by decide +kernel
theorem own_d_jdk_68_9_6 : decode jdk_68_method_9_code 6 = .ok (.getfield 22, 3) := by decide +kernel
theorem own_d_jdk_68_9_9 : decode jdk_68_method_9_code 9 = .ok (.ishr, 1) := by decide +kernel
theorem own_d_jdk_68_9_10 : decode jdk_68_method_9_code 10 = .ok (.istore_n 2, 1) := by decide +kernel
theorem own_d_jdk_68_9_11 : decode jdk_68_method_9_code 11 = .ok (.iload_n 1, 1) := by decide +kernel
theorem own_d_jdk_68_9_12 : decode jdk_68_method_9_code 12 = .ok (.iload_n 2, 1) := by decide +kernel
theorem own_d_jdk_68_9_13 : decode jdk_68_method_9_code 13 = .ok (.isub, 1) := by decide +kernel
theorem own_d_jdk_68_9_14 : decode jdk_68_method_9_code 14 = .ok (.ifCond .le 24, 3) := by decide +kernel
theorem own_d_jdk_68_9_38 : decode jdk_68_method_9_code 38 = .ok (.return_, 1) := by decide +kernel
def own_Q_own_eci (Z : State) (ob rr : Addr) (xk : Int32) (bs : List Int8) (xt : Int32) (t : Nat) (h0 : Heap) (n0 : Nat) (v : Option Value) (h : Heap) (L : List Loc) : Prop := v = none ∧ Fr n0 L ∧ h = h0
set_option maxRecDepth 65536 in
set_option maxHeartbeats 40000000 in
theorem own_eci (l : Launch) (Z : State) (a0 : Array Value) (hw : ∀ d ∈ tables_1, d.before a0 Z = true) (ws : List Jvm.Cond) (ob rr : Addr) (xk : Int32) (bs : List Int8) (xt : Int32) (t : Nat) (h0 : Heap) (n0 : Nat) (Z0 : n0 ≤ h0.size) (fb : own_SB Z h0 n0 ob rr xk bs) (ht : xt.toInt = (t : Int)) (htl : t ≤ 16) :
    MetFree l (⟨"java/lang/AbstractStringBuilder", "ensureCapacityInternal", "(I)V"⟩ : MethodName) (head1 (Jvm.Cond.code (⟨"java/lang/AbstractStringBuilder", "ensureCapacityInternal", "(I)V"⟩ : MethodName) jdk_68_method_9_code 3 none :: ws) ({ frames := 0, cells := 0, slots := 0, locals := 0 } : Room)) (fun av_ U => av_ = #[(.ref ob), (.int xt)] ∧ Z.Warmed39 U.vm ∧ U.heap = h0) (fun _ _ _ _ _ => True) (fun _ U o U' => ∃ v L, o = .returned v ∧ own_Q_own_eci Z ob rr xk bs xt t h0 n0 v U'.heap L ∧ FrameEnd U o U' L ({ frames := 0, cells := 0, slots := 0, locals := 0 } : Room).cells ({ frames := 0, cells := 0, slots := 0, locals := 0 } : Room).slots) := by
  refine MetFree.of_bodySF (plainFor_of_name own_pn2) hisR ?_
  intro p e s m args below meth c s₁ Bd hml0 hP hK
  obtain ⟨rfl, hZ, hh⟩ := hP
  have hx := Bd.exec
  have hby := Bd.bytes
  have hml : c.maxLocals = 3 := hml0
  have hown : s.vm.findClass "java/lang/AbstractStringBuilder" = some m.cls := findClass_of_methodNamed Bd.named
  have hnm := (name_of_methodNamed Bd.named Bd.method).1
  have X0 : Stand p l e ({ frames := 0, cells := 0, slots := 0, locals := 0 } : Room) s m #[(.ref ob), (.int xt)] below meth c s₁ [] 0 0 := Stand.of_body Bd
  have e0 : s₁.heap = h0 := by rw [← hh, Bd.state]; rfl
  have N0 := Fr.nil n0
  suffices hgo : own_Go p e below (fun o U' => ∃ v L, o = .returned v ∧ own_Q_own_eci Z ob rr xk bs xt t h0 n0 v U'.heap L ∧ FrameEnd s o U' L ({ frames := 0, cells := 0, slots := 0, locals := 0 } : Room).cells ({ frames := 0, cells := 0, slots := 0, locals := 0 } : Room).slots) (s₁.setTop (mkF m 0 #[.val (.ref ob), .val (.int xt), .unset] [])) by
    obtain ⟨s₂, o, h1, h2, h3, h4⟩ := hgo
    exact ⟨s₂, o, castTop (own_ef10 m ob xt) h1, h2, h3, h4⟩
  show own_Go p e below _ (s₁.setTop (mkF m 0 #[.val (.ref ob), .val (.int xt), .unset] []))
  refine own_Go.st (fun _ kt => XS.aloadN X0.here hx rfl (hb hby own_d_jdk_68_9_0) rfl rfl kt) ?_
  show own_Go p e below _ (s₁.setTop (mkF m 1 #[.val (.ref ob), .val (.int xt), .unset] [(.ref ob)]))
  obtain ⟨T1, X1, e1, st1⟩ := getF X0 hx hZ hown (host := "") (Or.inl (own_w hw 40 rfl)) Via.refl e0 fb.2.1 (g := (mkF m 1 #[.val (.ref ob), .val (.int xt), .unset] [(.ref ob)])) rfl rfl (hb hby own_d_jdk_68_9_1)
  refine own_Go.st st1 ?_
  show own_Go p e below _ (T1.setTop (mkF m 4 #[.val (.ref ob), .val (.int xt), .unset] [(.ref rr)]))
  refine own_Go.st (fun _ kt => own_alen X1 hx hZ e1 fb.2.2.2.2.1 (z := (16 : Int32)) (by decide) (g := (mkF m 4 #[.val (.ref ob), .val (.int xt), .unset] [(.ref rr)])) rfl rfl (hb hby own_d_jdk_68_9_4) _ kt) ?_
  show own_Go p e below _ (T1.setTop (mkF m 5 #[.val (.ref ob), .val (.int xt), .unset] [(.int (16 : Int32))]))
  refine own_Go.st (fun _ kt => XS.aloadN X1.here hx rfl (hb hby own_d_jdk_68_9_5) rfl rfl kt) ?_
  show own_Go p e below _ (T1.setTop (mkF m 6 #[.val (.ref ob), .val (.int xt), .unset] [(.ref ob), (.int (16 : Int32))]))
  obtain ⟨T2, X2, e2, st2⟩ := getF X1 hx hZ hown (host := "") (Or.inl (own_w hw 42 rfl)) Via.refl e1 fb.2.2.1 (g := (mkF m 6 #[.val (.ref ob), .val (.int xt), .unset] [(.ref ob), (.int (16 : Int32))])) rfl rfl (hb hby own_d_jdk_68_9_6)
  refine own_Go.st st2 ?_
  show own_Go p e below _ (T2.setTop (mkF m 9 #[.val (.ref ob), .val (.int xt), .unset] [(.int (0 : Int32)), (.int (16 : Int32))]))
  refine own_Go.st (fun _ kt => XS.ishr X2.here hx rfl (hb hby own_d_jdk_68_9_9) rfl kt) ?_
  show own_Go p e below _ (T2.setTop (mkF m 10 #[.val (.ref ob), .val (.int xt), .unset] [(.int ((16 : Int32) >>> ((0 : Int32) &&& 31)))]))
  refine own_Go.st (fun _ kt => XS.istoreN X2.here hx rfl (hb hby own_d_jdk_68_9_10) rfl (l' := #[.val (.ref ob), .val (.int xt), .val (.int ((16 : Int32) >>> ((0 : Int32) &&& 31)))]) rfl kt) ?_
  show own_Go p e below _ (T2.setTop (mkF m 11 #[.val (.ref ob), .val (.int xt), .val (.int ((16 : Int32) >>> ((0 : Int32) &&& 31)))] []))
  refine own_Go.st (fun _ kt => XS.iloadN X2.here hx rfl (hb hby own_d_jdk_68_9_11) rfl kt) ?_
  show own_Go p e below _ (T2.setTop (mkF m 12 #[.val (.ref ob), .val (.int xt), .val (.int ((16 : Int32) >>> ((0 : Int32) &&& 31)))] [(.int xt)]))
  refine own_Go.st (fun _ kt => XS.iloadN X2.here hx rfl (hb hby own_d_jdk_68_9_12) rfl kt) ?_
  show own_Go p e below _ (T2.setTop (mkF m 13 #[.val (.ref ob), .val (.int xt), .val (.int ((16 : Int32) >>> ((0 : Int32) &&& 31)))] [(.int ((16 : Int32) >>> ((0 : Int32) &&& 31))), (.int xt)]))
  refine own_Go.st (fun _ kt => XS.isub X2.here hx rfl (hb hby own_d_jdk_68_9_13) rfl kt) ?_
  show own_Go p e below _ (T2.setTop (mkF m 14 #[.val (.ref ob), .val (.int xt), .val (.int ((16 : Int32) >>> ((0 : Int32) &&& 31)))] [(.int (xt - ((16 : Int32) >>> ((0 : Int32) &&& 31))))]))
  refine own_Go.st (fun _ kt => XS.ifYes X2.here hx rfl (pc0 := 14) (pc' := 38) rfl (hb hby own_d_jdk_68_9_14) rfl ((if0 _ _).trans (flt (own_cap ht htl)).2.2.2) (by decide) (by decide) kt) ?_
  show own_Go p e below _ (T2.setTop (mkF m 38 #[.val (.ref ob), .val (.int xt), .val (.int ((16 : Int32) >>> ((0 : Int32) &&& 31)))] []))
  exact own_retV X2 hx Bd.notSynchronized Bd.returns (hb hby own_d_jdk_68_9_38) (by decide) (by decide) ⟨rfl, N0, e2⟩
theorem own_ef11 (m : MethodId) (x0 : Addr) (x1 : Addr) : entryFrame m #[(.ref x0), (.ref x1)] 2 = mkF m 0 #[.val (.ref x0), .val (.ref x1)] [] := by first | (simp [entryFrame, mkF, argsToLocals, Value.category]; done) | rfl
theorem own_d_jdk_68_71_0 : decode jdk_68_method_71_code 0 = .ok (.getstatic 18, 3) := by decide +kernel
theorem own_d_jdk_68_71_3 : decode jdk_68_method_71_code 3 = .ok (.ifCond .eq 18, 3) := by decide +kernel
theorem own_d_jdk_68_71_6 : decode jdk_68_method_71_code 6 = .ok (.aload_n 0, 1) := by decide +kernel
theorem own_d_jdk_68_71_7 : decode jdk_68_method_71_code 7 = .ok (.getfield 22, 3) := by decide +kernel
theorem own_d_jdk_68_71_10 : decode jdk_68_method_71_code 10 = .ok (.aload_n 1, 1) := by decide +kernel
theorem own_d_jdk_68_71_11 : decode jdk_68_method_71_code 11 = .ok (.invokevirtual 40, 3) := by decide +kernel
theorem own_d_jdk_68_71_14 : decode jdk_68_method_71_code 14 = .ok (.if_icmp .eq 7, 3) := by decide +kernel
theorem own_d_jdk_68_71_21 : decode jdk_68_method_71_code 21 = .ok (.return_, 1) := by decide +kernel
def own_Q_own_inf (Z : State) (ob rr : Addr) (xk : Int32) (bs : List Int8) (sx bx : Addr) (us : List Int8) (zc : Int32) (h0 : Heap) (n0 : Nat) (v : Option Value) (h : Heap) (L : List Loc) : Prop := v = none ∧ Fr n0 L ∧ h = h0
set_option maxRecDepth 65536 in
set_option maxHeartbeats 40000000 in
theorem own_inf (l : Launch) (Z : State) (a0 : Array Value) (hw : ∀ d ∈ tables_1, d.before a0 Z = true) (ws : List Jvm.Cond) (ob rr : Addr) (xk : Int32) (bs : List Int8) (sx bx : Addr) (us : List Int8) (zc : Int32) (h0 : Heap) (n0 : Nat) (Z0 : n0 ≤ h0.size) (fb : own_SB Z h0 n0 ob rr xk bs) (fs : own_Sl Z h0 sx bx us) (cs : Sta Z h0 "java/lang/String" "COMPACT_STRINGS" "Z" (.int zc)) (hzc : ¬ zc = 0) :
    MetFree l (⟨"java/lang/AbstractStringBuilder", "inflateIfNeededFor", "(Ljava/lang/String;)V"⟩ : MethodName) (head1 (Jvm.Cond.code (⟨"java/lang/AbstractStringBuilder", "inflateIfNeededFor", "(Ljava/lang/String;)V"⟩ : MethodName) jdk_68_method_71_code 2 none :: ws) ({ frames := 1, cells := 0, slots := 0, locals := 13 } : Room)) (fun av_ U => av_ = #[(.ref ob), (.ref sx)] ∧ Z.Warmed39 U.vm ∧ U.heap = h0) (fun _ _ _ _ _ => True) (fun _ U o U' => ∃ v L, o = .returned v ∧ own_Q_own_inf Z ob rr xk bs sx bx us zc h0 n0 v U'.heap L ∧ FrameEnd U o U' L ({ frames := 1, cells := 0, slots := 0, locals := 13 } : Room).cells ({ frames := 1, cells := 0, slots := 0, locals := 13 } : Room).slots) := by
  refine MetFree.of_bodySF (plainFor_of_name own_pn2) hisR ?_
  intro p e s m args below meth c s₁ Bd hml0 hP hK
  obtain ⟨rfl, hZ, hh⟩ := hP
  have hx := Bd.exec
  have hby := Bd.bytes
  have hml : c.maxLocals = 2 := hml0
  have hown : s.vm.findClass "java/lang/AbstractStringBuilder" = some m.cls := findClass_of_methodNamed Bd.named
  have hnm := (name_of_methodNamed Bd.named Bd.method).1
  have X0 : Stand p l e ({ frames := 1, cells := 0, slots := 0, locals := 13 } : Room) s m #[(.ref ob), (.ref sx)] below meth c s₁ [] 0 0 := Stand.of_body Bd
  have e0 : s₁.heap = h0 := by rw [← hh, Bd.state]; rfl
  have N0 := Fr.nil n0
  suffices hgo : own_Go p e below (fun o U' => ∃ v L, o = .returned v ∧ own_Q_own_inf Z ob rr xk bs sx bx us zc h0 n0 v U'.heap L ∧ FrameEnd s o U' L ({ frames := 1, cells := 0, slots := 0, locals := 13 } : Room).cells ({ frames := 1, cells := 0, slots := 0, locals := 13 } : Room).slots) (s₁.setTop (mkF m 0 #[.val (.ref ob), .val (.ref sx)] [])) by
    obtain ⟨s₂, o, h1, h2, h3, h4⟩ := hgo
    exact ⟨s₂, o, castTop (own_ef11 m ob sx) h1, h2, h3, h4⟩
  show own_Go p e below _ (s₁.setTop (mkF m 0 #[.val (.ref ob), .val (.ref sx)] []))
  obtain ⟨T1, X1, e1, st1⟩ := getS2 X0 hx hZ hown (host := "") (Or.inl (own_w hw 39 rfl)) Via.refl e0 cs (g := (mkF m 0 #[.val (.ref ob), .val (.ref sx)] [])) rfl (hb hby own_d_jdk_68_71_0)
  refine own_Go.st st1 ?_
  show own_Go p e below _ (T1.setTop (mkF m 3 #[.val (.ref ob), .val (.ref sx)] [(.int zc)]))
  refine own_Go.st (fun _ kt => XS.ifNo X1.here hx rfl (hb hby own_d_jdk_68_71_3) rfl ((if0 _ _).trans (feq hzc).1) kt) ?_
  show own_Go p e below _ (T1.setTop (mkF m 6 #[.val (.ref ob), .val (.ref sx)] []))
  refine own_Go.st (fun _ kt => XS.aloadN X1.here hx rfl (hb hby own_d_jdk_68_71_6) rfl rfl kt) ?_
  show own_Go p e below _ (T1.setTop (mkF m 7 #[.val (.ref ob), .val (.ref sx)] [(.ref ob)]))
  obtain ⟨T2, X2, e2, st2⟩ := getF X1 hx hZ hown (host := "") (Or.inl (own_w hw 42 rfl)) Via.refl e1 fb.2.2.1 (g := (mkF m 7 #[.val (.ref ob), .val (.ref sx)] [(.ref ob)])) rfl rfl (hb hby own_d_jdk_68_71_7)
  refine own_Go.st st2 ?_
  show own_Go p e below _ (T2.setTop (mkF m 10 #[.val (.ref ob), .val (.ref sx)] [(.int (0 : Int32))]))
  refine own_Go.st (fun _ kt => XS.aloadN X2.here hx rfl (hb hby own_d_jdk_68_71_10) rfl rfl kt) ?_
  show own_Go p e below _ (T2.setTop (mkF m 11 #[.val (.ref ob), .val (.ref sx)] [(.ref sx), (.int (0 : Int32))]))
  obtain ⟨cq3, kq3, q3a, q3b, q3c⟩ := isOf hZ e2 fs.1
  obtain ⟨_, _, ⟨T3, L3, k3, n3⟩, -, X3, ⟨Lc3, hQ3, l3, y3, z3⟩, st3⟩ := X2.virtualBack hx (y := (⟨"java/lang/String", "coder", "()B"⟩ : MethodName)) (z := (⟨"java/lang/String", "coder", "()B"⟩ : MethodName)) hown (mvT hZ (own_w hw 82 rfl)) (mvT hZ (own_w hw 60 rfl)) (notFace_of_selects (args := #[]) (mvT hZ (own_w hw 62 rfl))) (mvT hZ (own_w hw 62 rfl)) (mvT hZ (own_w hw 61 rfl)) (by decide) (backOf (W := 1) (own_coder l Z a0 hw [] sx zc h0 n0 Z0 fs.2.1 cs hzc) hZ (own_w hw 63 rfl) (own_w hw 3 rfl) (by decide) (by decide)) q3a q3c (g := (mkF m 11 #[.val (.ref ob), .val (.ref sx)] [(.ref sx), (.int (0 : Int32))])) rfl (by rw [hml]; rfl) (Steps.refl _) (argsL := []) (rest := [(.int (0 : Int32))]) (lenOf own_pd4 rfl) rfl (by show 2 * 0 + _ ≤ _; exact Nat.le_of_eq rfl) (hb hby own_d_jdk_68_71_11) (fun _ _ => ⟨rfl, e2, (by decide : 0 + 0 ≤ _), (by decide : 0 + 0 ≤ _)⟩)
  dsimp only [Pt.U, Pt.locs, Pt.cells, Pt.slots] at X3 l3 y3 z3 st3 hQ3
  subst l3 y3 z3
  obtain ⟨rfl, N3q, hh3⟩ := hQ3
  have N3 := Fr.app N0 N3q
  refine own_Go.st (fun _ kt => st3.trans kt) ?_
  show own_Go p e below _ (T3.setTop (mkF m 14 #[.val (.ref ob), .val (.ref sx)] [(.int (0 : Int32)), (.int (0 : Int32))]))
  refine own_Go.st (fun _ kt => XS.icmpYes X3.here hx rfl (pc0 := 14) (pc' := 21) rfl (hb hby own_d_jdk_68_71_14) rfl (teq rfl).1 (by decide) (by decide) kt) ?_
  show own_Go p e below _ (T3.setTop (mkF m 21 #[.val (.ref ob), .val (.ref sx)] []))
  exact own_retV X3 hx Bd.notSynchronized Bd.returns (hb hby own_d_jdk_68_71_21) (by decide) (by decide) ⟨rfl, N3, hh3⟩
theorem own_ef12 (m : MethodId) (x0 : Addr) (x1 : Addr) (x2 : Int32) (x3 : Int32) : entryFrame m #[(.ref x0), (.ref x1), (.int x2), (.int x3)] 4 = mkF m 0 #[.val (.ref x0), .val (.ref x1), .val (.int x2), .val (.int x3)] [] := by first | (simp [entryFrame, mkF, argsToLocals, Value.category]; done) | rfl
theorem own_d_jdk_42_147_0 : decode jdk_42_method_147_code 0 = .ok (.aload_n 0, 1) := by decide +kernel
theorem own_d_jdk_42_147_1 : decode jdk_42_method_147_code 1 = .ok (.invokevirtual 335, 3) := by decide +kernel
theorem own_d_jdk_42_147_4 : decode jdk_42_method_147_code 4 = .ok (.iload_n 3, 1) := by decide +kernel
theorem own_d_jdk_42_147_5 : decode jdk_42_method_147_code 5 = .ok (.if_icmp .ne 23, 3) := by decide +kernel
theorem own_d_jdk_42_147_8 : decode jdk_42_method_147_code 8 = .ok (.aload_n 0, 1) := by decide +kernel
theorem own_d_jdk_42_147_9 : decode jdk_42_method_147_code 9 = .ok (.getfield 9, 3) := by decide +kernel
theorem own_d_jdk_42_147_12 : decode jdk_42_method_147_code 12 = .ok (.iconst 0, 1) := by decide +kernel
theorem own_d_jdk_42_147_13 : decode jdk_42_method_147_code 13 = .ok (.aload_n 1, 1) := by decide +kernel
theorem own_d_jdk_42_147_14 : decode jdk_42_method_147_code 14 = .ok (.iload_n 2, 1) := by decide +kernel
theorem own_d_jdk_42_147_15 : decode jdk_42_method_147_code 15 = .ok (.iload_n 3, 1) := by decide +kernel
theorem own_d_jdk_42_147_16 : decode jdk_42_method_147_code 16 = .ok (.ishl, 1) := by decide +kernel
theorem own_d_jdk_42_147_17 : decode jdk_42_method_147_code 17 = .ok (.aload_n 0, 1) := by decide +kernel
theorem own_d_jdk_42_147_18 : decode jdk_42_method_147_code 18 = .ok (.getfield 9, 3) := by decide +kernel
theorem own_d_jdk_42_147_21 : decode jdk_42_method_147_code 21 = .ok (.arraylength, 1) := by decide +kernel
theorem own_d_jdk_42_147_22 : decode jdk_42_method_147_code 22 = .ok (.invokestatic 212, 3) := by decide +kernel
theorem own_d_jdk_42_147_25 : decode jdk_42_method_147_code 25 = .ok (.goto 18, 3) := by decide +kernel
theorem own_d_jdk_42_147_43 : decode jdk_42_method_147_code 43 = .ok (.return_, 1) := by decide +kernel
def own_Q_own_gb (Z : State) (sx bx rr : Addr) (xk : Int32) (bs us : List Int8) (zc : Int32) (h0 : Heap) (n0 : Nat) (v : Option Value) (h : Heap) (L : List Loc) : Prop := v = none ∧ Fr n0 L ∧ own_Ar Z h rr .byte 16 (own_by (bs ++ us)) ∧ Keep h0 h [rr]
set_option maxRecDepth 65536 in
set_option maxHeartbeats 40000000 in
theorem own_gb (l : Launch) (Z : State) (a0 : Array Value) (hw : ∀ d ∈ tables_1, d.before a0 Z = true) (ws : List Jvm.Cond) (sx bx rr : Addr) (xk : Int32) (bs us : List Int8) (zc : Int32) (h0 : Heap) (n0 : Nat) (Z0 : n0 ≤ h0.size) (fs : own_Sl Z h0 sx bx us) (ar : own_Ar Z h0 rr .byte 16 (own_by bs)) (hk0 : xk.toInt = (bs.length : Int)) (hl : bs.length + us.length ≤ 16) (gr : n0 ≤ rr) (cs : Sta Z h0 "java/lang/String" "COMPACT_STRINGS" "Z" (.int zc)) (hzc : ¬ zc = 0) :
    MetFree l (⟨"java/lang/String", "getBytes", "([BIB)V"⟩ : MethodName) (head1 (Jvm.Cond.code (⟨"java/lang/String", "getBytes", "([BIB)V"⟩ : MethodName) jdk_42_method_147_code 4 none :: ws) ({ frames := 1, cells := 0, slots := 0, locals := 18 } : Room)) (fun av_ U => av_ = #[(.ref sx), (.ref rr), (.int xk), (.int (0 : Int32))] ∧ Z.Warmed39 U.vm ∧ U.heap = h0) (fun _ _ _ _ _ => True) (fun _ U o U' => ∃ v L, o = .returned v ∧ own_Q_own_gb Z sx bx rr xk bs us zc h0 n0 v U'.heap L ∧ FrameEnd U o U' L ({ frames := 1, cells := 0, slots := 0, locals := 18 } : Room).cells ({ frames := 1, cells := 0, slots := 0, locals := 18 } : Room).slots) := by
  refine MetFree.of_bodySF (plainFor_of_name own_pn1) hisR ?_
  intro p e s m args below meth c s₁ Bd hml0 hP hK
  obtain ⟨rfl, hZ, hh⟩ := hP
  have hx := Bd.exec
  have hby := Bd.bytes
  have hml : c.maxLocals = 4 := hml0
  have hown : s.vm.findClass "java/lang/String" = some m.cls := findClass_of_methodNamed Bd.named
  have hnm := (name_of_methodNamed Bd.named Bd.method).1
  have X0 : Stand p l e ({ frames := 1, cells := 0, slots := 0, locals := 18 } : Room) s m #[(.ref sx), (.ref rr), (.int xk), (.int (0 : Int32))] below meth c s₁ [] 0 0 := Stand.of_body Bd
  have e0 : s₁.heap = h0 := by rw [← hh, Bd.state]; rfl
  have N0 := Fr.nil n0
  suffices hgo : own_Go p e below (fun o U' => ∃ v L, o = .returned v ∧ own_Q_own_gb Z sx bx rr xk bs us zc h0 n0 v U'.heap L ∧ FrameEnd s o U' L ({ frames := 1, cells := 0, slots := 0, locals := 18 } : Room).cells ({ frames := 1, cells := 0, slots := 0, locals := 18 } : Room).slots) (s₁.setTop (mkF m 0 #[.val (.ref sx), .val (.ref rr), .val (.int xk), .val (.int (0 : Int32))] [])) by
    obtain ⟨s₂, o, h1, h2, h3, h4⟩ := hgo
    exact ⟨s₂, o, castTop (own_ef12 m sx rr xk (0 : Int32)) h1, h2, h3, h4⟩
  have kk0 : Keep h0 h0 [rr] := Keep.refl _ _
  show own_Go p e below _ (s₁.setTop (mkF m 0 #[.val (.ref sx), .val (.ref rr), .val (.int xk), .val (.int (0 : Int32))] []))
  have hun : (Nat.toInt32 us.length).toInt = ((us.length : Nat) : Int) := len_toInt (by omega)
  refine own_Go.st (fun _ kt => XS.aloadN X0.here hx rfl (hb hby own_d_jdk_42_147_0) rfl rfl kt) ?_
  show own_Go p e below _ (s₁.setTop (mkF m 1 #[.val (.ref sx), .val (.ref rr), .val (.int xk), .val (.int (0 : Int32))] [(.ref sx)]))
  obtain ⟨cq1, kq1, q1a, q1b, q1c⟩ := isOf hZ e0 fs.1
  obtain ⟨_, _, ⟨T1, L1, k1, n1⟩, -, X1, ⟨Lc1, hQ1, l1, y1, z1⟩, st1⟩ := X0.virtualBack hx (y := (⟨"java/lang/String", "coder", "()B"⟩ : MethodName)) (z := (⟨"java/lang/String", "coder", "()B"⟩ : MethodName)) hown (mvT hZ (own_w hw 59 rfl)) (mvT hZ (own_w hw 60 rfl)) (notFace_of_selects (args := #[]) (mvT hZ (own_w hw 62 rfl))) (mvT hZ (own_w hw 62 rfl)) (mvT hZ (own_w hw 61 rfl)) (by decide) (backOf (W := 0) (own_coder l Z a0 hw [] sx zc h0 n0 Z0 fs.2.1 cs hzc) hZ (own_w hw 63 rfl) (own_w hw 3 rfl) (by decide) (by decide)) q1a q1c (g := (mkF m 1 #[.val (.ref sx), .val (.ref rr), .val (.int xk), .val (.int (0 : Int32))] [(.ref sx)])) rfl (by rw [hml]; rfl) (Steps.refl _) (argsL := []) (rest := []) (lenOf own_pd4 rfl) rfl (by show 2 * 0 + _ ≤ _; exact Nat.le_of_eq rfl) (hb hby own_d_jdk_42_147_1) (fun _ _ => ⟨rfl, e0, (by decide : 0 + 0 ≤ _), (by decide : 0 + 0 ≤ _)⟩)
  dsimp only [Pt.U, Pt.locs, Pt.cells, Pt.slots] at X1 l1 y1 z1 st1 hQ1
  subst l1 y1 z1
  obtain ⟨rfl, N1q, hh1⟩ := hQ1
  have N1 := Fr.app N0 N1q
  refine own_Go.st (fun _ kt => st1.trans kt) ?_
  show own_Go p e below _ (T1.setTop (mkF m 4 #[.val (.ref sx), .val (.ref rr), .val (.int xk), .val (.int (0 : Int32))] [(.int (0 : Int32))]))
  refine own_Go.st (fun _ kt => XS.iloadN X1.here hx rfl (hb hby own_d_jdk_42_147_4) rfl kt) ?_
  show own_Go p e below _ (T1.setTop (mkF m 5 #[.val (.ref sx), .val (.ref rr), .val (.int xk), .val (.int (0 : Int32))] [(.int (0 : Int32)), (.int (0 : Int32))]))
  refine own_Go.st (fun _ kt => XS.icmpNo X1.here hx rfl (hb hby own_d_jdk_42_147_5) rfl (teq rfl).2 kt) ?_
  show own_Go p e below _ (T1.setTop (mkF m 8 #[.val (.ref sx), .val (.ref rr), .val (.int xk), .val (.int (0 : Int32))] []))
  refine own_Go.st (fun _ kt => XS.aloadN X1.here hx rfl (hb hby own_d_jdk_42_147_8) rfl rfl kt) ?_
  show own_Go p e below _ (T1.setTop (mkF m 9 #[.val (.ref sx), .val (.ref rr), .val (.int xk), .val (.int (0 : Int32))] [(.ref sx)]))
  obtain ⟨T2, X2, e2, st2⟩ := getF X1 hx hZ hown (host := "") (Or.inl (own_w hw 20 rfl)) Via.refl hh1 fs.2.2.1 (g := (mkF m 9 #[.val (.ref sx), .val (.ref rr), .val (.int xk), .val (.int (0 : Int32))] [(.ref sx)])) rfl rfl (hb hby own_d_jdk_42_147_9)
  refine own_Go.st st2 ?_
  show own_Go p e below _ (T2.setTop (mkF m 12 #[.val (.ref sx), .val (.ref rr), .val (.int xk), .val (.int (0 : Int32))] [(.ref bx)]))
  refine own_Go.st (fun _ kt => XS.iconst X2.here hx rfl (hb hby own_d_jdk_42_147_12) kt) ?_
  show own_Go p e below _ (T2.setTop (mkF m 13 #[.val (.ref sx), .val (.ref rr), .val (.int xk), .val (.int (0 : Int32))] [(.int (0 : Int32)), (.ref bx)]))
  refine own_Go.st (fun _ kt => XS.aloadN X2.here hx rfl (hb hby own_d_jdk_42_147_13) rfl rfl kt) ?_
  show own_Go p e below _ (T2.setTop (mkF m 14 #[.val (.ref sx), .val (.ref rr), .val (.int xk), .val (.int (0 : Int32))] [(.ref rr), (.int (0 : Int32)), (.ref bx)]))
  refine own_Go.st (fun _ kt => XS.iloadN X2.here hx rfl (hb hby own_d_jdk_42_147_14) rfl kt) ?_
  show own_Go p e below _ (T2.setTop (mkF m 15 #[.val (.ref sx), .val (.ref rr), .val (.int xk), .val (.int (0 : Int32))] [(.int xk), (.ref rr), (.int (0 : Int32)), (.ref bx)]))
  refine own_Go.st (fun _ kt => XS.iloadN X2.here hx rfl (hb hby own_d_jdk_42_147_15) rfl kt) ?_
  show own_Go p e below _ (T2.setTop (mkF m 16 #[.val (.ref sx), .val (.ref rr), .val (.int xk), .val (.int (0 : Int32))] [(.int (0 : Int32)), (.int xk), (.ref rr), (.int (0 : Int32)), (.ref bx)]))
  refine own_Go.st (fun _ kt => XS.ishl X2.here hx rfl (hb hby own_d_jdk_42_147_16) rfl kt) ?_
  show own_Go p e below _ (T2.setTop (mkF m 17 #[.val (.ref sx), .val (.ref rr), .val (.int xk), .val (.int (0 : Int32))] [(.int (xk <<< ((0 : Int32) &&& 31))), (.ref rr), (.int (0 : Int32)), (.ref bx)]))
  refine own_Go.st (fun _ kt => XS.aloadN X2.here hx rfl (hb hby own_d_jdk_42_147_17) rfl rfl kt) ?_
  show own_Go p e below _ (T2.setTop (mkF m 18 #[.val (.ref sx), .val (.ref rr), .val (.int xk), .val (.int (0 : Int32))] [(.ref sx), (.int (xk <<< ((0 : Int32) &&& 31))), (.ref rr), (.int (0 : Int32)), (.ref bx)]))
  rw [show (xk <<< ((0 : Int32) &&& 31)) = xk from (own_shl0 xk)]
  show own_Go p e below _ (T2.setTop (mkF m 18 #[.val (.ref sx), .val (.ref rr), .val (.int xk), .val (.int (0 : Int32))] [(.ref sx), (.int xk), (.ref rr), (.int (0 : Int32)), (.ref bx)]))
  obtain ⟨T3, X3, e3, st3⟩ := getF X2 hx hZ hown (host := "") (Or.inl (own_w hw 20 rfl)) Via.refl e2 fs.2.2.1 (g := (mkF m 18 #[.val (.ref sx), .val (.ref rr), .val (.int xk), .val (.int (0 : Int32))] [(.ref sx), (.int xk), (.ref rr), (.int (0 : Int32)), (.ref bx)])) rfl rfl (hb hby own_d_jdk_42_147_18)
  refine own_Go.st st3 ?_
  show own_Go p e below _ (T3.setTop (mkF m 21 #[.val (.ref sx), .val (.ref rr), .val (.int xk), .val (.int (0 : Int32))] [(.ref bx), (.int xk), (.ref rr), (.int (0 : Int32)), (.ref bx)]))
  refine own_Go.st (fun _ kt => own_alen X3 hx hZ e3 fs.2.2.2 (z := (Nat.toInt32 us.length)) hun (g := (mkF m 21 #[.val (.ref sx), .val (.ref rr), .val (.int xk), .val (.int (0 : Int32))] [(.ref bx), (.int xk), (.ref rr), (.int (0 : Int32)), (.ref bx)])) rfl rfl (hb hby own_d_jdk_42_147_21) _ kt) ?_
  show own_Go p e below _ (T3.setTop (mkF m 22 #[.val (.ref sx), .val (.ref rr), .val (.int xk), .val (.int (0 : Int32))] [(.int (Nat.toInt32 us.length)), (.int xk), (.ref rr), (.int (0 : Int32)), (.ref bx)]))
  have ns4 := own_nstA ar
  obtain ⟨T4, h4, lc4, X4, e4, N4, K4, A4, st4⟩ := own_acp X3 hx hZ hown (own_w hw 88 rfl) (own_w hw 91 rfl) (own_w hw 89 rfl) (own_w hw 90 rfl) e3 fs.2.2.2 ar hun (show (16 : Int32).toInt = ((16 : Nat) : Int) by decide) (show (0 : Int32).toInt = ((0 : Nat) : Int) by decide) hk0 hun (by omega) hl N1 gr (g := (mkF m 22 #[.val (.ref sx), .val (.ref rr), .val (.int xk), .val (.int (0 : Int32))] [(.int (Nat.toInt32 us.length)), (.int xk), (.ref rr), (.int (0 : Int32)), (.ref bx)])) rfl (by rw [hml]; rfl) rfl (hb hby own_d_jdk_42_147_22) (by decide) (W := 0) (by show 2 * 0 + _ ≤ _; exact Nat.le_of_eq rfl) (by decide)
  refine own_Go.st st4 ?_
  have zz5 : n0 ≤ Array.size h4 := Nat.le_trans Z0 K4.1
  have kk5 : Keep h0 h4 [rr] := kk0.trans K4 (allS (P := fun x => x ∈ [rr] ∨ _) (Or.inl (List.mem_of_getElem? (i := 0) rfl)) all0)
  show own_Go p e below _ (T4.setTop (mkF m 25 #[.val (.ref sx), .val (.ref rr), .val (.int xk), .val (.int (0 : Int32))] []))
  refine own_Go.st (fun _ kt => XS.goto X4.here hx rfl (pc0 := 25) (pc' := 43) rfl (hb hby own_d_jdk_42_147_25) (by decide) (by decide) kt) ?_
  show own_Go p e below _ (T4.setTop (mkF m 43 #[.val (.ref sx), .val (.ref rr), .val (.int xk), .val (.int (0 : Int32))] []))
  have fin : own_Ar Z h4 rr .byte 16 (own_by (bs ++ us)) := A4.congr fun q _ => own_by_app bs us q
  have kk := kk5
  rw [← e4] at fin kk
  exact own_retV X4 hx Bd.notSynchronized Bd.returns (hb hby own_d_jdk_42_147_43) (by decide) (by decide) ⟨rfl, N4, fin, kk⟩
theorem own_ef13 (m : MethodId) (x0 : Addr) (x1 : Int32) (x2 : Addr) : entryFrame m #[(.ref x0), (.int x1), (.ref x2)] 3 = mkF m 0 #[.val (.ref x0), .val (.int x1), .val (.ref x2)] [] := by first | (simp [entryFrame, mkF, argsToLocals, Value.category]; done) | rfl
theorem own_d_jdk_68_73_0 : decode jdk_68_method_73_code 0 = .ok (.aload_n 0, 1) := by decide +kernel
theorem own_d_jdk_68_73_1 : decode jdk_68_method_73_code 1 = .ok (.aload_n 2, 1) := by decide +kernel
theorem own_d_jdk_68_73_2 : decode jdk_68_method_73_code 2 = .ok (.invokevirtual 397, 3) := by decide +kernel
theorem own_pd5 : parseMethodDescriptor "(Ljava/lang/String;)V" = some ⟨[(.object "java/lang/String")], none⟩ := by decide +kernel
theorem own_d_jdk_68_73_5 : decode jdk_68_method_73_code 5 = .ok (.aload_n 2, 1) := by decide +kernel
theorem own_d_jdk_68_73_6 : decode jdk_68_method_73_code 6 = .ok (.aload_n 0, 1) := by decide +kernel
theorem own_d_jdk_68_73_7 : decode jdk_68_method_73_code 7 = .ok (.getfield 15, 3) := by decide +kernel
theorem own_d_jdk_68_73_10 : decode jdk_68_method_73_code 10 = .ok (.iload_n 1, 1) := by decide +kernel
theorem own_d_jdk_68_73_11 : decode jdk_68_method_73_code 11 = .ok (.aload_n 0, 1) := by decide +kernel
theorem own_d_jdk_68_73_12 : decode jdk_68_method_73_code 12 = .ok (.getfield 22, 3) := by decide +kernel
theorem own_pd6 : parseMethodDescriptor "([BIB)V" = some ⟨[(.array .byte), .int, .byte], none⟩ := by decide +kernel
theorem own_d_jdk_68_73_15 : decode jdk_68_method_73_code 15 = .ok (.invokevirtual 399, 3) := by decide +kernel
theorem own_d_jdk_68_73_18 : decode jdk_68_method_73_code 18 = .ok (.return_, 1) := by decide +kernel
def own_Q_own_psa (Z : State) (ob rr : Addr) (xk : Int32) (bs : List Int8) (sx bx : Addr) (us : List Int8) (zc : Int32) (h0 : Heap) (n0 : Nat) (v : Option Value) (h : Heap) (L : List Loc) : Prop := v = none ∧ Fr n0 L ∧ own_Ar Z h rr .byte 16 (own_by (bs ++ us)) ∧ Keep h0 h [rr]
set_option maxRecDepth 65536 in
set_option maxHeartbeats 40000000 in
theorem own_psa (l : Launch) (Z : State) (a0 : Array Value) (hw : ∀ d ∈ tables_1, d.before a0 Z = true) (ws : List Jvm.Cond) (ob rr : Addr) (xk : Int32) (bs : List Int8) (sx bx : Addr) (us : List Int8) (zc : Int32) (h0 : Heap) (n0 : Nat) (Z0 : n0 ≤ h0.size) (fb : own_SB Z h0 n0 ob rr xk bs) (fs : own_Sl Z h0 sx bx us) (hl : bs.length + us.length ≤ 16) (cs : Sta Z h0 "java/lang/String" "COMPACT_STRINGS" "Z" (.int zc)) (hzc : ¬ zc = 0) :
    MetFree l (⟨"java/lang/AbstractStringBuilder", "putStringAt", "(ILjava/lang/String;)V"⟩ : MethodName) (head1 (Jvm.Cond.code (⟨"java/lang/AbstractStringBuilder", "putStringAt", "(ILjava/lang/String;)V"⟩ : MethodName) jdk_68_method_73_code 3 none :: ws) ({ frames := 2, cells := 0, slots := 0, locals := 33 } : Room)) (fun av_ U => av_ = #[(.ref ob), (.int xk), (.ref sx)] ∧ Z.Warmed39 U.vm ∧ U.heap = h0) (fun _ _ _ _ _ => True) (fun _ U o U' => ∃ v L, o = .returned v ∧ own_Q_own_psa Z ob rr xk bs sx bx us zc h0 n0 v U'.heap L ∧ FrameEnd U o U' L ({ frames := 2, cells := 0, slots := 0, locals := 33 } : Room).cells ({ frames := 2, cells := 0, slots := 0, locals := 33 } : Room).slots) := by
  refine MetFree.of_bodySF (plainFor_of_name own_pn2) hisR ?_
  intro p e s m args below meth c s₁ Bd hml0 hP hK
  obtain ⟨rfl, hZ, hh⟩ := hP
  have hx := Bd.exec
  have hby := Bd.bytes
  have hml : c.maxLocals = 3 := hml0
  have hown : s.vm.findClass "java/lang/AbstractStringBuilder" = some m.cls := findClass_of_methodNamed Bd.named
  have hnm := (name_of_methodNamed Bd.named Bd.method).1
  have X0 : Stand p l e ({ frames := 2, cells := 0, slots := 0, locals := 33 } : Room) s m #[(.ref ob), (.int xk), (.ref sx)] below meth c s₁ [] 0 0 := Stand.of_body Bd
  have e0 : s₁.heap = h0 := by rw [← hh, Bd.state]; rfl
  have N0 := Fr.nil n0
  suffices hgo : own_Go p e below (fun o U' => ∃ v L, o = .returned v ∧ own_Q_own_psa Z ob rr xk bs sx bx us zc h0 n0 v U'.heap L ∧ FrameEnd s o U' L ({ frames := 2, cells := 0, slots := 0, locals := 33 } : Room).cells ({ frames := 2, cells := 0, slots := 0, locals := 33 } : Room).slots) (s₁.setTop (mkF m 0 #[.val (.ref ob), .val (.int xk), .val (.ref sx)] [])) by
    obtain ⟨s₂, o, h1, h2, h3, h4⟩ := hgo
    exact ⟨s₂, o, castTop (own_ef13 m ob xk sx) h1, h2, h3, h4⟩
  have kk0 : Keep h0 h0 [rr] := Keep.refl _ _
  show own_Go p e below _ (s₁.setTop (mkF m 0 #[.val (.ref ob), .val (.int xk), .val (.ref sx)] []))
  refine own_Go.st (fun _ kt => XS.aloadN X0.here hx rfl (hb hby own_d_jdk_68_73_0) rfl rfl kt) ?_
  show own_Go p e below _ (s₁.setTop (mkF m 1 #[.val (.ref ob), .val (.int xk), .val (.ref sx)] [(.ref ob)]))
  refine own_Go.st (fun _ kt => XS.aloadN X0.here hx rfl (hb hby own_d_jdk_68_73_1) rfl rfl kt) ?_
  show own_Go p e below _ (s₁.setTop (mkF m 2 #[.val (.ref ob), .val (.int xk), .val (.ref sx)] [(.ref sx), (.ref ob)]))
  obtain ⟨cq1, q1, q1'⟩ := Exa.cell fb.1
  obtain ⟨_, _, ⟨T1, L1, k1, n1⟩, -, X1, ⟨Lc1, hQ1, l1, y1, z1⟩, st1⟩ := X0.privateBack hx (y := (⟨"java/lang/AbstractStringBuilder", "inflateIfNeededFor", "(Ljava/lang/String;)V"⟩ : MethodName)) hown (mvT hZ (own_w hw 77 rfl)) (mvT hZ (own_w hw 78 rfl)) (own_selp hZ (own_w hw 70 rfl) rfl (own_w hw 78 rfl) (own_w hw 79 rfl) (by decide)) (Cond.privateMethod_at (mvP hZ (own_w hw 79 rfl) (args := #[]))) (mvT hZ (own_w hw 81 rfl)) (by decide) (backOf (W := 0) (own_inf l Z a0 hw [] ob rr xk bs sx bx us zc h0 n0 Z0 fb fs cs hzc) hZ (own_w hw 81 rfl) (own_w hw 36 rfl) (by decide) (by decide)) (g := (mkF m 2 #[.val (.ref ob), .val (.int xk), .val (.ref sx)] [(.ref sx), (.ref ob)])) rfl (by rw [hml]; rfl) (Steps.refl _) (a := ob) (by rw [e0]; exact q1) q1' (argsL := [(.ref sx)]) (rest := []) (lenOf own_pd5 rfl) rfl (by show 2 * 0 + _ ≤ _; exact Nat.le_of_eq rfl) (hb hby own_d_jdk_68_73_2) (fun _ _ => ⟨rfl, e0, (by decide : 0 + 0 ≤ _), (by decide : 0 + 0 ≤ _)⟩)
  dsimp only [Pt.U, Pt.locs, Pt.cells, Pt.slots] at X1 l1 y1 z1 st1 hQ1
  subst l1 y1 z1
  obtain ⟨rfl, N1q, hh1⟩ := hQ1
  have N1 := Fr.app N0 N1q
  refine own_Go.st (fun _ kt => st1.trans kt) ?_
  show own_Go p e below _ (T1.setTop (mkF m 5 #[.val (.ref ob), .val (.int xk), .val (.ref sx)] []))
  refine own_Go.st (fun _ kt => XS.aloadN X1.here hx rfl (hb hby own_d_jdk_68_73_5) rfl rfl kt) ?_
  show own_Go p e below _ (T1.setTop (mkF m 6 #[.val (.ref ob), .val (.int xk), .val (.ref sx)] [(.ref sx)]))
  refine own_Go.st (fun _ kt => XS.aloadN X1.here hx rfl (hb hby own_d_jdk_68_73_6) rfl rfl kt) ?_
  show own_Go p e below _ (T1.setTop (mkF m 7 #[.val (.ref ob), .val (.int xk), .val (.ref sx)] [(.ref ob), (.ref sx)]))
  obtain ⟨T2, X2, e2, st2⟩ := getF X1 hx hZ hown (host := "") (Or.inl (own_w hw 40 rfl)) Via.refl hh1 fb.2.1 (g := (mkF m 7 #[.val (.ref ob), .val (.int xk), .val (.ref sx)] [(.ref ob), (.ref sx)])) rfl rfl (hb hby own_d_jdk_68_73_7)
  refine own_Go.st st2 ?_
  show own_Go p e below _ (T2.setTop (mkF m 10 #[.val (.ref ob), .val (.int xk), .val (.ref sx)] [(.ref rr), (.ref sx)]))
  refine own_Go.st (fun _ kt => XS.iloadN X2.here hx rfl (hb hby own_d_jdk_68_73_10) rfl kt) ?_
  show own_Go p e below _ (T2.setTop (mkF m 11 #[.val (.ref ob), .val (.int xk), .val (.ref sx)] [(.int xk), (.ref rr), (.ref sx)]))
  refine own_Go.st (fun _ kt => XS.aloadN X2.here hx rfl (hb hby own_d_jdk_68_73_11) rfl rfl kt) ?_
  show own_Go p e below _ (T2.setTop (mkF m 12 #[.val (.ref ob), .val (.int xk), .val (.ref sx)] [(.ref ob), (.int xk), (.ref rr), (.ref sx)]))
  obtain ⟨T3, X3, e3, st3⟩ := getF X2 hx hZ hown (host := "") (Or.inl (own_w hw 42 rfl)) Via.refl e2 fb.2.2.1 (g := (mkF m 12 #[.val (.ref ob), .val (.int xk), .val (.ref sx)] [(.ref ob), (.int xk), (.ref rr), (.ref sx)])) rfl rfl (hb hby own_d_jdk_68_73_12)
  refine own_Go.st st3 ?_
  show own_Go p e below _ (T3.setTop (mkF m 15 #[.val (.ref ob), .val (.int xk), .val (.ref sx)] [(.int (0 : Int32)), (.int xk), (.ref rr), (.ref sx)]))
  obtain ⟨cq4, kq4, q4a, q4b, q4c⟩ := isOf hZ e3 fs.1
  obtain ⟨_, _, ⟨T4, L4, k4, n4⟩, -, X4, ⟨Lc4, hQ4, l4, y4, z4⟩, st4⟩ := X3.virtualBack hx (y := (⟨"java/lang/String", "getBytes", "([BIB)V"⟩ : MethodName)) (z := (⟨"java/lang/String", "getBytes", "([BIB)V"⟩ : MethodName)) hown (mvT hZ (own_w hw 83 rfl)) (mvT hZ (own_w hw 84 rfl)) (notFace_of_selects (args := #[]) (mvT hZ (own_w hw 86 rfl))) (mvT hZ (own_w hw 86 rfl)) (mvT hZ (own_w hw 85 rfl)) (by decide) (backOf (W := 0) (own_gb l Z a0 hw [] sx bx rr xk bs us zc h0 n0 Z0 fs fb.2.2.2.2.1 fb.2.2.2.2.2.1 hl fb.2.2.2.2.2.2.2.2 cs hzc) hZ (own_w hw 87 rfl) (own_w hw 3 rfl) (by decide) (by decide)) q4a q4c (g := (mkF m 15 #[.val (.ref ob), .val (.int xk), .val (.ref sx)] [(.int (0 : Int32)), (.int xk), (.ref rr), (.ref sx)])) rfl (by rw [hml]; rfl) (Steps.refl _) (argsL := [(.ref rr), (.int xk), (.int (0 : Int32))]) (rest := []) (lenOf own_pd6 rfl) rfl (by show 2 * 0 + _ ≤ _; exact Nat.le_of_eq rfl) (hb hby own_d_jdk_68_73_15) (fun _ _ => ⟨rfl, e3, (by decide : 0 + 0 ≤ _), (by decide : 0 + 0 ≤ _)⟩)
  dsimp only [Pt.U, Pt.locs, Pt.cells, Pt.slots] at X4 l4 y4 z4 st4 hQ4
  subst l4 y4 z4
  obtain ⟨rfl, N4q, ab4, KF4⟩ := hQ4
  have N4 := Fr.app N1 N4q
  refine own_Go.st (fun _ kt => st4.trans kt) ?_
  have zz5 : n0 ≤ Array.size T4.heap := Nat.le_trans Z0 KF4.1
  have kk5 : Keep h0 T4.heap [rr] := kk0.trans KF4 (allS (P := fun x => x ∈ [rr] ∨ _) (Or.inl (List.mem_of_getElem? (i := 0) rfl)) all0)
  show own_Go p e below _ (T4.setTop (mkF m 18 #[.val (.ref ob), .val (.int xk), .val (.ref sx)] []))
  have kk := kk5
  exact own_retV X4 hx Bd.notSynchronized Bd.returns (hb hby own_d_jdk_68_73_18) (by decide) (by decide) ⟨rfl, N4, ab4, kk⟩
theorem own_ef14 (m : MethodId) (x0 : Addr) (x1 : Addr) : entryFrame m #[(.ref x0), (.ref x1)] 3 = mkF m 0 #[.val (.ref x0), .val (.ref x1), .unset] [] := by first | (simp [entryFrame, mkF, argsToLocals, Value.category]; done) | rfl
theorem own_d_jdk_68_22_0 : decode jdk_68_method_22_code 0 = .ok (.aload_n 1, 1) := by decide +kernel
theorem own_d_jdk_68_22_1 : decode jdk_68_method_22_code 1 = .ok (.ifnonnull 8, 3) := by decide +kernel
theorem own_d_jdk_68_22_9 : decode jdk_68_method_22_code 9 = .ok (.aload_n 1, 1) := by decide +kernel
theorem own_d_jdk_68_22_10 : decode jdk_68_method_22_code 10 = .ok (.invokevirtual 32, 3) := by decide +kernel
theorem own_pd7 : parseMethodDescriptor "()I" = some ⟨[], some .int⟩ := by decide +kernel
theorem own_d_jdk_68_22_13 : decode jdk_68_method_22_code 13 = .ok (.istore_n 2, 1) := by decide +kernel
theorem own_d_jdk_68_22_14 : decode jdk_68_method_22_code 14 = .ok (.aload_n 0, 1) := by decide +kernel
theorem own_d_jdk_68_22_15 : decode jdk_68_method_22_code 15 = .ok (.aload_n 0, 1) := by decide +kernel
theorem own_d_jdk_68_22_16 : decode jdk_68_method_22_code 16 = .ok (.getfield 79, 3) := by decide +kernel
theorem own_d_jdk_68_22_19 : decode jdk_68_method_22_code 19 = .ok (.iload_n 2, 1) := by decide +kernel
theorem own_d_jdk_68_22_20 : decode jdk_68_method_22_code 20 = .ok (.iadd, 1) := by decide +kernel
theorem own_d_jdk_68_22_21 : decode jdk_68_method_22_code 21 = .ok (.invokevirtual 100, 3) := by decide +kernel
theorem own_pd8 : parseMethodDescriptor "(I)V" = some ⟨[.int], none⟩ := by decide +kernel
theorem own_d_jdk_68_22_24 : decode jdk_68_method_22_code 24 = .ok (.aload_n 0, 1) := by decide +kernel
theorem own_d_jdk_68_22_25 : decode jdk_68_method_22_code 25 = .ok (.aload_n 0, 1) := by decide +kernel
theorem own_d_jdk_68_22_26 : decode jdk_68_method_22_code 26 = .ok (.getfield 79, 3) := by decide +kernel
theorem own_d_jdk_68_22_29 : decode jdk_68_method_22_code 29 = .ok (.aload_n 1, 1) := by decide +kernel
theorem own_d_jdk_68_22_30 : decode jdk_68_method_22_code 30 = .ok (.invokevirtual 208, 3) := by decide +kernel
theorem own_pd9 : parseMethodDescriptor "(ILjava/lang/String;)V" = some ⟨[.int, (.object "java/lang/String")], none⟩ := by decide +kernel
theorem own_d_jdk_68_22_33 : decode jdk_68_method_22_code 33 = .ok (.aload_n 0, 1) := by decide +kernel
theorem own_d_jdk_68_22_34 : decode jdk_68_method_22_code 34 = .ok (.dup, 1) := by decide +kernel
theorem own_d_jdk_68_22_35 : decode jdk_68_method_22_code 35 = .ok (.getfield 79, 3) := by decide +kernel
theorem own_d_jdk_68_22_38 : decode jdk_68_method_22_code 38 = .ok (.iload_n 2, 1) := by decide +kernel
theorem own_d_jdk_68_22_39 : decode jdk_68_method_22_code 39 = .ok (.iadd, 1) := by decide +kernel
theorem own_d_jdk_68_22_40 : decode jdk_68_method_22_code 40 = .ok (.putfield 79, 3) := by decide +kernel
theorem own_d_jdk_68_22_43 : decode jdk_68_method_22_code 43 = .ok (.aload_n 0, 1) := by decide +kernel
theorem own_d_jdk_68_22_44 : decode jdk_68_method_22_code 44 = .ok (.areturn, 1) := by decide +kernel
def own_Q_own_aapp (Z : State) (ob rr : Addr) (xk : Int32) (bs : List Int8) (sx bx : Addr) (us : List Int8) (zc : Int32) (h0 : Heap) (n0 : Nat) (v : Option Value) (h : Heap) (L : List Loc) : Prop := ∃ xj, v = some (.ref ob) ∧ Fr n0 L ∧ own_SB Z h n0 ob rr xj (bs ++ us) ∧ Keep h0 h [ob, rr]
set_option maxRecDepth 65536 in
set_option maxHeartbeats 40000000 in
theorem own_aapp (l : Launch) (Z : State) (a0 : Array Value) (hw : ∀ d ∈ tables_1, d.before a0 Z = true) (ws : List Jvm.Cond) (ob rr : Addr) (xk : Int32) (bs : List Int8) (sx bx : Addr) (us : List Int8) (zc : Int32) (h0 : Heap) (n0 : Nat) (Z0 : n0 ≤ h0.size) (fb : own_SB Z h0 n0 ob rr xk bs) (fs : own_Sl Z h0 sx bx us) (hl : bs.length + us.length ≤ 16) (cs : Sta Z h0 "java/lang/String" "COMPACT_STRINGS" "Z" (.int zc)) (hzc : ¬ zc = 0) :
    MetFree l (⟨"java/lang/AbstractStringBuilder", "append", "(Ljava/lang/String;)Ljava/lang/AbstractStringBuilder;"⟩ : MethodName) (head1 (Jvm.Cond.code (⟨"java/lang/AbstractStringBuilder", "append", "(Ljava/lang/String;)Ljava/lang/AbstractStringBuilder;"⟩ : MethodName) jdk_68_method_22_code 3 (some (.object "java/lang/AbstractStringBuilder")) :: ws) ({ frames := 3, cells := 0, slots := 0, locals := 47 } : Room)) (fun av_ U => av_ = #[(.ref ob), (.ref sx)] ∧ Z.Warmed39 U.vm ∧ U.heap = h0) (fun _ _ _ _ _ => True) (fun _ U o U' => ∃ v L, o = .returned v ∧ own_Q_own_aapp Z ob rr xk bs sx bx us zc h0 n0 v U'.heap L ∧ FrameEnd U o U' L ({ frames := 3, cells := 0, slots := 0, locals := 47 } : Room).cells ({ frames := 3, cells := 0, slots := 0, locals := 47 } : Room).slots) := by
  refine MetFree.of_bodySF (plainFor_of_name own_pn2) hisR ?_
  intro p e s m args below meth c s₁ Bd hml0 hP hK
  obtain ⟨rfl, hZ, hh⟩ := hP
  have hx := Bd.exec
  have hby := Bd.bytes
  have hml : c.maxLocals = 3 := hml0
  have hown : s.vm.findClass "java/lang/AbstractStringBuilder" = some m.cls := findClass_of_methodNamed Bd.named
  have hnm := (name_of_methodNamed Bd.named Bd.method).1
  have X0 : Stand p l e ({ frames := 3, cells := 0, slots := 0, locals := 47 } : Room) s m #[(.ref ob), (.ref sx)] below meth c s₁ [] 0 0 := Stand.of_body Bd
  have e0 : s₁.heap = h0 := by rw [← hh, Bd.state]; rfl
  have N0 := Fr.nil n0
  suffices hgo : own_Go p e below (fun o U' => ∃ v L, o = .returned v ∧ own_Q_own_aapp Z ob rr xk bs sx bx us zc h0 n0 v U'.heap L ∧ FrameEnd s o U' L ({ frames := 3, cells := 0, slots := 0, locals := 47 } : Room).cells ({ frames := 3, cells := 0, slots := 0, locals := 47 } : Room).slots) (s₁.setTop (mkF m 0 #[.val (.ref ob), .val (.ref sx), .unset] [])) by
    obtain ⟨s₂, o, h1, h2, h3, h4⟩ := hgo
    exact ⟨s₂, o, castTop (own_ef14 m ob sx) h1, h2, h3, h4⟩
  have kk0 : Keep h0 h0 [ob, rr] := Keep.refl _ _
  show own_Go p e below _ (s₁.setTop (mkF m 0 #[.val (.ref ob), .val (.ref sx), .unset] []))
  have hun : (Nat.toInt32 us.length).toInt = ((us.length : Nat) : Int) := len_toInt (by omega)
  refine own_Go.st (fun _ kt => XS.aloadN X0.here hx rfl (hb hby own_d_jdk_68_22_0) rfl rfl kt) ?_
  show own_Go p e below _ (s₁.setTop (mkF m 1 #[.val (.ref ob), .val (.ref sx), .unset] [(.ref sx)]))
  refine own_Go.st (fun _ kt => XS.ifnonnullYes X0.here hx rfl (pc0 := 1) (pc' := 9) rfl (hb hby own_d_jdk_68_22_1) rfl (by decide) (by decide) kt) ?_
  show own_Go p e below _ (s₁.setTop (mkF m 9 #[.val (.ref ob), .val (.ref sx), .unset] []))
  refine own_Go.st (fun _ kt => XS.aloadN X0.here hx rfl (hb hby own_d_jdk_68_22_9) rfl rfl kt) ?_
  show own_Go p e below _ (s₁.setTop (mkF m 10 #[.val (.ref ob), .val (.ref sx), .unset] [(.ref sx)]))
  obtain ⟨cq1, kq1, q1a, q1b, q1c⟩ := isOf hZ e0 fs.1
  obtain ⟨_, _, ⟨T1, L1, k1, n1⟩, -, X1, ⟨Lc1, hQ1, l1, y1, z1⟩, st1⟩ := X0.virtualBack hx (y := (⟨"java/lang/String", "length", "()I"⟩ : MethodName)) (z := (⟨"java/lang/String", "length", "()I"⟩ : MethodName)) hown (mvT hZ (own_w hw 54 rfl)) (mvT hZ (own_w hw 55 rfl)) (notFace_of_selects (args := #[]) (mvT hZ (own_w hw 57 rfl))) (mvT hZ (own_w hw 57 rfl)) (mvT hZ (own_w hw 56 rfl)) (by decide) (backOf (W := 0) (own_slen l Z a0 hw [] sx bx (Nat.toInt32 us.length) us zc h0 n0 Z0 fs hun cs hzc) hZ (own_w hw 58 rfl) (own_w hw 3 rfl) (by decide) (by decide)) q1a q1c (g := (mkF m 10 #[.val (.ref ob), .val (.ref sx), .unset] [(.ref sx)])) rfl (by rw [hml]; rfl) (Steps.refl _) (argsL := []) (rest := []) (lenOf own_pd7 rfl) rfl (by show 2 * 0 + _ ≤ _; exact Nat.le_of_eq rfl) (hb hby own_d_jdk_68_22_10) (fun _ _ => ⟨rfl, e0, (by decide : 0 + 0 ≤ _), (by decide : 0 + 0 ≤ _)⟩)
  dsimp only [Pt.U, Pt.locs, Pt.cells, Pt.slots] at X1 l1 y1 z1 st1 hQ1
  subst l1 y1 z1
  obtain ⟨rfl, N1q, hh1⟩ := hQ1
  have N1 := Fr.app N0 N1q
  refine own_Go.st (fun _ kt => st1.trans kt) ?_
  show own_Go p e below _ (T1.setTop (mkF m 13 #[.val (.ref ob), .val (.ref sx), .unset] [(.int (Nat.toInt32 us.length))]))
  refine own_Go.st (fun _ kt => XS.istoreN X1.here hx rfl (hb hby own_d_jdk_68_22_13) rfl (l' := #[.val (.ref ob), .val (.ref sx), .val (.int (Nat.toInt32 us.length))]) rfl kt) ?_
  show own_Go p e below _ (T1.setTop (mkF m 14 #[.val (.ref ob), .val (.ref sx), .val (.int (Nat.toInt32 us.length))] []))
  refine own_Go.st (fun _ kt => XS.aloadN X1.here hx rfl (hb hby own_d_jdk_68_22_14) rfl rfl kt) ?_
  show own_Go p e below _ (T1.setTop (mkF m 15 #[.val (.ref ob), .val (.ref sx), .val (.int (Nat.toInt32 us.length))] [(.ref ob)]))
  refine own_Go.st (fun _ kt => XS.aloadN X1.here hx rfl (hb hby own_d_jdk_68_22_15) rfl rfl kt) ?_
  show own_Go p e below _ (T1.setTop (mkF m 16 #[.val (.ref ob), .val (.ref sx), .val (.int (Nat.toInt32 us.length))] [(.ref ob), (.ref ob)]))
  obtain ⟨T2, X2, e2, st2⟩ := getF X1 hx hZ hown (host := "") (Or.inl (own_w hw 65 rfl)) Via.refl hh1 fb.2.2.2.1 (g := (mkF m 16 #[.val (.ref ob), .val (.ref sx), .val (.int (Nat.toInt32 us.length))] [(.ref ob), (.ref ob)])) rfl rfl (hb hby own_d_jdk_68_22_16)
  refine own_Go.st st2 ?_
  show own_Go p e below _ (T2.setTop (mkF m 19 #[.val (.ref ob), .val (.ref sx), .val (.int (Nat.toInt32 us.length))] [(.int xk), (.ref ob)]))
  refine own_Go.st (fun _ kt => XS.iloadN X2.here hx rfl (hb hby own_d_jdk_68_22_19) rfl kt) ?_
  show own_Go p e below _ (T2.setTop (mkF m 20 #[.val (.ref ob), .val (.ref sx), .val (.int (Nat.toInt32 us.length))] [(.int (Nat.toInt32 us.length)), (.int xk), (.ref ob)]))
  refine own_Go.st (fun _ kt => XS.iadd X2.here hx rfl (hb hby own_d_jdk_68_22_20) rfl kt) ?_
  show own_Go p e below _ (T2.setTop (mkF m 21 #[.val (.ref ob), .val (.ref sx), .val (.int (Nat.toInt32 us.length))] [(.int (xk + (Nat.toInt32 us.length))), (.ref ob)]))
  have hsum := own_addn fb.2.2.2.2.2.1 hun (by omega)
  obtain ⟨cq3, q3, q3'⟩ := Exa.cell fb.1
  obtain ⟨_, _, ⟨T3, L3, k3, n3⟩, -, X3, ⟨Lc3, hQ3, l3, y3, z3⟩, st3⟩ := X2.privateBack hx (y := (⟨"java/lang/AbstractStringBuilder", "ensureCapacityInternal", "(I)V"⟩ : MethodName)) hown (mvT hZ (own_w hw 67 rfl)) (mvT hZ (own_w hw 68 rfl)) (own_selp hZ (own_w hw 70 rfl) rfl (own_w hw 68 rfl) (own_w hw 69 rfl) (by decide)) (Cond.privateMethod_at (mvP hZ (own_w hw 69 rfl) (args := #[]))) (mvT hZ (own_w hw 71 rfl)) (by decide) (backOf (W := 0) (own_eci l Z a0 hw [] ob rr xk bs (xk + (Nat.toInt32 us.length)) (bs.length + us.length) h0 n0 Z0 fb hsum hl) hZ (own_w hw 71 rfl) (own_w hw 36 rfl) (by decide) (by decide)) (g := (mkF m 21 #[.val (.ref ob), .val (.ref sx), .val (.int (Nat.toInt32 us.length))] [(.int (xk + (Nat.toInt32 us.length))), (.ref ob)])) rfl (by rw [hml]; rfl) (Steps.refl _) (a := ob) (by rw [e2]; exact q3) q3' (argsL := [(.int (xk + (Nat.toInt32 us.length)))]) (rest := []) (lenOf own_pd8 rfl) rfl (by show 2 * 0 + _ ≤ _; exact Nat.le_of_eq rfl) (hb hby own_d_jdk_68_22_21) (fun _ _ => ⟨rfl, e2, (by decide : 0 + 0 ≤ _), (by decide : 0 + 0 ≤ _)⟩)
  dsimp only [Pt.U, Pt.locs, Pt.cells, Pt.slots] at X3 l3 y3 z3 st3 hQ3
  subst l3 y3 z3
  obtain ⟨rfl, N3q, hh3⟩ := hQ3
  have N3 := Fr.app N1 N3q
  refine own_Go.st (fun _ kt => st3.trans kt) ?_
  show own_Go p e below _ (T3.setTop (mkF m 24 #[.val (.ref ob), .val (.ref sx), .val (.int (Nat.toInt32 us.length))] []))
  refine own_Go.st (fun _ kt => XS.aloadN X3.here hx rfl (hb hby own_d_jdk_68_22_24) rfl rfl kt) ?_
  show own_Go p e below _ (T3.setTop (mkF m 25 #[.val (.ref ob), .val (.ref sx), .val (.int (Nat.toInt32 us.length))] [(.ref ob)]))
  refine own_Go.st (fun _ kt => XS.aloadN X3.here hx rfl (hb hby own_d_jdk_68_22_25) rfl rfl kt) ?_
  show own_Go p e below _ (T3.setTop (mkF m 26 #[.val (.ref ob), .val (.ref sx), .val (.int (Nat.toInt32 us.length))] [(.ref ob), (.ref ob)]))
  obtain ⟨T4, X4, e4, st4⟩ := getF X3 hx hZ hown (host := "") (Or.inl (own_w hw 65 rfl)) Via.refl hh3 fb.2.2.2.1 (g := (mkF m 26 #[.val (.ref ob), .val (.ref sx), .val (.int (Nat.toInt32 us.length))] [(.ref ob), (.ref ob)])) rfl rfl (hb hby own_d_jdk_68_22_26)
  refine own_Go.st st4 ?_
  show own_Go p e below _ (T4.setTop (mkF m 29 #[.val (.ref ob), .val (.ref sx), .val (.int (Nat.toInt32 us.length))] [(.int xk), (.ref ob)]))
  refine own_Go.st (fun _ kt => XS.aloadN X4.here hx rfl (hb hby own_d_jdk_68_22_29) rfl rfl kt) ?_
  show own_Go p e below _ (T4.setTop (mkF m 30 #[.val (.ref ob), .val (.ref sx), .val (.int (Nat.toInt32 us.length))] [(.ref sx), (.int xk), (.ref ob)]))
  obtain ⟨cq5, q5, q5'⟩ := Exa.cell fb.1
  obtain ⟨_, _, ⟨T5, L5, k5, n5⟩, -, X5, ⟨Lc5, hQ5, l5, y5, z5⟩, st5⟩ := X4.privateBack hx (y := (⟨"java/lang/AbstractStringBuilder", "putStringAt", "(ILjava/lang/String;)V"⟩ : MethodName)) hown (mvT hZ (own_w hw 72 rfl)) (mvT hZ (own_w hw 73 rfl)) (own_selp hZ (own_w hw 70 rfl) rfl (own_w hw 73 rfl) (own_w hw 74 rfl) (by decide)) (Cond.privateMethod_at (mvP hZ (own_w hw 74 rfl) (args := #[]))) (mvT hZ (own_w hw 76 rfl)) (by decide) (backOf (W := 0) (own_psa l Z a0 hw [] ob rr xk bs sx bx us zc h0 n0 Z0 fb fs hl cs hzc) hZ (own_w hw 76 rfl) (own_w hw 36 rfl) (by decide) (by decide)) (g := (mkF m 30 #[.val (.ref ob), .val (.ref sx), .val (.int (Nat.toInt32 us.length))] [(.ref sx), (.int xk), (.ref ob)])) rfl (by rw [hml]; rfl) (Steps.refl _) (a := ob) (by rw [e4]; exact q5) q5' (argsL := [(.int xk), (.ref sx)]) (rest := []) (lenOf own_pd9 rfl) rfl (by show 2 * 0 + _ ≤ _; exact Nat.le_of_eq rfl) (hb hby own_d_jdk_68_22_30) (fun _ _ => ⟨rfl, e4, (by decide : 0 + 0 ≤ _), (by decide : 0 + 0 ≤ _)⟩)
  dsimp only [Pt.U, Pt.locs, Pt.cells, Pt.slots] at X5 l5 y5 z5 st5 hQ5
  subst l5 y5 z5
  obtain ⟨rfl, N5q, ab5, KF5⟩ := hQ5
  have N5 := Fr.app N3 N5q
  refine own_Go.st (fun _ kt => st5.trans kt) ?_
  have zz6 : n0 ≤ Array.size T5.heap := Nat.le_trans Z0 KF5.1
  have kk6 : Keep h0 T5.heap [ob, rr] := kk0.trans KF5 (allS (P := fun x => x ∈ [ob, rr] ∨ _) (Or.inl (List.mem_of_getElem? (i := 1) rfl)) all0)
  show own_Go p e below _ (T5.setTop (mkF m 33 #[.val (.ref ob), .val (.ref sx), .val (.int (Nat.toInt32 us.length))] []))
  refine own_Go.st (fun _ kt => XS.aloadN X5.here hx rfl (hb hby own_d_jdk_68_22_33) rfl rfl kt) ?_
  show own_Go p e below _ (T5.setTop (mkF m 34 #[.val (.ref ob), .val (.ref sx), .val (.int (Nat.toInt32 us.length))] [(.ref ob)]))
  refine own_Go.st (fun _ kt => XS.dup X5.here hx rfl (hb hby own_d_jdk_68_22_34) rfl rfl kt) ?_
  show own_Go p e below _ (T5.setTop (mkF m 35 #[.val (.ref ob), .val (.ref sx), .val (.int (Nat.toInt32 us.length))] [(.ref ob), (.ref ob)]))
  have f7 := (fb.2.2.2.1.keep KF5 (ninS fb.2.2.2.2.2.2.1 nin0))
  obtain ⟨T8, X8, e8, st8⟩ := getF X5 hx hZ hown (host := "") (Or.inl (own_w hw 65 rfl)) Via.refl rfl f7 (g := (mkF m 35 #[.val (.ref ob), .val (.ref sx), .val (.int (Nat.toInt32 us.length))] [(.ref ob), (.ref ob)])) rfl rfl (hb hby own_d_jdk_68_22_35)
  refine own_Go.st st8 ?_
  show own_Go p e below _ (T8.setTop (mkF m 38 #[.val (.ref ob), .val (.ref sx), .val (.int (Nat.toInt32 us.length))] [(.int xk), (.ref ob)]))
  refine own_Go.st (fun _ kt => XS.iloadN X8.here hx rfl (hb hby own_d_jdk_68_22_38) rfl kt) ?_
  show own_Go p e below _ (T8.setTop (mkF m 39 #[.val (.ref ob), .val (.ref sx), .val (.int (Nat.toInt32 us.length))] [(.int (Nat.toInt32 us.length)), (.int xk), (.ref ob)]))
  refine own_Go.st (fun _ kt => XS.iadd X8.here hx rfl (hb hby own_d_jdk_68_22_39) rfl kt) ?_
  show own_Go p e below _ (T8.setTop (mkF m 40 #[.val (.ref ob), .val (.ref sx), .val (.int (Nat.toInt32 us.length))] [(.int (xk + (Nat.toInt32 us.length))), (.ref ob)]))
  have f9 := (fb.1.keep KF5)
  obtain ⟨T10, h10, X10, e10, W10, st10⟩ := putF X8 hx hZ hown (host := "") (Or.inl (own_w hw 65 rfl)) Via.refl e8 f7 f9 (Or.inl (own_w hw 66 rfl)) (own_w hw 27 rfl) (ty := .int) (by decide) rfl rfl (g := (mkF m 40 #[.val (.ref ob), .val (.ref sx), .val (.int (Nat.toInt32 us.length))] [(.int (xk + (Nat.toInt32 us.length))), (.ref ob)])) rfl rfl (hb hby own_d_jdk_68_22_40)
  refine own_Go.st st10 ?_
  have N10 := Fr.snoc X10 N5 fb.2.2.2.2.2.2.2.1
  have f10_count := Fld.same W10 f7
  have zz11 : n0 ≤ Array.size h10 := Nat.le_trans zz6 (Nat.le_of_eq (Wr.size W10).symm)
  have kk11 : Keep h0 h10 [ob, rr] := kk6.wr W10 (Or.inl (List.mem_of_getElem? (i := 0) rfl))
  show own_Go p e below _ (T10.setTop (mkF m 43 #[.val (.ref ob), .val (.ref sx), .val (.int (Nat.toInt32 us.length))] []))
  refine own_Go.st (fun _ kt => XS.aloadN X10.here hx rfl (hb hby own_d_jdk_68_22_43) rfl rfl kt) ?_
  show own_Go p e below _ (T10.setTop (mkF m 44 #[.val (.ref ob), .val (.ref sx), .val (.int (Nat.toInt32 us.length))] [(.ref ob)]))
  have f12 := (f9.wr W10)
  have f13 := ((fb.2.1.keep KF5 (ninS fb.2.2.2.2.2.2.1 nin0)).other W10 (Or.inr (slot_ne (Or.inl (own_w hw 41 rfl)) (Or.inl (own_w hw 66 rfl)) (by decide) (t := (.array .byte)) (t' := .int) (by decide) (by decide))))
  have f14 := ((fb.2.2.1.keep KF5 (ninS fb.2.2.2.2.2.2.1 nin0)).other W10 (Or.inr (slot_ne (Or.inl (own_w hw 43 rfl)) (Or.inl (own_w hw 66 rfl)) (by decide) (t := .byte) (t' := .int) (by decide) (by decide))))
  have f15 := (ab5.other W10 (Ne.symm fb.2.2.2.2.2.2.1))
  have fin : own_SB Z h10 n0 ob rr (xk + (Nat.toInt32 us.length)) (bs ++ us) := ⟨f12, f13, f14, f10_count, f15, by rw [List.length_append]; exact hsum, fb.2.2.2.2.2.2.1, fb.2.2.2.2.2.2.2.1, fb.2.2.2.2.2.2.2.2⟩
  have kk := kk11
  rw [← e10] at fin kk
  exact own_retA X10 hx Bd.notSynchronized Bd.returns rfl rfl (hb hby own_d_jdk_68_22_44) (by decide) (by decide) ⟨_, rfl, N10, fin, kk⟩
theorem own_pn3 : plainName "java/lang/StringBuilder" = true := by first | (simp [plainName, overriddenIn]; done) | decide +kernel
theorem own_ef15 (m : MethodId) (x0 : Addr) (x1 : Addr) : entryFrame m #[(.ref x0), (.ref x1)] 2 = mkF m 0 #[.val (.ref x0), .val (.ref x1)] [] := by first | (simp [entryFrame, mkF, argsToLocals, Value.category]; done) | rfl
theorem own_d_jdk_67_7_0 : decode jdk_67_method_7_code 0 = .ok (.aload_n 0, 1) := by decide +kernel
theorem own_d_jdk_67_7_1 : decode jdk_67_method_7_code 1 = .ok (.aload_n 1, 1) := by decide +kernel
theorem own_d_jdk_67_7_2 : decode jdk_67_method_7_code 2 = .ok (.invokespecial 29, 3) := by decide +kernel
theorem own_pd10 : parseMethodDescriptor "(Ljava/lang/String;)Ljava/lang/AbstractStringBuilder;" = some ⟨[(.object "java/lang/String")], some (.object "java/lang/AbstractStringBuilder")⟩ := by decide +kernel
theorem own_d_jdk_67_7_5 : decode jdk_67_method_7_code 5 = .ok (.pop, 1) := by decide +kernel
theorem own_d_jdk_67_7_6 : decode jdk_67_method_7_code 6 = .ok (.aload_n 0, 1) := by decide +kernel
theorem own_d_jdk_67_7_7 : decode jdk_67_method_7_code 7 = .ok (.areturn, 1) := by decide +kernel
def own_Q_own_app (Z : State) (ob rr : Addr) (xk : Int32) (bs : List Int8) (sx bx : Addr) (us : List Int8) (zc : Int32) (h0 : Heap) (n0 : Nat) (v : Option Value) (h : Heap) (L : List Loc) : Prop := ∃ xj, v = some (.ref ob) ∧ Fr n0 L ∧ own_SB Z h n0 ob rr xj (bs ++ us) ∧ Keep h0 h [ob, rr]
set_option maxRecDepth 65536 in
set_option maxHeartbeats 40000000 in
theorem own_app (l : Launch) (Z : State) (a0 : Array Value) (hw : ∀ d ∈ tables_1, d.before a0 Z = true) (ws : List Jvm.Cond) (ob rr : Addr) (xk : Int32) (bs : List Int8) (sx bx : Addr) (us : List Int8) (zc : Int32) (h0 : Heap) (n0 : Nat) (Z0 : n0 ≤ h0.size) (fb : own_SB Z h0 n0 ob rr xk bs) (fs : own_Sl Z h0 sx bx us) (hl : bs.length + us.length ≤ 16) (cs : Sta Z h0 "java/lang/String" "COMPACT_STRINGS" "Z" (.int zc)) (hzc : ¬ zc = 0) :
    MetFree l (⟨"java/lang/StringBuilder", "append", "(Ljava/lang/String;)Ljava/lang/StringBuilder;"⟩ : MethodName) (head1 (Jvm.Cond.code (⟨"java/lang/StringBuilder", "append", "(Ljava/lang/String;)Ljava/lang/StringBuilder;"⟩ : MethodName) jdk_67_method_7_code 2 (some (.object "java/lang/StringBuilder")) :: ws) ({ frames := 4, cells := 0, slots := 0, locals := 61 } : Room)) (fun av_ U => av_ = #[(.ref ob), (.ref sx)] ∧ Z.Warmed39 U.vm ∧ U.heap = h0) (fun _ _ _ _ _ => True) (fun _ U o U' => ∃ v L, o = .returned v ∧ own_Q_own_app Z ob rr xk bs sx bx us zc h0 n0 v U'.heap L ∧ FrameEnd U o U' L ({ frames := 4, cells := 0, slots := 0, locals := 61 } : Room).cells ({ frames := 4, cells := 0, slots := 0, locals := 61 } : Room).slots) := by
  refine MetFree.of_bodySF (plainFor_of_name own_pn3) hisR ?_
  intro p e s m args below meth c s₁ Bd hml0 hP hK
  obtain ⟨rfl, hZ, hh⟩ := hP
  have hx := Bd.exec
  have hby := Bd.bytes
  have hml : c.maxLocals = 2 := hml0
  have hown : s.vm.findClass "java/lang/StringBuilder" = some m.cls := findClass_of_methodNamed Bd.named
  have hnm := (name_of_methodNamed Bd.named Bd.method).1
  have X0 : Stand p l e ({ frames := 4, cells := 0, slots := 0, locals := 61 } : Room) s m #[(.ref ob), (.ref sx)] below meth c s₁ [] 0 0 := Stand.of_body Bd
  have e0 : s₁.heap = h0 := by rw [← hh, Bd.state]; rfl
  have N0 := Fr.nil n0
  suffices hgo : own_Go p e below (fun o U' => ∃ v L, o = .returned v ∧ own_Q_own_app Z ob rr xk bs sx bx us zc h0 n0 v U'.heap L ∧ FrameEnd s o U' L ({ frames := 4, cells := 0, slots := 0, locals := 61 } : Room).cells ({ frames := 4, cells := 0, slots := 0, locals := 61 } : Room).slots) (s₁.setTop (mkF m 0 #[.val (.ref ob), .val (.ref sx)] [])) by
    obtain ⟨s₂, o, h1, h2, h3, h4⟩ := hgo
    exact ⟨s₂, o, castTop (own_ef15 m ob sx) h1, h2, h3, h4⟩
  have kk0 : Keep h0 h0 [ob, rr] := Keep.refl _ _
  show own_Go p e below _ (s₁.setTop (mkF m 0 #[.val (.ref ob), .val (.ref sx)] []))
  refine own_Go.st (fun _ kt => XS.aloadN X0.here hx rfl (hb hby own_d_jdk_67_7_0) rfl rfl kt) ?_
  show own_Go p e below _ (s₁.setTop (mkF m 1 #[.val (.ref ob), .val (.ref sx)] [(.ref ob)]))
  refine own_Go.st (fun _ kt => XS.aloadN X0.here hx rfl (hb hby own_d_jdk_67_7_1) rfl rfl kt) ?_
  show own_Go p e below _ (s₁.setTop (mkF m 2 #[.val (.ref ob), .val (.ref sx)] [(.ref sx), (.ref ob)]))
  obtain ⟨_, _, ⟨T1, L1, k1, n1⟩, -, X1, ⟨Lc1, hQ1, l1, y1, z1⟩, st1⟩ := superBack X0 hx hZ hown (own_w hw 49 rfl) (own_sameM (own_w hw 50 rfl) (own_w hw 70 rfl) rfl (by decide)) (own_w hw 50 rfl) (own_w hw 51 rfl) (by decide) (backOf (W := 0) (own_aapp l Z a0 hw [] ob rr xk bs sx bx us zc h0 n0 Z0 fb fs hl cs hzc) hZ (own_w hw 53 rfl) (own_w hw 36 rfl) (by decide) (by decide)) e0 (Ins.self fb.1) (g := (mkF m 2 #[.val (.ref ob), .val (.ref sx)] [(.ref sx), (.ref ob)])) rfl (by rw [hml]; rfl) (own_w hw 53 rfl) (argsL := [(.ref sx)]) (rest := []) (lenOf own_pd10 rfl) rfl (by show 2 * 0 + _ ≤ _; exact Nat.le_of_eq rfl) (hb hby own_d_jdk_67_7_2) (fun _ _ => ⟨rfl, e0, (by decide : 0 + 0 ≤ _), (by decide : 0 + 0 ≤ _)⟩)
  dsimp only [Pt.U, Pt.locs, Pt.cells, Pt.slots] at X1 l1 y1 z1 st1 hQ1
  subst l1 y1 z1
  obtain ⟨xj, rfl, N1q, sb1, KF1⟩ := hQ1
  have N1 := Fr.app N0 N1q
  refine own_Go.st (fun _ kt => st1.trans kt) ?_
  have zz2 : n0 ≤ Array.size T1.heap := Nat.le_trans Z0 KF1.1
  have kk2 : Keep h0 T1.heap [ob, rr] := kk0.trans KF1 (allS (P := fun x => x ∈ [ob, rr] ∨ _) (Or.inl (List.mem_of_getElem? (i := 0) rfl)) (allS (P := fun x => x ∈ [ob, rr] ∨ _) (Or.inl (List.mem_of_getElem? (i := 1) rfl)) all0))
  show own_Go p e below _ (T1.setTop (mkF m 5 #[.val (.ref ob), .val (.ref sx)] [(.ref ob)]))
  refine own_Go.st (fun _ kt => XS.pop X1.here hx rfl (hb hby own_d_jdk_67_7_5) rfl rfl kt) ?_
  show own_Go p e below _ (T1.setTop (mkF m 6 #[.val (.ref ob), .val (.ref sx)] []))
  refine own_Go.st (fun _ kt => XS.aloadN X1.here hx rfl (hb hby own_d_jdk_67_7_6) rfl rfl kt) ?_
  show own_Go p e below _ (T1.setTop (mkF m 7 #[.val (.ref ob), .val (.ref sx)] [(.ref ob)]))
  have kk := kk2
  exact own_retA X1 hx Bd.notSynchronized Bd.returns rfl rfl (hb hby own_d_jdk_67_7_7) (by decide) (by decide) ⟨_, rfl, N1, sb1, kk⟩
theorem own_ef16 (m : MethodId) (x0 : Addr) (x1 : Int32) : entryFrame m #[(.ref x0), (.int x1)] 2 = mkF m 0 #[.val (.ref x0), .val (.int x1)] [] := by first | (simp [entryFrame, mkF, argsToLocals, Value.category]; done) | rfl
theorem own_d_jdk_68_2_0 : decode jdk_68_method_2_code 0 = .ok (.aload_n 0, 1) := by decide +kernel
theorem own_d_jdk_68_2_1 : decode jdk_68_method_2_code 1 = .ok (.invokespecial 3, 3) := by decide +kernel
theorem own_d_jdk_68_2_4 : decode jdk_68_method_2_code 4 = .ok (.getstatic 18, 3) := by decide +kernel
theorem own_d_jdk_68_2_7 : decode jdk_68_method_2_code 7 = .ok (.ifCond .eq 18, 3) := by decide +kernel
theorem own_d_jdk_68_2_10 : decode jdk_68_method_2_code 10 = .ok (.aload_n 0, 1) := by decide +kernel
theorem own_d_jdk_68_2_11 : decode jdk_68_method_2_code 11 = .ok (.iload_n 1, 1) := by decide +kernel
theorem own_d_jdk_68_2_12 : decode jdk_68_method_2_code 12 = .ok (.newarray .byte, 2) := by decide +kernel
theorem own_d_jdk_68_2_14 : decode jdk_68_method_2_code 14 = .ok (.putfield 15, 3) := by decide +kernel
theorem own_d_jdk_68_2_17 : decode jdk_68_method_2_code 17 = .ok (.aload_n 0, 1) := by decide +kernel
theorem own_d_jdk_68_2_18 : decode jdk_68_method_2_code 18 = .ok (.iconst 0, 1) := by decide +kernel
theorem own_d_jdk_68_2_19 : decode jdk_68_method_2_code 19 = .ok (.putfield 22, 3) := by decide +kernel
theorem own_d_jdk_68_2_22 : decode jdk_68_method_2_code 22 = .ok (.goto 16, 3) := by decide +kernel
theorem own_d_jdk_68_2_38 : decode jdk_68_method_2_code 38 = .ok (.return_, 1) := by decide +kernel
def own_Q_own_ainit (Z : State) (ob : Addr) (zc : Int32) (h0 : Heap) (n0 : Nat) (v : Option Value) (h : Heap) (L : List Loc) : Prop := ∃ rr, v = none ∧ Fr n0 L ∧ own_SB Z h n0 ob rr 0 [] ∧ Array.size h0 ≤ rr ∧ Keep h0 h [ob]
set_option maxRecDepth 65536 in
set_option maxHeartbeats 40000000 in
theorem own_ainit (l : Launch) (Z : State) (a0 : Array Value) (hw : ∀ d ∈ tables_1, d.before a0 Z = true) (ws : List Jvm.Cond) (ob : Addr) (zc : Int32) (h0 : Heap) (n0 : Nat) (Z0 : n0 ≤ h0.size) (fE : Exa Z h0 ob "java/lang/StringBuilder") (fV : (Fld Z h0 ob "java/lang/AbstractStringBuilder" "value" "[B" .null)) (fC : (Fld Z h0 ob "java/lang/AbstractStringBuilder" "coder" "B" (.int 0))) (fN : (Fld Z h0 ob "java/lang/AbstractStringBuilder" "count" "I" (.int 0))) (go : n0 ≤ ob) (cs : Sta Z h0 "java/lang/String" "COMPACT_STRINGS" "Z" (.int zc)) (hzc : ¬ zc = 0) :
    MetFree l (⟨"java/lang/AbstractStringBuilder", "<init>", "(I)V"⟩ : MethodName) (head1 (Jvm.Cond.code (⟨"java/lang/AbstractStringBuilder", "<init>", "(I)V"⟩ : MethodName) jdk_68_method_2_code 2 none :: ws) ({ frames := 1, cells := 1, slots := 16, locals := 12 } : Room)) (fun av_ U => av_ = #[(.ref ob), (.int (16 : Int32))] ∧ Z.Warmed39 U.vm ∧ U.heap = h0) (fun _ _ _ _ _ => True) (fun _ U o U' => ∃ v L, o = .returned v ∧ own_Q_own_ainit Z ob zc h0 n0 v U'.heap L ∧ FrameEnd U o U' L ({ frames := 1, cells := 1, slots := 16, locals := 12 } : Room).cells ({ frames := 1, cells := 1, slots := 16, locals := 12 } : Room).slots) := by
  refine MetFree.of_bodySF (plainFor_of_name own_pn2) hisR ?_
  intro p e s m args below meth c s₁ Bd hml0 hP hK
  obtain ⟨rfl, hZ, hh⟩ := hP
  have hx := Bd.exec
  have hby := Bd.bytes
  have hml : c.maxLocals = 2 := hml0
  have hown : s.vm.findClass "java/lang/AbstractStringBuilder" = some m.cls := findClass_of_methodNamed Bd.named
  have hnm := (name_of_methodNamed Bd.named Bd.method).1
  have X0 : Stand p l e ({ frames := 1, cells := 1, slots := 16, locals := 12 } : Room) s m #[(.ref ob), (.int (16 : Int32))] below meth c s₁ [] 0 0 := Stand.of_body Bd
  have e0 : s₁.heap = h0 := by rw [← hh, Bd.state]; rfl
  have N0 := Fr.nil n0
  suffices hgo : own_Go p e below (fun o U' => ∃ v L, o = .returned v ∧ own_Q_own_ainit Z ob zc h0 n0 v U'.heap L ∧ FrameEnd s o U' L ({ frames := 1, cells := 1, slots := 16, locals := 12 } : Room).cells ({ frames := 1, cells := 1, slots := 16, locals := 12 } : Room).slots) (s₁.setTop (mkF m 0 #[.val (.ref ob), .val (.int (16 : Int32))] [])) by
    obtain ⟨s₂, o, h1, h2, h3, h4⟩ := hgo
    exact ⟨s₂, o, castTop (own_ef16 m ob (16 : Int32)) h1, h2, h3, h4⟩
  have kk0 : Keep h0 h0 [ob] := Keep.refl _ _
  show own_Go p e below _ (s₁.setTop (mkF m 0 #[.val (.ref ob), .val (.int (16 : Int32))] []))
  refine own_Go.st (fun _ kt => XS.aloadN X0.here hx rfl (hb hby own_d_jdk_68_2_0) rfl rfl kt) ?_
  show own_Go p e below _ (s₁.setTop (mkF m 1 #[.val (.ref ob), .val (.int (16 : Int32))] [(.ref ob)]))
  obtain ⟨T1, X1, e1, st1⟩ := initO X0 hx hZ hown (own_w hw 38 rfl) (own_w hw 12 rfl) (own_w hw 13 rfl) e0 (g := (mkF m 1 #[.val (.ref ob), .val (.int (16 : Int32))] [(.ref ob)])) rfl (by rw [hml]; rfl) rfl (hb hby own_d_jdk_68_2_1) (by decide) (W := 0) (by show 2 * 0 + _ ≤ _; exact Nat.le_of_eq rfl) (by decide)
  refine own_Go.st st1 ?_
  show own_Go p e below _ (T1.setTop (mkF m 4 #[.val (.ref ob), .val (.int (16 : Int32))] []))
  obtain ⟨T2, X2, e2, st2⟩ := getS2 X1 hx hZ hown (host := "") (Or.inl (own_w hw 39 rfl)) Via.refl e1 cs (g := (mkF m 4 #[.val (.ref ob), .val (.int (16 : Int32))] [])) rfl (hb hby own_d_jdk_68_2_4)
  refine own_Go.st st2 ?_
  show own_Go p e below _ (T2.setTop (mkF m 7 #[.val (.ref ob), .val (.int (16 : Int32))] [(.int zc)]))
  refine own_Go.st (fun _ kt => XS.ifNo X2.here hx rfl (hb hby own_d_jdk_68_2_7) rfl ((if0 _ _).trans (feq hzc).1) kt) ?_
  show own_Go p e below _ (T2.setTop (mkF m 10 #[.val (.ref ob), .val (.int (16 : Int32))] []))
  refine own_Go.st (fun _ kt => XS.aloadN X2.here hx rfl (hb hby own_d_jdk_68_2_10) rfl rfl kt) ?_
  show own_Go p e below _ (T2.setTop (mkF m 11 #[.val (.ref ob), .val (.int (16 : Int32))] [(.ref ob)]))
  refine own_Go.st (fun _ kt => XS.iloadN X2.here hx rfl (hb hby own_d_jdk_68_2_11) rfl kt) ?_
  show own_Go p e below _ (T2.setTop (mkF m 12 #[.val (.ref ob), .val (.int (16 : Int32))] [(.int (16 : Int32)), (.ref ob)]))
  obtain ⟨T3, h3, X3, e3, E3, A3, B3, st3⟩ := own_newB X2 hx hZ (own_w hw 15 rfl) e2 (g := (mkF m 12 #[.val (.ref ob), .val (.int (16 : Int32))] [(.int (16 : Int32)), (.ref ob)])) rfl (hb hby own_d_jdk_68_2_12) rfl (n := 16) (by decide) (cap := 16) (by decide) (by decide) (by decide) (by decide)
  obtain ⟨rr, g3⟩ : ∃ z, z = Array.size h0 := ⟨_, rfl⟩
  rw [← g3] at A3 B3 st3
  refine own_Go.st st3 ?_
  have ne_ob_rr : ob ≠ rr := Nat.ne_of_lt (Nat.lt_of_lt_of_le (fE).lt (Nat.le_of_eq g3.symm))
  have n0_rr : n0 ≤ rr := Nat.le_trans Z0 (Nat.le_of_eq g3.symm)
  have b_rr : Array.size h0 ≤ rr := Nat.le_trans kk0.1 (Nat.le_of_eq g3.symm)
  have zz4 : n0 ≤ Array.size h3 := Nat.le_trans Z0 E3.1
  have kk4 : Keep h0 h3 [ob] := kk0.ext E3
  show own_Go p e below _ (T3.setTop (mkF m 14 #[.val (.ref ob), .val (.int (16 : Int32))] [(.ref rr), (.ref ob)]))
  have f5 := (fV.ext E3)
  have f6 := (fE.ext E3)
  obtain ⟨T7, h7, X7, e7, W7, st7⟩ := putF X3 hx hZ hown (host := "") (Or.inl (own_w hw 40 rfl)) Via.refl e3 f5 f6 (Or.inl (own_w hw 41 rfl)) (own_w hw 27 rfl) (ty := (.array .byte)) (by decide) rfl rfl (g := (mkF m 14 #[.val (.ref ob), .val (.int (16 : Int32))] [(.ref rr), (.ref ob)])) rfl rfl (hb hby own_d_jdk_68_2_14)
  refine own_Go.st st7 ?_
  have N7 := Fr.snoc X7 N0 go
  have f7_value := Fld.same W7 f5
  have zz8 : n0 ≤ Array.size h7 := Nat.le_trans zz4 (Nat.le_of_eq (Wr.size W7).symm)
  have kk8 : Keep h0 h7 [ob] := kk4.wr W7 (Or.inl (List.mem_of_getElem? (i := 0) rfl))
  show own_Go p e below _ (T7.setTop (mkF m 17 #[.val (.ref ob), .val (.int (16 : Int32))] []))
  refine own_Go.st (fun _ kt => XS.aloadN X7.here hx rfl (hb hby own_d_jdk_68_2_17) rfl rfl kt) ?_
  show own_Go p e below _ (T7.setTop (mkF m 18 #[.val (.ref ob), .val (.int (16 : Int32))] [(.ref ob)]))
  refine own_Go.st (fun _ kt => XS.iconst X7.here hx rfl (hb hby own_d_jdk_68_2_18) kt) ?_
  show own_Go p e below _ (T7.setTop (mkF m 19 #[.val (.ref ob), .val (.int (16 : Int32))] [(.int (0 : Int32)), (.ref ob)]))
  have f9 := ((fC.ext E3).other W7 (Or.inr (slot_ne (Or.inl (own_w hw 43 rfl)) (Or.inl (own_w hw 41 rfl)) (by decide) (t := .byte) (t' := (.array .byte)) (by decide) (by decide))))
  have f10 := (f6.wr W7)
  obtain ⟨T11, h11, X11, e11, W11, st11⟩ := putF X7 hx hZ hown (host := "") (Or.inl (own_w hw 42 rfl)) Via.refl e7 f9 f10 (Or.inl (own_w hw 43 rfl)) (own_w hw 27 rfl) (ty := .byte) (by decide) rfl rfl (g := (mkF m 19 #[.val (.ref ob), .val (.int (16 : Int32))] [(.int (0 : Int32)), (.ref ob)])) rfl rfl (hb hby own_d_jdk_68_2_19)
  refine own_Go.st st11 ?_
  have N11 := Fr.snoc X11 N7 go
  have f11_coder := Fld.same W11 f9
  have zz12 : n0 ≤ Array.size h11 := Nat.le_trans zz8 (Nat.le_of_eq (Wr.size W11).symm)
  have kk12 : Keep h0 h11 [ob] := kk8.wr W11 (Or.inl (List.mem_of_getElem? (i := 0) rfl))
  show own_Go p e below _ (T11.setTop (mkF m 22 #[.val (.ref ob), .val (.int (16 : Int32))] []))
  refine own_Go.st (fun _ kt => XS.goto X11.here hx rfl (pc0 := 22) (pc' := 38) rfl (hb hby own_d_jdk_68_2_22) (by decide) (by decide) kt) ?_
  show own_Go p e below _ (T11.setTop (mkF m 38 #[.val (.ref ob), .val (.int (16 : Int32))] []))
  have f13 := (f10.wr W11)
  have f14 := (f7_value.other W11 (Or.inr (slot_ne (Or.inl (own_w hw 41 rfl)) (Or.inl (own_w hw 43 rfl)) (by decide) (t := (.array .byte)) (t' := .byte) (by decide) (by decide))))
  have f15 := (((fN.ext E3).other W7 (Or.inr (slot_ne (Or.inl (own_w hw 66 rfl)) (Or.inl (own_w hw 41 rfl)) (by decide) (t := .int) (t' := (.array .byte)) (by decide) (by decide)))).other W11 (Or.inr (slot_ne (Or.inl (own_w hw 66 rfl)) (Or.inl (own_w hw 43 rfl)) (by decide) (t := .int) (t' := .byte) (by decide) (by decide))))
  have f16 := ((A3.other W7 (Ne.symm ne_ob_rr)).other W11 (Ne.symm ne_ob_rr))
  have fin : own_SB Z h11 n0 ob rr 0 [] := ⟨f13, f14, f11_coder, f15, f16, by decide, ne_ob_rr, go, n0_rr⟩
  have kk := kk12
  rw [← e11] at fin kk
  exact own_retV X11 hx Bd.notSynchronized Bd.returns (hb hby own_d_jdk_68_2_38) (by decide) (by decide) ⟨rr, rfl, N11, fin, b_rr, kk⟩
theorem own_ef17 (m : MethodId) (x0 : Addr) : entryFrame m #[(.ref x0)] 1 = mkF m 0 #[.val (.ref x0)] [] := by first | (simp [entryFrame, mkF, argsToLocals, Value.category]; done) | rfl
theorem own_d_jdk_67_1_0 : decode jdk_67_method_1_code 0 = .ok (.aload_n 0, 1) := by decide +kernel
theorem own_d_jdk_67_1_1 : decode jdk_67_method_1_code 1 = .ok (.bipush 16, 2) := by decide +kernel
theorem own_d_jdk_67_1_3 : decode jdk_67_method_1_code 3 = .ok (.invokespecial 1, 3) := by decide +kernel
theorem own_d_jdk_67_1_6 : decode jdk_67_method_1_code 6 = .ok (.return_, 1) := by decide +kernel
def own_Q_own_binit (Z : State) (ob : Addr) (zc : Int32) (h0 : Heap) (n0 : Nat) (v : Option Value) (h : Heap) (L : List Loc) : Prop := ∃ rr, v = none ∧ Fr n0 L ∧ own_SB Z h n0 ob rr 0 [] ∧ Array.size h0 ≤ rr ∧ Keep h0 h [ob]
set_option maxRecDepth 65536 in
set_option maxHeartbeats 40000000 in
theorem own_binit (l : Launch) (Z : State) (a0 : Array Value) (hw : ∀ d ∈ tables_1, d.before a0 Z = true) (ws : List Jvm.Cond) (ob : Addr) (zc : Int32) (h0 : Heap) (n0 : Nat) (Z0 : n0 ≤ h0.size) (fE : Exa Z h0 ob "java/lang/StringBuilder") (fV : (Fld Z h0 ob "java/lang/AbstractStringBuilder" "value" "[B" .null)) (fC : (Fld Z h0 ob "java/lang/AbstractStringBuilder" "coder" "B" (.int 0))) (fN : (Fld Z h0 ob "java/lang/AbstractStringBuilder" "count" "I" (.int 0))) (go : n0 ≤ ob) (cs : Sta Z h0 "java/lang/String" "COMPACT_STRINGS" "Z" (.int zc)) (hzc : ¬ zc = 0) :
    MetFree l (⟨"java/lang/StringBuilder", "<init>", "()V"⟩ : MethodName) (head1 (Jvm.Cond.code (⟨"java/lang/StringBuilder", "<init>", "()V"⟩ : MethodName) jdk_67_method_1_code 1 none :: ws) ({ frames := 2, cells := 1, slots := 16, locals := 25 } : Room)) (fun av_ U => av_ = #[(.ref ob)] ∧ Z.Warmed39 U.vm ∧ U.heap = h0) (fun _ _ _ _ _ => True) (fun _ U o U' => ∃ v L, o = .returned v ∧ own_Q_own_binit Z ob zc h0 n0 v U'.heap L ∧ FrameEnd U o U' L ({ frames := 2, cells := 1, slots := 16, locals := 25 } : Room).cells ({ frames := 2, cells := 1, slots := 16, locals := 25 } : Room).slots) := by
  refine MetFree.of_bodySF (plainFor_of_name own_pn3) hisR ?_
  intro p e s m args below meth c s₁ Bd hml0 hP hK
  obtain ⟨rfl, hZ, hh⟩ := hP
  have hx := Bd.exec
  have hby := Bd.bytes
  have hml : c.maxLocals = 1 := hml0
  have hown : s.vm.findClass "java/lang/StringBuilder" = some m.cls := findClass_of_methodNamed Bd.named
  have hnm := (name_of_methodNamed Bd.named Bd.method).1
  have X0 : Stand p l e ({ frames := 2, cells := 1, slots := 16, locals := 25 } : Room) s m #[(.ref ob)] below meth c s₁ [] 0 0 := Stand.of_body Bd
  have e0 : s₁.heap = h0 := by rw [← hh, Bd.state]; rfl
  have N0 := Fr.nil n0
  suffices hgo : own_Go p e below (fun o U' => ∃ v L, o = .returned v ∧ own_Q_own_binit Z ob zc h0 n0 v U'.heap L ∧ FrameEnd s o U' L ({ frames := 2, cells := 1, slots := 16, locals := 25 } : Room).cells ({ frames := 2, cells := 1, slots := 16, locals := 25 } : Room).slots) (s₁.setTop (mkF m 0 #[.val (.ref ob)] [])) by
    obtain ⟨s₂, o, h1, h2, h3, h4⟩ := hgo
    exact ⟨s₂, o, castTop (own_ef17 m ob) h1, h2, h3, h4⟩
  have kk0 : Keep h0 h0 [ob] := Keep.refl _ _
  show own_Go p e below _ (s₁.setTop (mkF m 0 #[.val (.ref ob)] []))
  refine own_Go.st (fun _ kt => XS.aloadN X0.here hx rfl (hb hby own_d_jdk_67_1_0) rfl rfl kt) ?_
  show own_Go p e below _ (s₁.setTop (mkF m 1 #[.val (.ref ob)] [(.ref ob)]))
  refine own_Go.st (fun _ kt => XS.bipush X0.here hx rfl (hb hby own_d_jdk_67_1_1) kt) ?_
  show own_Go p e below _ (s₁.setTop (mkF m 3 #[.val (.ref ob)] [(.int (16 : Int32)), (.ref ob)]))
  obtain ⟨_, _, ⟨T1, L1, k1, n1⟩, -, X1, ⟨Lc1, hQ1, l1, y1, z1⟩, st1⟩ := X0.specialBack hx (y := (⟨"java/lang/AbstractStringBuilder", "<init>", "(I)V"⟩ : MethodName)) rfl hown (mvT hZ (own_w hw 32 rfl)) (mvT hZ (own_w hw 33 rfl)) (mvT hZ (own_w hw 37 rfl)) (by decide) (backOf (W := 0) (own_ainit l Z a0 hw [] ob zc h0 n0 Z0 fE fV fC fN go cs hzc) hZ (own_w hw 37 rfl) (own_w hw 36 rfl) (by decide) (by decide)) (g := (mkF m 3 #[.val (.ref ob)] [(.int (16 : Int32)), (.ref ob)])) rfl (by rw [hml]; rfl) (Steps.refl _) (a := ob) (argsL := [(.int (16 : Int32))]) (rest := []) (lenOf own_pd8 rfl) rfl (by show 2 * 0 + _ ≤ _; exact Nat.le_of_eq rfl) (hb hby own_d_jdk_67_1_3) (fun _ _ => ⟨rfl, e0, (by decide : 0 + 1 ≤ _), (by decide : 0 + 16 ≤ _)⟩)
  dsimp only [Pt.U, Pt.locs, Pt.cells, Pt.slots] at X1 l1 y1 z1 st1 hQ1
  subst l1 y1 z1
  obtain ⟨rr, rfl, N1q, sb1, bb1, KF1⟩ := hQ1
  have N1 := Fr.app N0 N1q
  refine own_Go.st (fun _ kt => st1.trans kt) ?_
  have zz2 : n0 ≤ Array.size T1.heap := Nat.le_trans Z0 KF1.1
  have kk2 : Keep h0 T1.heap [ob] := kk0.trans KF1 (allS (P := fun x => x ∈ [ob] ∨ _) (Or.inl (List.mem_of_getElem? (i := 0) rfl)) all0)
  show own_Go p e below _ (T1.setTop (mkF m 6 #[.val (.ref ob)] []))
  have kk := kk2
  exact own_retV X1 hx Bd.notSynchronized Bd.returns (hb hby own_d_jdk_67_1_6) (by decide) (by decide) ⟨rr, rfl, N1, sb1, bb1, kk⟩
theorem own_ef18 (m : MethodId) (x0 : Addr) : entryFrame m #[(.ref x0)] 1 = mkF m 0 #[.val (.ref x0)] [] := by first | (simp [entryFrame, mkF, argsToLocals, Value.category]; done) | rfl
theorem own_d_jdk_68_64_0 : decode jdk_68_method_64_code 0 = .ok (.aload_n 0, 1) := by decide +kernel
theorem own_d_jdk_68_64_1 : decode jdk_68_method_64_code 1 = .ok (.getfield 15, 3) := by decide +kernel
theorem own_d_jdk_68_64_4 : decode jdk_68_method_64_code 4 = .ok (.areturn, 1) := by decide +kernel
def own_Q_own_gv (Z : State) (ob rr : Addr) (h0 : Heap) (n0 : Nat) (v : Option Value) (h : Heap) (L : List Loc) : Prop := v = some (.ref rr) ∧ Fr n0 L ∧ h = h0
set_option maxRecDepth 65536 in
set_option maxHeartbeats 40000000 in
theorem own_gv (l : Launch) (Z : State) (a0 : Array Value) (hw : ∀ d ∈ tables_1, d.before a0 Z = true) (ws : List Jvm.Cond) (ob rr : Addr) (h0 : Heap) (n0 : Nat) (Z0 : n0 ≤ h0.size) (fV : (Fld Z h0 ob "java/lang/AbstractStringBuilder" "value" "[B" (.ref rr))) :
    MetFree l (⟨"java/lang/AbstractStringBuilder", "getValue", "()[B"⟩ : MethodName) (head1 (Jvm.Cond.code (⟨"java/lang/AbstractStringBuilder", "getValue", "()[B"⟩ : MethodName) jdk_68_method_64_code 1 (some (.array .byte)) :: ws) ({ frames := 0, cells := 0, slots := 0, locals := 0 } : Room)) (fun av_ U => av_ = #[(.ref ob)] ∧ Z.Warmed39 U.vm ∧ U.heap = h0) (fun _ _ _ _ _ => True) (fun _ U o U' => ∃ v L, o = .returned v ∧ own_Q_own_gv Z ob rr h0 n0 v U'.heap L ∧ FrameEnd U o U' L ({ frames := 0, cells := 0, slots := 0, locals := 0 } : Room).cells ({ frames := 0, cells := 0, slots := 0, locals := 0 } : Room).slots) := by
  refine MetFree.of_bodySF (plainFor_of_name own_pn2) hisR ?_
  intro p e s m args below meth c s₁ Bd hml0 hP hK
  obtain ⟨rfl, hZ, hh⟩ := hP
  have hx := Bd.exec
  have hby := Bd.bytes
  have hml : c.maxLocals = 1 := hml0
  have hown : s.vm.findClass "java/lang/AbstractStringBuilder" = some m.cls := findClass_of_methodNamed Bd.named
  have hnm := (name_of_methodNamed Bd.named Bd.method).1
  have X0 : Stand p l e ({ frames := 0, cells := 0, slots := 0, locals := 0 } : Room) s m #[(.ref ob)] below meth c s₁ [] 0 0 := Stand.of_body Bd
  have e0 : s₁.heap = h0 := by rw [← hh, Bd.state]; rfl
  have N0 := Fr.nil n0
  suffices hgo : own_Go p e below (fun o U' => ∃ v L, o = .returned v ∧ own_Q_own_gv Z ob rr h0 n0 v U'.heap L ∧ FrameEnd s o U' L ({ frames := 0, cells := 0, slots := 0, locals := 0 } : Room).cells ({ frames := 0, cells := 0, slots := 0, locals := 0 } : Room).slots) (s₁.setTop (mkF m 0 #[.val (.ref ob)] [])) by
    obtain ⟨s₂, o, h1, h2, h3, h4⟩ := hgo
    exact ⟨s₂, o, castTop (own_ef18 m ob) h1, h2, h3, h4⟩
  show own_Go p e below _ (s₁.setTop (mkF m 0 #[.val (.ref ob)] []))
  refine own_Go.st (fun _ kt => XS.aloadN X0.here hx rfl (hb hby own_d_jdk_68_64_0) rfl rfl kt) ?_
  show own_Go p e below _ (s₁.setTop (mkF m 1 #[.val (.ref ob)] [(.ref ob)]))
  obtain ⟨T1, X1, e1, st1⟩ := getF X0 hx hZ hown (host := "") (Or.inl (own_w hw 40 rfl)) Via.refl e0 fV (g := (mkF m 1 #[.val (.ref ob)] [(.ref ob)])) rfl rfl (hb hby own_d_jdk_68_64_1)
  refine own_Go.st st1 ?_
  show own_Go p e below _ (T1.setTop (mkF m 4 #[.val (.ref ob)] [(.ref rr)]))
  exact own_retA X1 hx Bd.notSynchronized Bd.returns rfl rfl (hb hby own_d_jdk_68_64_4) (by decide) (by decide) ⟨rfl, N0, e1⟩
theorem own_ef19 (m : MethodId) (x0 : Addr) : entryFrame m #[(.ref x0)] 1 = mkF m 0 #[.val (.ref x0)] [] := by first | (simp [entryFrame, mkF, argsToLocals, Value.category]; done) | rfl
theorem own_d_jdk_68_6_0 : decode jdk_68_method_6_code 0 = .ok (.aload_n 0, 1) := by decide +kernel
theorem own_d_jdk_68_6_1 : decode jdk_68_method_6_code 1 = .ok (.getfield 79, 3) := by decide +kernel
theorem own_d_jdk_68_6_4 : decode jdk_68_method_6_code 4 = .ok (.ireturn, 1) := by decide +kernel
def own_Q_own_ablen (Z : State) (ob : Addr) (xk : Int32) (h0 : Heap) (n0 : Nat) (v : Option Value) (h : Heap) (L : List Loc) : Prop := v = some (.int xk) ∧ Fr n0 L ∧ h = h0
set_option maxRecDepth 65536 in
set_option maxHeartbeats 40000000 in
theorem own_ablen (l : Launch) (Z : State) (a0 : Array Value) (hw : ∀ d ∈ tables_1, d.before a0 Z = true) (ws : List Jvm.Cond) (ob : Addr) (xk : Int32) (h0 : Heap) (n0 : Nat) (Z0 : n0 ≤ h0.size) (fN : (Fld Z h0 ob "java/lang/AbstractStringBuilder" "count" "I" (.int xk))) :
    MetFree l (⟨"java/lang/AbstractStringBuilder", "length", "()I"⟩ : MethodName) (head1 (Jvm.Cond.code (⟨"java/lang/AbstractStringBuilder", "length", "()I"⟩ : MethodName) jdk_68_method_6_code 1 (some .int) :: ws) ({ frames := 0, cells := 0, slots := 0, locals := 0 } : Room)) (fun av_ U => av_ = #[(.ref ob)] ∧ Z.Warmed39 U.vm ∧ U.heap = h0) (fun _ _ _ _ _ => True) (fun _ U o U' => ∃ v L, o = .returned v ∧ own_Q_own_ablen Z ob xk h0 n0 v U'.heap L ∧ FrameEnd U o U' L ({ frames := 0, cells := 0, slots := 0, locals := 0 } : Room).cells ({ frames := 0, cells := 0, slots := 0, locals := 0 } : Room).slots) := by
  refine MetFree.of_bodySF (plainFor_of_name own_pn2) hisR ?_
  intro p e s m args below meth c s₁ Bd hml0 hP hK
  obtain ⟨rfl, hZ, hh⟩ := hP
  have hx := Bd.exec
  have hby := Bd.bytes
  have hml : c.maxLocals = 1 := hml0
  have hown : s.vm.findClass "java/lang/AbstractStringBuilder" = some m.cls := findClass_of_methodNamed Bd.named
  have hnm := (name_of_methodNamed Bd.named Bd.method).1
  have X0 : Stand p l e ({ frames := 0, cells := 0, slots := 0, locals := 0 } : Room) s m #[(.ref ob)] below meth c s₁ [] 0 0 := Stand.of_body Bd
  have e0 : s₁.heap = h0 := by rw [← hh, Bd.state]; rfl
  have N0 := Fr.nil n0
  suffices hgo : own_Go p e below (fun o U' => ∃ v L, o = .returned v ∧ own_Q_own_ablen Z ob xk h0 n0 v U'.heap L ∧ FrameEnd s o U' L ({ frames := 0, cells := 0, slots := 0, locals := 0 } : Room).cells ({ frames := 0, cells := 0, slots := 0, locals := 0 } : Room).slots) (s₁.setTop (mkF m 0 #[.val (.ref ob)] [])) by
    obtain ⟨s₂, o, h1, h2, h3, h4⟩ := hgo
    exact ⟨s₂, o, castTop (own_ef19 m ob) h1, h2, h3, h4⟩
  show own_Go p e below _ (s₁.setTop (mkF m 0 #[.val (.ref ob)] []))
  refine own_Go.st (fun _ kt => XS.aloadN X0.here hx rfl (hb hby own_d_jdk_68_6_0) rfl rfl kt) ?_
  show own_Go p e below _ (s₁.setTop (mkF m 1 #[.val (.ref ob)] [(.ref ob)]))
  obtain ⟨T1, X1, e1, st1⟩ := getF X0 hx hZ hown (host := "") (Or.inl (own_w hw 65 rfl)) Via.refl e0 fN (g := (mkF m 1 #[.val (.ref ob)] [(.ref ob)])) rfl rfl (hb hby own_d_jdk_68_6_1)
  refine own_Go.st st1 ?_
  show own_Go p e below _ (T1.setTop (mkF m 4 #[.val (.ref ob)] [(.int xk)]))
  exact own_retI X1 hx Bd.notSynchronized Bd.returns (hb hby own_d_jdk_68_6_4) (by decide) (by decide) ⟨rfl, N0, e1⟩
theorem own_ef20 (m : MethodId) (x0 : Addr) : entryFrame m #[(.ref x0)] 1 = mkF m 0 #[.val (.ref x0)] [] := by first | (simp [entryFrame, mkF, argsToLocals, Value.category]; done) | rfl
theorem own_d_jdk_67_93_0 : decode jdk_67_method_93_code 0 = .ok (.aload_n 0, 1) := by decide +kernel
theorem own_d_jdk_67_93_1 : decode jdk_67_method_93_code 1 = .ok (.invokespecial 343, 3) := by decide +kernel
theorem own_d_jdk_67_93_4 : decode jdk_67_method_93_code 4 = .ok (.ireturn, 1) := by decide +kernel
def own_Q_own_sblen (Z : State) (ob : Addr) (xk : Int32) (h0 : Heap) (n0 : Nat) (v : Option Value) (h : Heap) (L : List Loc) : Prop := v = some (.int xk) ∧ Fr n0 L ∧ h = h0
set_option maxRecDepth 65536 in
set_option maxHeartbeats 40000000 in
theorem own_sblen (l : Launch) (Z : State) (a0 : Array Value) (hw : ∀ d ∈ tables_1, d.before a0 Z = true) (ws : List Jvm.Cond) (ob : Addr) (xk : Int32) (h0 : Heap) (n0 : Nat) (Z0 : n0 ≤ h0.size) (fE : Exa Z h0 ob "java/lang/StringBuilder") (fN : (Fld Z h0 ob "java/lang/AbstractStringBuilder" "count" "I" (.int xk))) :
    MetFree l (⟨"java/lang/StringBuilder", "length", "()I"⟩ : MethodName) (head1 (Jvm.Cond.code (⟨"java/lang/StringBuilder", "length", "()I"⟩ : MethodName) jdk_67_method_93_code 1 (some .int) :: ws) ({ frames := 1, cells := 0, slots := 0, locals := 12 } : Room)) (fun av_ U => av_ = #[(.ref ob)] ∧ Z.Warmed39 U.vm ∧ U.heap = h0) (fun _ _ _ _ _ => True) (fun _ U o U' => ∃ v L, o = .returned v ∧ own_Q_own_sblen Z ob xk h0 n0 v U'.heap L ∧ FrameEnd U o U' L ({ frames := 1, cells := 0, slots := 0, locals := 12 } : Room).cells ({ frames := 1, cells := 0, slots := 0, locals := 12 } : Room).slots) := by
  refine MetFree.of_bodySF (plainFor_of_name own_pn3) hisR ?_
  intro p e s m args below meth c s₁ Bd hml0 hP hK
  obtain ⟨rfl, hZ, hh⟩ := hP
  have hx := Bd.exec
  have hby := Bd.bytes
  have hml : c.maxLocals = 1 := hml0
  have hown : s.vm.findClass "java/lang/StringBuilder" = some m.cls := findClass_of_methodNamed Bd.named
  have hnm := (name_of_methodNamed Bd.named Bd.method).1
  have X0 : Stand p l e ({ frames := 1, cells := 0, slots := 0, locals := 12 } : Room) s m #[(.ref ob)] below meth c s₁ [] 0 0 := Stand.of_body Bd
  have e0 : s₁.heap = h0 := by rw [← hh, Bd.state]; rfl
  have N0 := Fr.nil n0
  suffices hgo : own_Go p e below (fun o U' => ∃ v L, o = .returned v ∧ own_Q_own_sblen Z ob xk h0 n0 v U'.heap L ∧ FrameEnd s o U' L ({ frames := 1, cells := 0, slots := 0, locals := 12 } : Room).cells ({ frames := 1, cells := 0, slots := 0, locals := 12 } : Room).slots) (s₁.setTop (mkF m 0 #[.val (.ref ob)] [])) by
    obtain ⟨s₂, o, h1, h2, h3, h4⟩ := hgo
    exact ⟨s₂, o, castTop (own_ef20 m ob) h1, h2, h3, h4⟩
  show own_Go p e below _ (s₁.setTop (mkF m 0 #[.val (.ref ob)] []))
  refine own_Go.st (fun _ kt => XS.aloadN X0.here hx rfl (hb hby own_d_jdk_67_93_0) rfl rfl kt) ?_
  show own_Go p e below _ (s₁.setTop (mkF m 1 #[.val (.ref ob)] [(.ref ob)]))
  obtain ⟨_, _, ⟨T1, L1, k1, n1⟩, -, X1, ⟨Lc1, hQ1, l1, y1, z1⟩, st1⟩ := superBack X0 hx hZ hown (own_w hw 116 rfl) (own_sameM (own_w hw 112 rfl) (own_w hw 70 rfl) rfl (by decide)) (own_w hw 112 rfl) (own_w hw 51 rfl) (by decide) (backOf (W := 0) (own_ablen l Z a0 hw [] ob xk h0 n0 Z0 fN) hZ (own_w hw 117 rfl) (own_w hw 36 rfl) (by decide) (by decide)) e0 (Ins.self fE) (g := (mkF m 1 #[.val (.ref ob)] [(.ref ob)])) rfl (by rw [hml]; rfl) (own_w hw 117 rfl) (argsL := []) (rest := []) (lenOf own_pd7 rfl) rfl (by show 2 * 0 + _ ≤ _; exact Nat.le_of_eq rfl) (hb hby own_d_jdk_67_93_1) (fun _ _ => ⟨rfl, e0, (by decide : 0 + 0 ≤ _), (by decide : 0 + 0 ≤ _)⟩)
  dsimp only [Pt.U, Pt.locs, Pt.cells, Pt.slots] at X1 l1 y1 z1 st1 hQ1
  subst l1 y1 z1
  obtain ⟨rfl, N1q, hh1⟩ := hQ1
  have N1 := Fr.app N0 N1q
  refine own_Go.st (fun _ kt => st1.trans kt) ?_
  show own_Go p e below _ (T1.setTop (mkF m 4 #[.val (.ref ob)] [(.int xk)]))
  exact own_retI X1 hx Bd.notSynchronized Bd.returns (hb hby own_d_jdk_67_93_4) (by decide) (by decide) ⟨rfl, N1, hh1⟩
theorem own_ef21 (m : MethodId) (x0 : Addr) : entryFrame m #[(.ref x0)] 1 = mkF m 0 #[.val (.ref x0)] [] := by first | (simp [entryFrame, mkF, argsToLocals, Value.category]; done) | rfl
theorem own_d_jdk_68_68_0 : decode jdk_68_method_68_code 0 = .ok (.getstatic 18, 3) := by decide +kernel
theorem own_d_jdk_68_68_3 : decode jdk_68_method_68_code 3 = .ok (.ifCond .eq 14, 3) := by decide +kernel
theorem own_d_jdk_68_68_6 : decode jdk_68_method_68_code 6 = .ok (.aload_n 0, 1) := by decide +kernel
theorem own_d_jdk_68_68_7 : decode jdk_68_method_68_code 7 = .ok (.getfield 22, 3) := by decide +kernel
theorem own_d_jdk_68_68_10 : decode jdk_68_method_68_code 10 = .ok (.ifCond .ne 7, 3) := by decide +kernel
theorem own_d_jdk_68_68_13 : decode jdk_68_method_68_code 13 = .ok (.iconst 1, 1) := by decide +kernel
theorem own_d_jdk_68_68_14 : decode jdk_68_method_68_code 14 = .ok (.goto 4, 3) := by decide +kernel
theorem own_d_jdk_68_68_18 : decode jdk_68_method_68_code 18 = .ok (.ireturn, 1) := by decide +kernel
def own_Q_own_il (Z : State) (ob : Addr) (zc : Int32) (h0 : Heap) (n0 : Nat) (v : Option Value) (h : Heap) (L : List Loc) : Prop := v = some (.int 1) ∧ Fr n0 L ∧ h = h0
set_option maxRecDepth 65536 in
set_option maxHeartbeats 40000000 in
theorem own_il (l : Launch) (Z : State) (a0 : Array Value) (hw : ∀ d ∈ tables_1, d.before a0 Z = true) (ws : List Jvm.Cond) (ob : Addr) (zc : Int32) (h0 : Heap) (n0 : Nat) (Z0 : n0 ≤ h0.size) (fC : (Fld Z h0 ob "java/lang/AbstractStringBuilder" "coder" "B" (.int 0))) (cs : Sta Z h0 "java/lang/String" "COMPACT_STRINGS" "Z" (.int zc)) (hzc : ¬ zc = 0) :
    MetFree l (⟨"java/lang/AbstractStringBuilder", "isLatin1", "()Z"⟩ : MethodName) (head1 (Jvm.Cond.code (⟨"java/lang/AbstractStringBuilder", "isLatin1", "()Z"⟩ : MethodName) jdk_68_method_68_code 1 (some .boolean) :: ws) ({ frames := 0, cells := 0, slots := 0, locals := 0 } : Room)) (fun av_ U => av_ = #[(.ref ob)] ∧ Z.Warmed39 U.vm ∧ U.heap = h0) (fun _ _ _ _ _ => True) (fun _ U o U' => ∃ v L, o = .returned v ∧ own_Q_own_il Z ob zc h0 n0 v U'.heap L ∧ FrameEnd U o U' L ({ frames := 0, cells := 0, slots := 0, locals := 0 } : Room).cells ({ frames := 0, cells := 0, slots := 0, locals := 0 } : Room).slots) := by
  refine MetFree.of_bodySF (plainFor_of_name own_pn2) hisR ?_
  intro p e s m args below meth c s₁ Bd hml0 hP hK
  obtain ⟨rfl, hZ, hh⟩ := hP
  have hx := Bd.exec
  have hby := Bd.bytes
  have hml : c.maxLocals = 1 := hml0
  have hown : s.vm.findClass "java/lang/AbstractStringBuilder" = some m.cls := findClass_of_methodNamed Bd.named
  have hnm := (name_of_methodNamed Bd.named Bd.method).1
  have X0 : Stand p l e ({ frames := 0, cells := 0, slots := 0, locals := 0 } : Room) s m #[(.ref ob)] below meth c s₁ [] 0 0 := Stand.of_body Bd
  have e0 : s₁.heap = h0 := by rw [← hh, Bd.state]; rfl
  have N0 := Fr.nil n0
  suffices hgo : own_Go p e below (fun o U' => ∃ v L, o = .returned v ∧ own_Q_own_il Z ob zc h0 n0 v U'.heap L ∧ FrameEnd s o U' L ({ frames := 0, cells := 0, slots := 0, locals := 0 } : Room).cells ({ frames := 0, cells := 0, slots := 0, locals := 0 } : Room).slots) (s₁.setTop (mkF m 0 #[.val (.ref ob)] [])) by
    obtain ⟨s₂, o, h1, h2, h3, h4⟩ := hgo
    exact ⟨s₂, o, castTop (own_ef21 m ob) h1, h2, h3, h4⟩
  show own_Go p e below _ (s₁.setTop (mkF m 0 #[.val (.ref ob)] []))
  obtain ⟨T1, X1, e1, st1⟩ := getS2 X0 hx hZ hown (host := "") (Or.inl (own_w hw 39 rfl)) Via.refl e0 cs (g := (mkF m 0 #[.val (.ref ob)] [])) rfl (hb hby own_d_jdk_68_68_0)
  refine own_Go.st st1 ?_
  show own_Go p e below _ (T1.setTop (mkF m 3 #[.val (.ref ob)] [(.int zc)]))
  refine own_Go.st (fun _ kt => XS.ifNo X1.here hx rfl (hb hby own_d_jdk_68_68_3) rfl ((if0 _ _).trans (feq hzc).1) kt) ?_
  show own_Go p e below _ (T1.setTop (mkF m 6 #[.val (.ref ob)] []))
  refine own_Go.st (fun _ kt => XS.aloadN X1.here hx rfl (hb hby own_d_jdk_68_68_6) rfl rfl kt) ?_
  show own_Go p e below _ (T1.setTop (mkF m 7 #[.val (.ref ob)] [(.ref ob)]))
  obtain ⟨T2, X2, e2, st2⟩ := getF X1 hx hZ hown (host := "") (Or.inl (own_w hw 42 rfl)) Via.refl e1 fC (g := (mkF m 7 #[.val (.ref ob)] [(.ref ob)])) rfl rfl (hb hby own_d_jdk_68_68_7)
  refine own_Go.st st2 ?_
  show own_Go p e below _ (T2.setTop (mkF m 10 #[.val (.ref ob)] [(.int (0 : Int32))]))
  refine own_Go.st (fun _ kt => XS.ifNo X2.here hx rfl (hb hby own_d_jdk_68_68_10) rfl ((if0 _ _).trans (teq rfl).2) kt) ?_
  show own_Go p e below _ (T2.setTop (mkF m 13 #[.val (.ref ob)] []))
  refine own_Go.st (fun _ kt => XS.iconst X2.here hx rfl (hb hby own_d_jdk_68_68_13) kt) ?_
  show own_Go p e below _ (T2.setTop (mkF m 14 #[.val (.ref ob)] [(.int (1 : Int32))]))
  refine own_Go.st (fun _ kt => XS.goto X2.here hx rfl (pc0 := 14) (pc' := 18) rfl (hb hby own_d_jdk_68_68_14) (by decide) (by decide) kt) ?_
  show own_Go p e below _ (T2.setTop (mkF m 18 #[.val (.ref ob)] [(.int (1 : Int32))]))
  exact own_retZ X2 hx Bd.notSynchronized Bd.returns (Or.inr rfl) (hb hby own_d_jdk_68_68_18) (by decide) (by decide) ⟨rfl, N0, e2⟩
theorem own_pn4 : plainName "java/util/Arrays" = true := by first | (simp [plainName, overriddenIn]; done) | decide +kernel
theorem own_ef22 (m : MethodId) (x0 : Int32) (x1 : Int32) : entryFrame m #[(.int x0), (.int x1)] 2 = mkF m 0 #[.val (.int x0), .val (.int x1)] [] := by first | (simp [entryFrame, mkF, argsToLocals, Value.category]; done) | rfl
theorem own_d_jdk_65_131_0 : decode jdk_65_method_131_code 0 = .ok (.iload_n 1, 1) := by decide +kernel
theorem own_d_jdk_65_131_1 : decode jdk_65_method_131_code 1 = .ok (.iload_n 0, 1) := by decide +kernel
theorem own_d_jdk_65_131_2 : decode jdk_65_method_131_code 2 = .ok (.if_icmp .ge 35, 3) := by decide +kernel
theorem own_d_jdk_65_131_37 : decode jdk_65_method_131_code 37 = .ok (.return_, 1) := by decide +kernel
def own_Q_own_ckl (Z : State) (xn : Int32) (n : Nat) (h0 : Heap) (n0 : Nat) (v : Option Value) (h : Heap) (L : List Loc) : Prop := v = none ∧ Fr n0 L ∧ h = h0
set_option maxRecDepth 65536 in
set_option maxHeartbeats 40000000 in
theorem own_ckl (l : Launch) (Z : State) (a0 : Array Value) (hw : ∀ d ∈ tables_1, d.before a0 Z = true) (ws : List Jvm.Cond) (xn : Int32) (n : Nat) (h0 : Heap) (n0 : Nat) (Z0 : n0 ≤ h0.size) (hn : xn.toInt = (n : Int)) :
    MetFree l (⟨"java/util/Arrays", "checkLength", "(II)V"⟩ : MethodName) (head1 (Jvm.Cond.code (⟨"java/util/Arrays", "checkLength", "(II)V"⟩ : MethodName) jdk_65_method_131_code 2 none :: ws) ({ frames := 0, cells := 0, slots := 0, locals := 0 } : Room)) (fun av_ U => av_ = #[(.int (0 : Int32)), (.int xn)] ∧ Z.Warmed39 U.vm ∧ U.heap = h0) (fun _ _ _ _ _ => True) (fun _ U o U' => ∃ v L, o = .returned v ∧ own_Q_own_ckl Z xn n h0 n0 v U'.heap L ∧ FrameEnd U o U' L ({ frames := 0, cells := 0, slots := 0, locals := 0 } : Room).cells ({ frames := 0, cells := 0, slots := 0, locals := 0 } : Room).slots) := by
  refine MetFree.of_bodySF (plainFor_of_name own_pn4) hisR ?_
  intro p e s m args below meth c s₁ Bd hml0 hP hK
  obtain ⟨rfl, hZ, hh⟩ := hP
  have hx := Bd.exec
  have hby := Bd.bytes
  have hml : c.maxLocals = 2 := hml0
  have hown : s.vm.findClass "java/util/Arrays" = some m.cls := findClass_of_methodNamed Bd.named
  have hnm := (name_of_methodNamed Bd.named Bd.method).1
  have X0 : Stand p l e ({ frames := 0, cells := 0, slots := 0, locals := 0 } : Room) s m #[(.int (0 : Int32)), (.int xn)] below meth c s₁ [] 0 0 := Stand.of_body Bd
  have e0 : s₁.heap = h0 := by rw [← hh, Bd.state]; rfl
  have N0 := Fr.nil n0
  suffices hgo : own_Go p e below (fun o U' => ∃ v L, o = .returned v ∧ own_Q_own_ckl Z xn n h0 n0 v U'.heap L ∧ FrameEnd s o U' L ({ frames := 0, cells := 0, slots := 0, locals := 0 } : Room).cells ({ frames := 0, cells := 0, slots := 0, locals := 0 } : Room).slots) (s₁.setTop (mkF m 0 #[.val (.int (0 : Int32)), .val (.int xn)] [])) by
    obtain ⟨s₂, o, h1, h2, h3, h4⟩ := hgo
    exact ⟨s₂, o, castTop (own_ef22 m (0 : Int32) xn) h1, h2, h3, h4⟩
  show own_Go p e below _ (s₁.setTop (mkF m 0 #[.val (.int (0 : Int32)), .val (.int xn)] []))
  refine own_Go.st (fun _ kt => XS.iloadN X0.here hx rfl (hb hby own_d_jdk_65_131_0) rfl kt) ?_
  show own_Go p e below _ (s₁.setTop (mkF m 1 #[.val (.int (0 : Int32)), .val (.int xn)] [(.int xn)]))
  refine own_Go.st (fun _ kt => XS.iloadN X0.here hx rfl (hb hby own_d_jdk_65_131_1) rfl kt) ?_
  show own_Go p e below _ (s₁.setTop (mkF m 2 #[.val (.int (0 : Int32)), .val (.int xn)] [(.int (0 : Int32)), (.int xn)]))
  refine own_Go.st (fun _ kt => XS.icmpYes X0.here hx rfl (pc0 := 2) (pc' := 37) rfl (hb hby own_d_jdk_65_131_2) rfl (flt (own_nn hn)).2.1 (by decide) (by decide) kt) ?_
  show own_Go p e below _ (s₁.setTop (mkF m 37 #[.val (.int (0 : Int32)), .val (.int xn)] []))
  exact own_retV X0 hx Bd.notSynchronized Bd.returns (hb hby own_d_jdk_65_131_37) (by decide) (by decide) ⟨rfl, N0, e0⟩
theorem own_ef23 (m : MethodId) (x0 : Int32) (x1 : Int32) : entryFrame m #[(.int x0), (.int x1)] 2 = mkF m 0 #[.val (.int x0), .val (.int x1)] [] := by first | (simp [entryFrame, mkF, argsToLocals, Value.category]; done) | rfl
theorem own_d_jdk_29_69_0 : decode jdk_29_method_69_code 0 = .ok (.iload_n 0, 1) := by decide +kernel
theorem own_d_jdk_29_69_1 : decode jdk_29_method_69_code 1 = .ok (.iload_n 1, 1) := by decide +kernel
theorem own_d_jdk_29_69_2 : decode jdk_29_method_69_code 2 = .ok (.if_icmp .gt 7, 3) := by decide +kernel
theorem own_d_jdk_29_69_9 : decode jdk_29_method_69_code 9 = .ok (.iload_n 1, 1) := by decide +kernel
theorem own_d_jdk_29_69_10 : decode jdk_29_method_69_code 10 = .ok (.ireturn, 1) := by decide +kernel
def own_Q_own_min (Z : State) (xm ym : Int32) (h0 : Heap) (n0 : Nat) (v : Option Value) (h : Heap) (L : List Loc) : Prop := v = some (.int ym) ∧ Fr n0 L ∧ h = h0
set_option maxRecDepth 65536 in
set_option maxHeartbeats 40000000 in
theorem own_min (l : Launch) (Z : State) (a0 : Array Value) (hw : ∀ d ∈ tables_1, d.before a0 Z = true) (ws : List Jvm.Cond) (xm ym : Int32) (h0 : Heap) (n0 : Nat) (Z0 : n0 ≤ h0.size) (hlt : ym < xm) :
    MetFree l (⟨"java/lang/Math", "min", "(II)I"⟩ : MethodName) (head1 (Jvm.Cond.code (⟨"java/lang/Math", "min", "(II)I"⟩ : MethodName) jdk_29_method_69_code 2 (some .int) :: ws) ({ frames := 0, cells := 0, slots := 0, locals := 0 } : Room)) (fun av_ U => av_ = #[(.int xm), (.int ym)] ∧ Z.Warmed39 U.vm ∧ U.heap = h0) (fun _ _ _ _ _ => True) (fun _ U o U' => ∃ v L, o = .returned v ∧ own_Q_own_min Z xm ym h0 n0 v U'.heap L ∧ FrameEnd U o U' L ({ frames := 0, cells := 0, slots := 0, locals := 0 } : Room).cells ({ frames := 0, cells := 0, slots := 0, locals := 0 } : Room).slots) := by
  refine MetFree.of_bodySF (by decide +kernel) hisR ?_
  intro p e s m args below meth c s₁ Bd hml0 hP hK
  obtain ⟨rfl, hZ, hh⟩ := hP
  have hx := Bd.exec
  have hby := Bd.bytes
  have hml : c.maxLocals = 2 := hml0
  have hown : s.vm.findClass "java/lang/Math" = some m.cls := findClass_of_methodNamed Bd.named
  have hnm := (name_of_methodNamed Bd.named Bd.method).1
  have X0 : Stand p l e ({ frames := 0, cells := 0, slots := 0, locals := 0 } : Room) s m #[(.int xm), (.int ym)] below meth c s₁ [] 0 0 := Stand.of_body Bd
  have e0 : s₁.heap = h0 := by rw [← hh, Bd.state]; rfl
  have N0 := Fr.nil n0
  suffices hgo : own_Go p e below (fun o U' => ∃ v L, o = .returned v ∧ own_Q_own_min Z xm ym h0 n0 v U'.heap L ∧ FrameEnd s o U' L ({ frames := 0, cells := 0, slots := 0, locals := 0 } : Room).cells ({ frames := 0, cells := 0, slots := 0, locals := 0 } : Room).slots) (s₁.setTop (mkF m 0 #[.val (.int xm), .val (.int ym)] [])) by
    obtain ⟨s₂, o, h1, h2, h3, h4⟩ := hgo
    exact ⟨s₂, o, castTop (own_ef23 m xm ym) h1, h2, h3, h4⟩
  show own_Go p e below _ (s₁.setTop (mkF m 0 #[.val (.int xm), .val (.int ym)] []))
  refine own_Go.st (fun _ kt => XS.iloadN X0.here hx rfl (hb hby own_d_jdk_29_69_0) rfl kt) ?_
  show own_Go p e below _ (s₁.setTop (mkF m 1 #[.val (.int xm), .val (.int ym)] [(.int xm)]))
  refine own_Go.st (fun _ kt => XS.iloadN X0.here hx rfl (hb hby own_d_jdk_29_69_1) rfl kt) ?_
  show own_Go p e below _ (s₁.setTop (mkF m 2 #[.val (.int xm), .val (.int ym)] [(.int ym), (.int xm)]))
  refine own_Go.st (fun _ kt => XS.icmpYes X0.here hx rfl (pc0 := 2) (pc' := 9) rfl (hb hby own_d_jdk_29_69_2) rfl (tlt hlt).2.2.1 (by decide) (by decide) kt) ?_
  show own_Go p e below _ (s₁.setTop (mkF m 9 #[.val (.int xm), .val (.int ym)] []))
  refine own_Go.st (fun _ kt => XS.iloadN X0.here hx rfl (hb hby own_d_jdk_29_69_9) rfl kt) ?_
  show own_Go p e below _ (s₁.setTop (mkF m 10 #[.val (.int xm), .val (.int ym)] [(.int ym)]))
  exact own_retI X0 hx Bd.notSynchronized Bd.returns (hb hby own_d_jdk_29_69_10) (by decide) (by decide) ⟨rfl, N0, e0⟩
theorem own_ef24 (m : MethodId) (x0 : Addr) (x1 : Int32) (x2 : Int32) : entryFrame m #[(.ref x0), (.int x1), (.int x2)] 5 = mkF m 0 #[.val (.ref x0), .val (.int x1), .val (.int x2), .unset, .unset] [] := by first | (simp [entryFrame, mkF, argsToLocals, Value.category]; done) | rfl
theorem own_d_jdk_65_133_0 : decode jdk_65_method_133_code 0 = .ok (.iload_n 1, 1) := by decide +kernel
theorem own_d_jdk_65_133_1 : decode jdk_65_method_133_code 1 = .ok (.iload_n 2, 1) := by decide +kernel
theorem own_d_jdk_65_133_2 : decode jdk_65_method_133_code 2 = .ok (.invokestatic 343, 3) := by decide +kernel
theorem own_pd11 : parseMethodDescriptor "(II)V" = some ⟨[.int, .int], none⟩ := by decide +kernel
theorem own_d_jdk_65_133_5 : decode jdk_65_method_133_code 5 = .ok (.iload_n 2, 1) := by decide +kernel
theorem own_d_jdk_65_133_6 : decode jdk_65_method_133_code 6 = .ok (.iload_n 1, 1) := by decide +kernel
theorem own_d_jdk_65_133_7 : decode jdk_65_method_133_code 7 = .ok (.isub, 1) := by decide +kernel
theorem own_d_jdk_65_133_8 : decode jdk_65_method_133_code 8 = .ok (.istore_n 3, 1) := by decide +kernel
theorem own_d_jdk_65_133_9 : decode jdk_65_method_133_code 9 = .ok (.iload_n 3, 1) := by decide +kernel
theorem own_d_jdk_65_133_10 : decode jdk_65_method_133_code 10 = .ok (.newarray .byte, 2) := by decide +kernel
theorem own_d_jdk_65_133_12 : decode jdk_65_method_133_code 12 = .ok (.astore 4, 2) := by decide +kernel
theorem own_d_jdk_65_133_14 : decode jdk_65_method_133_code 14 = .ok (.aload_n 0, 1) := by decide +kernel
theorem own_d_jdk_65_133_15 : decode jdk_65_method_133_code 15 = .ok (.iload_n 1, 1) := by decide +kernel
theorem own_d_jdk_65_133_16 : decode jdk_65_method_133_code 16 = .ok (.aload 4, 2) := by decide +kernel
theorem own_d_jdk_65_133_18 : decode jdk_65_method_133_code 18 = .ok (.iconst 0, 1) := by decide +kernel
theorem own_d_jdk_65_133_19 : decode jdk_65_method_133_code 19 = .ok (.aload_n 0, 1) := by decide +kernel
theorem own_d_jdk_65_133_20 : decode jdk_65_method_133_code 20 = .ok (.arraylength, 1) := by decide +kernel
theorem own_d_jdk_65_133_21 : decode jdk_65_method_133_code 21 = .ok (.iload_n 1, 1) := by decide +kernel
theorem own_d_jdk_65_133_22 : decode jdk_65_method_133_code 22 = .ok (.isub, 1) := by decide +kernel
theorem own_d_jdk_65_133_23 : decode jdk_65_method_133_code 23 = .ok (.iload_n 3, 1) := by decide +kernel
theorem own_d_jdk_65_133_24 : decode jdk_65_method_133_code 24 = .ok (.invokestatic 304, 3) := by decide +kernel
theorem own_pd12 : parseMethodDescriptor "(II)I" = some ⟨[.int, .int], some .int⟩ := by decide +kernel
theorem own_d_jdk_65_133_27 : decode jdk_65_method_133_code 27 = .ok (.invokestatic 150, 3) := by decide +kernel
theorem own_d_jdk_65_133_30 : decode jdk_65_method_133_code 30 = .ok (.aload 4, 2) := by decide +kernel
theorem own_d_jdk_65_133_32 : decode jdk_65_method_133_code 32 = .ok (.areturn, 1) := by decide +kernel
def own_Q_own_crb (Z : State) (ra : Addr) (xn : Int32) (bs : List Int8) (h0 : Heap) (n0 : Nat) (v : Option Value) (h : Heap) (L : List Loc) : Prop := ∃ rb, v = some (.ref rb) ∧ Fr n0 L ∧ own_Ar Z h rb .byte bs.length (own_by bs) ∧ Exa Z h rb "[B" ∧ Array.size h0 ≤ rb ∧ Keep h0 h []
set_option maxRecDepth 65536 in
set_option maxHeartbeats 40000000 in
theorem own_crb (l : Launch) (Z : State) (a0 : Array Value) (hw : ∀ d ∈ tables_1, d.before a0 Z = true) (ws : List Jvm.Cond) (ra : Addr) (xn : Int32) (bs : List Int8) (h0 : Heap) (n0 : Nat) (Z0 : n0 ≤ h0.size) (aa : own_Ar Z h0 ra .byte 16 (own_by bs)) (hn : xn.toInt = (bs.length : Int)) (hl : bs.length ≤ 15) :
    MetFree l (⟨"java/util/Arrays", "copyOfRangeByte", "([BII)[B"⟩ : MethodName) (head1 (Jvm.Cond.code (⟨"java/util/Arrays", "copyOfRangeByte", "([BII)[B"⟩ : MethodName) jdk_65_method_133_code 5 (some (.array .byte)) :: ws) ({ frames := 1, cells := 1, slots := 16, locals := 18 } : Room)) (fun av_ U => av_ = #[(.ref ra), (.int (0 : Int32)), (.int xn)] ∧ Z.Warmed39 U.vm ∧ U.heap = h0) (fun _ _ _ _ _ => True) (fun _ U o U' => ∃ v L, o = .returned v ∧ own_Q_own_crb Z ra xn bs h0 n0 v U'.heap L ∧ FrameEnd U o U' L ({ frames := 1, cells := 1, slots := 16, locals := 18 } : Room).cells ({ frames := 1, cells := 1, slots := 16, locals := 18 } : Room).slots) := by
  refine MetFree.of_bodySF (plainFor_of_name own_pn4) hisR ?_
  intro p e s m args below meth c s₁ Bd hml0 hP hK
  obtain ⟨rfl, hZ, hh⟩ := hP
  have hx := Bd.exec
  have hby := Bd.bytes
  have hml : c.maxLocals = 5 := hml0
  have hown : s.vm.findClass "java/util/Arrays" = some m.cls := findClass_of_methodNamed Bd.named
  have hnm := (name_of_methodNamed Bd.named Bd.method).1
  have X0 : Stand p l e ({ frames := 1, cells := 1, slots := 16, locals := 18 } : Room) s m #[(.ref ra), (.int (0 : Int32)), (.int xn)] below meth c s₁ [] 0 0 := Stand.of_body Bd
  have e0 : s₁.heap = h0 := by rw [← hh, Bd.state]; rfl
  have N0 := Fr.nil n0
  suffices hgo : own_Go p e below (fun o U' => ∃ v L, o = .returned v ∧ own_Q_own_crb Z ra xn bs h0 n0 v U'.heap L ∧ FrameEnd s o U' L ({ frames := 1, cells := 1, slots := 16, locals := 18 } : Room).cells ({ frames := 1, cells := 1, slots := 16, locals := 18 } : Room).slots) (s₁.setTop (mkF m 0 #[.val (.ref ra), .val (.int (0 : Int32)), .val (.int xn), .unset, .unset] [])) by
    obtain ⟨s₂, o, h1, h2, h3, h4⟩ := hgo
    exact ⟨s₂, o, castTop (own_ef24 m ra (0 : Int32) xn) h1, h2, h3, h4⟩
  have kk0 : Keep h0 h0 [] := Keep.refl _ _
  show own_Go p e below _ (s₁.setTop (mkF m 0 #[.val (.ref ra), .val (.int (0 : Int32)), .val (.int xn), .unset, .unset] []))
  refine own_Go.st (fun _ kt => XS.iloadN X0.here hx rfl (hb hby own_d_jdk_65_133_0) rfl kt) ?_
  show own_Go p e below _ (s₁.setTop (mkF m 1 #[.val (.ref ra), .val (.int (0 : Int32)), .val (.int xn), .unset, .unset] [(.int (0 : Int32))]))
  refine own_Go.st (fun _ kt => XS.iloadN X0.here hx rfl (hb hby own_d_jdk_65_133_1) rfl kt) ?_
  show own_Go p e below _ (s₁.setTop (mkF m 2 #[.val (.ref ra), .val (.int (0 : Int32)), .val (.int xn), .unset, .unset] [(.int xn), (.int (0 : Int32))]))
  obtain ⟨_, _, ⟨T1, L1, k1, n1⟩, -, X1, ⟨Lc1, hQ1, l1, y1, z1⟩, st1⟩ := Jvm.LawKit.callS X0 hx (y := (⟨"java/util/Arrays", "checkLength", "(II)V"⟩ : MethodName)) hown (mvT hZ (own_w hw 130 rfl)) (mvT hZ (own_w hw 131 rfl)) (mvT hZ (own_w hw 125 rfl)) (mvT hZ (own_w hw 132 rfl)) (by decide) (backOf (W := 0) (own_ckl l Z a0 hw [] xn bs.length h0 n0 Z0 hn) hZ (own_w hw 132 rfl) (own_w hw 125 rfl) (by decide) (by decide)) (g := (mkF m 2 #[.val (.ref ra), .val (.int (0 : Int32)), .val (.int xn), .unset, .unset] [(.int xn), (.int (0 : Int32))])) rfl (by rw [hml]; rfl) (argsL := [(.int (0 : Int32)), (.int xn)]) (rest := []) (lenOf own_pd11 rfl) rfl (by show 2 * 0 + _ ≤ _; exact Nat.le_of_eq rfl) (hb hby own_d_jdk_65_133_2) (fun _ _ => ⟨rfl, e0, (by decide : 0 + 0 ≤ _), (by decide : 0 + 0 ≤ _)⟩)
  dsimp only [Pt.U, Pt.locs, Pt.cells, Pt.slots] at X1 l1 y1 z1 st1 hQ1
  subst l1 y1 z1
  obtain ⟨rfl, N1q, hh1⟩ := hQ1
  have N1 := Fr.app N0 N1q
  refine own_Go.st (fun _ kt => st1 _ kt) ?_
  show own_Go p e below _ (T1.setTop (mkF m 5 #[.val (.ref ra), .val (.int (0 : Int32)), .val (.int xn), .unset, .unset] []))
  refine own_Go.st (fun _ kt => XS.iloadN X1.here hx rfl (hb hby own_d_jdk_65_133_5) rfl kt) ?_
  show own_Go p e below _ (T1.setTop (mkF m 6 #[.val (.ref ra), .val (.int (0 : Int32)), .val (.int xn), .unset, .unset] [(.int xn)]))
  refine own_Go.st (fun _ kt => XS.iloadN X1.here hx rfl (hb hby own_d_jdk_65_133_6) rfl kt) ?_
  show own_Go p e below _ (T1.setTop (mkF m 7 #[.val (.ref ra), .val (.int (0 : Int32)), .val (.int xn), .unset, .unset] [(.int (0 : Int32)), (.int xn)]))
  refine own_Go.st (fun _ kt => XS.isub X1.here hx rfl (hb hby own_d_jdk_65_133_7) rfl kt) ?_
  show own_Go p e below _ (T1.setTop (mkF m 8 #[.val (.ref ra), .val (.int (0 : Int32)), .val (.int xn), .unset, .unset] [(.int (xn - (0 : Int32)))]))
  refine own_Go.st (fun _ kt => XS.istoreN X1.here hx rfl (hb hby own_d_jdk_65_133_8) rfl (l' := #[.val (.ref ra), .val (.int (0 : Int32)), .val (.int xn), .val (.int (xn - (0 : Int32))), .unset]) rfl kt) ?_
  show own_Go p e below _ (T1.setTop (mkF m 9 #[.val (.ref ra), .val (.int (0 : Int32)), .val (.int xn), .val (.int (xn - (0 : Int32))), .unset] []))
  refine own_Go.st (fun _ kt => XS.iloadN X1.here hx rfl (hb hby own_d_jdk_65_133_9) rfl kt) ?_
  show own_Go p e below _ (T1.setTop (mkF m 10 #[.val (.ref ra), .val (.int (0 : Int32)), .val (.int xn), .val (.int (xn - (0 : Int32))), .unset] [(.int (xn - (0 : Int32)))]))
  rw [show (xn - (0 : Int32)) = xn from (own_subz xn)]
  show own_Go p e below _ (T1.setTop (mkF m 10 #[.val (.ref ra), .val (.int (0 : Int32)), .val (.int xn), .val (.int xn), .unset] [(.int xn)]))
  obtain ⟨T2, h2, X2, e2, E2, A2, B2, st2⟩ := own_newB X1 hx hZ (own_w hw 15 rfl) hh1 (g := (mkF m 10 #[.val (.ref ra), .val (.int (0 : Int32)), .val (.int xn), .val (.int xn), .unset] [(.int xn)])) rfl (hb hby own_d_jdk_65_133_10) rfl (n := bs.length) hn (cap := 16) (by omega) (by decide) (by decide) (by decide)
  obtain ⟨rb, g2⟩ : ∃ z, z = Array.size h0 := ⟨_, rfl⟩
  rw [← g2] at A2 B2 st2
  refine own_Go.st st2 ?_
  have ne_ra_rb : ra ≠ rb := Nat.ne_of_lt (Nat.lt_of_lt_of_le (aa).lt (Nat.le_of_eq g2.symm))
  have n0_rb : n0 ≤ rb := Nat.le_trans Z0 (Nat.le_of_eq g2.symm)
  have b_rb : Array.size h0 ≤ rb := Nat.le_trans kk0.1 (Nat.le_of_eq g2.symm)
  have zz3 : n0 ≤ Array.size h2 := Nat.le_trans Z0 E2.1
  have kk3 : Keep h0 h2 [] := kk0.ext E2
  show own_Go p e below _ (T2.setTop (mkF m 12 #[.val (.ref ra), .val (.int (0 : Int32)), .val (.int xn), .val (.int xn), .unset] [(.ref rb)]))
  refine own_Go.st (fun _ kt => XS.astore X2.here hx rfl (hb hby own_d_jdk_65_133_12) rfl rfl (l' := #[.val (.ref ra), .val (.int (0 : Int32)), .val (.int xn), .val (.int xn), .val (.ref rb)]) rfl kt) ?_
  show own_Go p e below _ (T2.setTop (mkF m 14 #[.val (.ref ra), .val (.int (0 : Int32)), .val (.int xn), .val (.int xn), .val (.ref rb)] []))
  refine own_Go.st (fun _ kt => XS.aloadN X2.here hx rfl (hb hby own_d_jdk_65_133_14) rfl rfl kt) ?_
  show own_Go p e below _ (T2.setTop (mkF m 15 #[.val (.ref ra), .val (.int (0 : Int32)), .val (.int xn), .val (.int xn), .val (.ref rb)] [(.ref ra)]))
  refine own_Go.st (fun _ kt => XS.iloadN X2.here hx rfl (hb hby own_d_jdk_65_133_15) rfl kt) ?_
  show own_Go p e below _ (T2.setTop (mkF m 16 #[.val (.ref ra), .val (.int (0 : Int32)), .val (.int xn), .val (.int xn), .val (.ref rb)] [(.int (0 : Int32)), (.ref ra)]))
  refine own_Go.st (fun _ kt => XS.aload X2.here hx rfl (hb hby own_d_jdk_65_133_16) rfl rfl kt) ?_
  show own_Go p e below _ (T2.setTop (mkF m 18 #[.val (.ref ra), .val (.int (0 : Int32)), .val (.int xn), .val (.int xn), .val (.ref rb)] [(.ref rb), (.int (0 : Int32)), (.ref ra)]))
  refine own_Go.st (fun _ kt => XS.iconst X2.here hx rfl (hb hby own_d_jdk_65_133_18) kt) ?_
  show own_Go p e below _ (T2.setTop (mkF m 19 #[.val (.ref ra), .val (.int (0 : Int32)), .val (.int xn), .val (.int xn), .val (.ref rb)] [(.int (0 : Int32)), (.ref rb), (.int (0 : Int32)), (.ref ra)]))
  refine own_Go.st (fun _ kt => XS.aloadN X2.here hx rfl (hb hby own_d_jdk_65_133_19) rfl rfl kt) ?_
  show own_Go p e below _ (T2.setTop (mkF m 20 #[.val (.ref ra), .val (.int (0 : Int32)), .val (.int xn), .val (.int xn), .val (.ref rb)] [(.ref ra), (.int (0 : Int32)), (.ref rb), (.int (0 : Int32)), (.ref ra)]))
  have f4 := (aa.ext E2)
  refine own_Go.st (fun _ kt => own_alen X2 hx hZ e2 f4 (z := (16 : Int32)) (by decide) (g := (mkF m 20 #[.val (.ref ra), .val (.int (0 : Int32)), .val (.int xn), .val (.int xn), .val (.ref rb)] [(.ref ra), (.int (0 : Int32)), (.ref rb), (.int (0 : Int32)), (.ref ra)])) rfl rfl (hb hby own_d_jdk_65_133_20) _ kt) ?_
  show own_Go p e below _ (T2.setTop (mkF m 21 #[.val (.ref ra), .val (.int (0 : Int32)), .val (.int xn), .val (.int xn), .val (.ref rb)] [(.int (16 : Int32)), (.int (0 : Int32)), (.ref rb), (.int (0 : Int32)), (.ref ra)]))
  refine own_Go.st (fun _ kt => XS.iloadN X2.here hx rfl (hb hby own_d_jdk_65_133_21) rfl kt) ?_
  show own_Go p e below _ (T2.setTop (mkF m 22 #[.val (.ref ra), .val (.int (0 : Int32)), .val (.int xn), .val (.int xn), .val (.ref rb)] [(.int (0 : Int32)), (.int (16 : Int32)), (.int (0 : Int32)), (.ref rb), (.int (0 : Int32)), (.ref ra)]))
  refine own_Go.st (fun _ kt => XS.isub X2.here hx rfl (hb hby own_d_jdk_65_133_22) rfl kt) ?_
  show own_Go p e below _ (T2.setTop (mkF m 23 #[.val (.ref ra), .val (.int (0 : Int32)), .val (.int xn), .val (.int xn), .val (.ref rb)] [(.int ((16 : Int32) - (0 : Int32))), (.int (0 : Int32)), (.ref rb), (.int (0 : Int32)), (.ref ra)]))
  refine own_Go.st (fun _ kt => XS.iloadN X2.here hx rfl (hb hby own_d_jdk_65_133_23) rfl kt) ?_
  show own_Go p e below _ (T2.setTop (mkF m 24 #[.val (.ref ra), .val (.int (0 : Int32)), .val (.int xn), .val (.int xn), .val (.ref rb)] [(.int xn), (.int ((16 : Int32) - (0 : Int32))), (.int (0 : Int32)), (.ref rb), (.int (0 : Int32)), (.ref ra)]))
  rw [show ((16 : Int32) - (0 : Int32)) = (16 : Int32) from (by decide)]
  show own_Go p e below _ (T2.setTop (mkF m 24 #[.val (.ref ra), .val (.int (0 : Int32)), .val (.int xn), .val (.int xn), .val (.ref rb)] [(.int xn), (.int (16 : Int32)), (.int (0 : Int32)), (.ref rb), (.int (0 : Int32)), (.ref ra)]))
  obtain ⟨_, _, ⟨T5, L5, k5, n5⟩, -, X5, ⟨Lc5, hQ5, l5, y5, z5⟩, st5⟩ := Jvm.LawKit.callS X2 hx (y := (⟨"java/lang/Math", "min", "(II)I"⟩ : MethodName)) hown (mvT hZ (own_w hw 133 rfl)) (mvT hZ (own_w hw 134 rfl)) (mvT hZ (own_w hw 135 rfl)) (mvT hZ (own_w hw 136 rfl)) (by decide) (backOf (W := 4) (own_min l Z a0 hw [] (16 : Int32) xn h2 n0 zz3 (by rw [Int32.lt_iff_toInt_lt, hn, show (16 : Int32).toInt = 16 by decide]; omega)) hZ (own_w hw 136 rfl) (own_w hw 135 rfl) (by decide) (by decide)) (g := (mkF m 24 #[.val (.ref ra), .val (.int (0 : Int32)), .val (.int xn), .val (.int xn), .val (.ref rb)] [(.int xn), (.int (16 : Int32)), (.int (0 : Int32)), (.ref rb), (.int (0 : Int32)), (.ref ra)])) rfl (by rw [hml]; rfl) (argsL := [(.int (16 : Int32)), (.int xn)]) (rest := [(.int (0 : Int32)), (.ref rb), (.int (0 : Int32)), (.ref ra)]) (lenOf own_pd12 rfl) rfl (by show 2 * 0 + _ ≤ _; exact Nat.le_of_eq rfl) (hb hby own_d_jdk_65_133_24) (fun _ _ => ⟨rfl, e2, (by decide : 1 + 0 ≤ _), (by decide : 16 + 0 ≤ _)⟩)
  dsimp only [Pt.U, Pt.locs, Pt.cells, Pt.slots] at X5 l5 y5 z5 st5 hQ5
  subst l5 y5 z5
  obtain ⟨rfl, N5q, hh5⟩ := hQ5
  have N5 := Fr.app N1 N5q
  refine own_Go.st (fun _ kt => st5 _ kt) ?_
  show own_Go p e below _ (T5.setTop (mkF m 27 #[.val (.ref ra), .val (.int (0 : Int32)), .val (.int xn), .val (.int xn), .val (.ref rb)] [(.int xn), (.int (0 : Int32)), (.ref rb), (.int (0 : Int32)), (.ref ra)]))
  have ns6 := own_nstA A2
  obtain ⟨T6, h6, lc6, X6, e6, N6, K6, A6, st6⟩ := own_acp X5 hx hZ hown (own_w hw 137 rfl) (own_w hw 91 rfl) (own_w hw 89 rfl) (own_w hw 90 rfl) hh5 f4 A2 (show (16 : Int32).toInt = ((16 : Nat) : Int) by decide) hn (show (0 : Int32).toInt = ((0 : Nat) : Int) by decide) (show (0 : Int32).toInt = ((0 : Nat) : Int) by decide) hn (by omega) (by omega) N5 n0_rb (g := (mkF m 27 #[.val (.ref ra), .val (.int (0 : Int32)), .val (.int xn), .val (.int xn), .val (.ref rb)] [(.int xn), (.int (0 : Int32)), (.ref rb), (.int (0 : Int32)), (.ref ra)])) rfl (by rw [hml]; rfl) rfl (hb hby own_d_jdk_65_133_27) (by decide) (W := 0) (by show 2 * 0 + _ ≤ _; exact Nat.le_of_eq rfl) (by decide)
  refine own_Go.st st6 ?_
  have zz7 : n0 ≤ Array.size h6 := Nat.le_trans zz3 K6.1
  have kk7 : Keep h0 h6 [] := kk3.trans K6 (allS (P := fun x => x ∈ [] ∨ _) (Or.inr b_rb) all0)
  show own_Go p e below _ (T6.setTop (mkF m 30 #[.val (.ref ra), .val (.int (0 : Int32)), .val (.int xn), .val (.int xn), .val (.ref rb)] []))
  refine own_Go.st (fun _ kt => XS.aload X6.here hx rfl (hb hby own_d_jdk_65_133_30) rfl rfl kt) ?_
  show own_Go p e below _ (T6.setTop (mkF m 32 #[.val (.ref ra), .val (.int (0 : Int32)), .val (.int xn), .val (.int xn), .val (.ref rb)] [(.ref rb)]))
  have f8 := (B2.keep K6)
  have fin : own_Ar Z h6 rb .byte bs.length (own_by bs) := A6.congr fun q hq => own_by_cp bs q hq
  have fin2 := f8
  have kk := kk7
  rw [← e6] at fin fin2 kk
  exact own_retA X6 hx Bd.notSynchronized Bd.returns rfl rfl (hb hby own_d_jdk_65_133_32) (by decide) (by decide) ⟨rb, rfl, N6, fin, fin2, b_rb, kk⟩
theorem own_ef25 (m : MethodId) (x0 : Addr) (x1 : Int32) (x2 : Int32) : entryFrame m #[(.ref x0), (.int x1), (.int x2)] 3 = mkF m 0 #[.val (.ref x0), .val (.int x1), .val (.int x2)] [] := by first | (simp [entryFrame, mkF, argsToLocals, Value.category]; done) | rfl
theorem own_d_jdk_65_132_0 : decode jdk_65_method_132_code 0 = .ok (.iload_n 1, 1) := by decide +kernel
theorem own_d_jdk_65_132_1 : decode jdk_65_method_132_code 1 = .ok (.ifCond .ne 9, 3) := by decide +kernel
theorem own_d_jdk_65_132_4 : decode jdk_65_method_132_code 4 = .ok (.iload_n 2, 1) := by decide +kernel
theorem own_d_jdk_65_132_5 : decode jdk_65_method_132_code 5 = .ok (.aload_n 0, 1) := by decide +kernel
theorem own_d_jdk_65_132_6 : decode jdk_65_method_132_code 6 = .ok (.arraylength, 1) := by decide +kernel
theorem own_d_jdk_65_132_7 : decode jdk_65_method_132_code 7 = .ok (.if_icmp .eq 10, 3) := by decide +kernel
theorem own_d_jdk_65_132_10 : decode jdk_65_method_132_code 10 = .ok (.aload_n 0, 1) := by decide +kernel
theorem own_d_jdk_65_132_11 : decode jdk_65_method_132_code 11 = .ok (.iload_n 1, 1) := by decide +kernel
theorem own_d_jdk_65_132_12 : decode jdk_65_method_132_code 12 = .ok (.iload_n 2, 1) := by decide +kernel
theorem own_d_jdk_65_132_13 : decode jdk_65_method_132_code 13 = .ok (.invokestatic 339, 3) := by decide +kernel
theorem own_pd13 : parseMethodDescriptor "([BII)[B" = some ⟨[(.array .byte), .int, .int], some (.array .byte)⟩ := by decide +kernel
theorem own_d_jdk_65_132_16 : decode jdk_65_method_132_code 16 = .ok (.areturn, 1) := by decide +kernel
def own_Q_own_cor (Z : State) (ra : Addr) (xn : Int32) (bs : List Int8) (h0 : Heap) (n0 : Nat) (v : Option Value) (h : Heap) (L : List Loc) : Prop := ∃ rb, v = some (.ref rb) ∧ Fr n0 L ∧ own_Ar Z h rb .byte bs.length (own_by bs) ∧ Exa Z h rb "[B" ∧ Array.size h0 ≤ rb ∧ Keep h0 h []
set_option maxRecDepth 65536 in
set_option maxHeartbeats 40000000 in
theorem own_cor (l : Launch) (Z : State) (a0 : Array Value) (hw : ∀ d ∈ tables_1, d.before a0 Z = true) (ws : List Jvm.Cond) (ra : Addr) (xn : Int32) (bs : List Int8) (h0 : Heap) (n0 : Nat) (Z0 : n0 ≤ h0.size) (aa : own_Ar Z h0 ra .byte 16 (own_by bs)) (hn : xn.toInt = (bs.length : Int)) (hl : bs.length ≤ 15) :
    MetFree l (⟨"java/util/Arrays", "copyOfRange", "([BII)[B"⟩ : MethodName) (head1 (Jvm.Cond.code (⟨"java/util/Arrays", "copyOfRange", "([BII)[B"⟩ : MethodName) jdk_65_method_132_code 3 (some (.array .byte)) :: ws) ({ frames := 2, cells := 1, slots := 16, locals := 34 } : Room)) (fun av_ U => av_ = #[(.ref ra), (.int (0 : Int32)), (.int xn)] ∧ Z.Warmed39 U.vm ∧ U.heap = h0) (fun _ _ _ _ _ => True) (fun _ U o U' => ∃ v L, o = .returned v ∧ own_Q_own_cor Z ra xn bs h0 n0 v U'.heap L ∧ FrameEnd U o U' L ({ frames := 2, cells := 1, slots := 16, locals := 34 } : Room).cells ({ frames := 2, cells := 1, slots := 16, locals := 34 } : Room).slots) := by
  refine MetFree.of_bodySF (plainFor_of_name own_pn4) hisR ?_
  intro p e s m args below meth c s₁ Bd hml0 hP hK
  obtain ⟨rfl, hZ, hh⟩ := hP
  have hx := Bd.exec
  have hby := Bd.bytes
  have hml : c.maxLocals = 3 := hml0
  have hown : s.vm.findClass "java/util/Arrays" = some m.cls := findClass_of_methodNamed Bd.named
  have hnm := (name_of_methodNamed Bd.named Bd.method).1
  have X0 : Stand p l e ({ frames := 2, cells := 1, slots := 16, locals := 34 } : Room) s m #[(.ref ra), (.int (0 : Int32)), (.int xn)] below meth c s₁ [] 0 0 := Stand.of_body Bd
  have e0 : s₁.heap = h0 := by rw [← hh, Bd.state]; rfl
  have N0 := Fr.nil n0
  suffices hgo : own_Go p e below (fun o U' => ∃ v L, o = .returned v ∧ own_Q_own_cor Z ra xn bs h0 n0 v U'.heap L ∧ FrameEnd s o U' L ({ frames := 2, cells := 1, slots := 16, locals := 34 } : Room).cells ({ frames := 2, cells := 1, slots := 16, locals := 34 } : Room).slots) (s₁.setTop (mkF m 0 #[.val (.ref ra), .val (.int (0 : Int32)), .val (.int xn)] [])) by
    obtain ⟨s₂, o, h1, h2, h3, h4⟩ := hgo
    exact ⟨s₂, o, castTop (own_ef25 m ra (0 : Int32) xn) h1, h2, h3, h4⟩
  have kk0 : Keep h0 h0 [] := Keep.refl _ _
  show own_Go p e below _ (s₁.setTop (mkF m 0 #[.val (.ref ra), .val (.int (0 : Int32)), .val (.int xn)] []))
  refine own_Go.st (fun _ kt => XS.iloadN X0.here hx rfl (hb hby own_d_jdk_65_132_0) rfl kt) ?_
  show own_Go p e below _ (s₁.setTop (mkF m 1 #[.val (.ref ra), .val (.int (0 : Int32)), .val (.int xn)] [(.int (0 : Int32))]))
  refine own_Go.st (fun _ kt => XS.ifNo X0.here hx rfl (hb hby own_d_jdk_65_132_1) rfl ((if0 _ _).trans (teq rfl).2) kt) ?_
  show own_Go p e below _ (s₁.setTop (mkF m 4 #[.val (.ref ra), .val (.int (0 : Int32)), .val (.int xn)] []))
  refine own_Go.st (fun _ kt => XS.iloadN X0.here hx rfl (hb hby own_d_jdk_65_132_4) rfl kt) ?_
  show own_Go p e below _ (s₁.setTop (mkF m 5 #[.val (.ref ra), .val (.int (0 : Int32)), .val (.int xn)] [(.int xn)]))
  refine own_Go.st (fun _ kt => XS.aloadN X0.here hx rfl (hb hby own_d_jdk_65_132_5) rfl rfl kt) ?_
  show own_Go p e below _ (s₁.setTop (mkF m 6 #[.val (.ref ra), .val (.int (0 : Int32)), .val (.int xn)] [(.ref ra), (.int xn)]))
  refine own_Go.st (fun _ kt => own_alen X0 hx hZ e0 aa (z := (16 : Int32)) (by decide) (g := (mkF m 6 #[.val (.ref ra), .val (.int (0 : Int32)), .val (.int xn)] [(.ref ra), (.int xn)])) rfl rfl (hb hby own_d_jdk_65_132_6) _ kt) ?_
  show own_Go p e below _ (s₁.setTop (mkF m 7 #[.val (.ref ra), .val (.int (0 : Int32)), .val (.int xn)] [(.int (16 : Int32)), (.int xn)]))
  refine own_Go.st (fun _ kt => XS.icmpNo X0.here hx rfl (hb hby own_d_jdk_65_132_7) rfl (feq (fun q => by rw [q, show (16 : Int32).toInt = 16 by decide] at hn; omega)).1 kt) ?_
  show own_Go p e below _ (s₁.setTop (mkF m 10 #[.val (.ref ra), .val (.int (0 : Int32)), .val (.int xn)] []))
  refine own_Go.st (fun _ kt => XS.aloadN X0.here hx rfl (hb hby own_d_jdk_65_132_10) rfl rfl kt) ?_
  show own_Go p e below _ (s₁.setTop (mkF m 11 #[.val (.ref ra), .val (.int (0 : Int32)), .val (.int xn)] [(.ref ra)]))
  refine own_Go.st (fun _ kt => XS.iloadN X0.here hx rfl (hb hby own_d_jdk_65_132_11) rfl kt) ?_
  show own_Go p e below _ (s₁.setTop (mkF m 12 #[.val (.ref ra), .val (.int (0 : Int32)), .val (.int xn)] [(.int (0 : Int32)), (.ref ra)]))
  refine own_Go.st (fun _ kt => XS.iloadN X0.here hx rfl (hb hby own_d_jdk_65_132_12) rfl kt) ?_
  show own_Go p e below _ (s₁.setTop (mkF m 13 #[.val (.ref ra), .val (.int (0 : Int32)), .val (.int xn)] [(.int xn), (.int (0 : Int32)), (.ref ra)]))
  obtain ⟨_, _, ⟨T1, L1, k1, n1⟩, -, X1, ⟨Lc1, hQ1, l1, y1, z1⟩, st1⟩ := Jvm.LawKit.callS X0 hx (y := (⟨"java/util/Arrays", "copyOfRangeByte", "([BII)[B"⟩ : MethodName)) hown (mvT hZ (own_w hw 127 rfl)) (mvT hZ (own_w hw 128 rfl)) (mvT hZ (own_w hw 125 rfl)) (mvT hZ (own_w hw 129 rfl)) (by decide) (backOf (W := 0) (own_crb l Z a0 hw [] ra xn bs h0 n0 Z0 aa hn hl) hZ (own_w hw 129 rfl) (own_w hw 125 rfl) (by decide) (by decide)) (g := (mkF m 13 #[.val (.ref ra), .val (.int (0 : Int32)), .val (.int xn)] [(.int xn), (.int (0 : Int32)), (.ref ra)])) rfl (by rw [hml]; rfl) (argsL := [(.ref ra), (.int (0 : Int32)), (.int xn)]) (rest := []) (lenOf own_pd13 rfl) rfl (by show 2 * 0 + _ ≤ _; exact Nat.le_of_eq rfl) (hb hby own_d_jdk_65_132_13) (fun _ _ => ⟨rfl, e0, (by decide : 0 + 1 ≤ _), (by decide : 0 + 16 ≤ _)⟩)
  dsimp only [Pt.U, Pt.locs, Pt.cells, Pt.slots] at X1 l1 y1 z1 st1 hQ1
  subst l1 y1 z1
  obtain ⟨rb, rfl, N1q, ab1, eb1, bb1, KF1⟩ := hQ1
  have N1 := Fr.app N0 N1q
  refine own_Go.st (fun _ kt => st1 _ kt) ?_
  have zz2 : n0 ≤ Array.size T1.heap := Nat.le_trans Z0 KF1.1
  have kk2 : Keep h0 T1.heap [] := kk0.trans KF1 all0
  show own_Go p e below _ (T1.setTop (mkF m 16 #[.val (.ref ra), .val (.int (0 : Int32)), .val (.int xn)] [(.ref rb)]))
  have kk := kk2
  exact own_retA X1 hx Bd.notSynchronized Bd.returns rfl rfl (hb hby own_d_jdk_65_132_16) (by decide) (by decide) ⟨rb, rfl, N1, ab1, eb1, bb1, kk⟩
theorem own_ef26 (m : MethodId) (x0 : Addr) (x1 : Addr) : entryFrame m #[(.ref x0), (.ref x1), .null] 5 = mkF m 0 #[.val (.ref x0), .val (.ref x1), .val .null, .unset, .unset] [] := by first | (simp [entryFrame, mkF, argsToLocals, Value.category]; done) | rfl
theorem own_d_jdk_42_150_0 : decode jdk_42_method_150_code 0 = .ok (.aload_n 0, 1) := by decide +kernel
theorem own_d_jdk_42_150_1 : decode jdk_42_method_150_code 1 = .ok (.invokespecial 1, 3) := by decide +kernel
theorem own_d_jdk_42_150_4 : decode jdk_42_method_150_code 4 = .ok (.aload_n 1, 1) := by decide +kernel
theorem own_d_jdk_42_150_5 : decode jdk_42_method_150_code 5 = .ok (.invokevirtual 552, 3) := by decide +kernel
theorem own_pd14 : parseMethodDescriptor "()[B" = some ⟨[], some (.array .byte)⟩ := by decide +kernel
theorem own_d_jdk_42_150_8 : decode jdk_42_method_150_code 8 = .ok (.astore_n 3, 1) := by decide +kernel
theorem own_d_jdk_42_150_9 : decode jdk_42_method_150_code 9 = .ok (.aload_n 1, 1) := by decide +kernel
theorem own_d_jdk_42_150_10 : decode jdk_42_method_150_code 10 = .ok (.invokevirtual 549, 3) := by decide +kernel
theorem own_d_jdk_42_150_13 : decode jdk_42_method_150_code 13 = .ok (.istore 4, 2) := by decide +kernel
theorem own_d_jdk_42_150_15 : decode jdk_42_method_150_code 15 = .ok (.aload_n 1, 1) := by decide +kernel
theorem own_d_jdk_42_150_16 : decode jdk_42_method_150_code 16 = .ok (.invokevirtual 1047, 3) := by decide +kernel
theorem own_pd15 : parseMethodDescriptor "()Z" = some ⟨[], some .boolean⟩ := by decide +kernel
theorem own_d_jdk_42_150_19 : decode jdk_42_method_150_code 19 = .ok (.ifCond .eq 22, 3) := by decide +kernel
theorem own_d_jdk_42_150_22 : decode jdk_42_method_150_code 22 = .ok (.aload_n 0, 1) := by decide +kernel
theorem own_d_jdk_42_150_23 : decode jdk_42_method_150_code 23 = .ok (.iconst 0, 1) := by decide +kernel
theorem own_d_jdk_42_150_24 : decode jdk_42_method_150_code 24 = .ok (.putfield 15, 3) := by decide +kernel
theorem own_d_jdk_42_150_27 : decode jdk_42_method_150_code 27 = .ok (.aload_n 0, 1) := by decide +kernel
theorem own_d_jdk_42_150_28 : decode jdk_42_method_150_code 28 = .ok (.aload_n 3, 1) := by decide +kernel
theorem own_d_jdk_42_150_29 : decode jdk_42_method_150_code 29 = .ok (.iconst 0, 1) := by decide +kernel
theorem own_d_jdk_42_150_30 : decode jdk_42_method_150_code 30 = .ok (.iload 4, 2) := by decide +kernel
theorem own_d_jdk_42_150_32 : decode jdk_42_method_150_code 32 = .ok (.invokestatic 54, 3) := by decide +kernel
theorem own_d_jdk_42_150_35 : decode jdk_42_method_150_code 35 = .ok (.putfield 9, 3) := by decide +kernel
theorem own_d_jdk_42_150_38 : decode jdk_42_method_150_code 38 = .ok (.goto 59, 3) := by decide +kernel
theorem own_d_jdk_42_150_97 : decode jdk_42_method_150_code 97 = .ok (.return_, 1) := by decide +kernel
def own_Q_own_sia (Z : State) (sx ob rr : Addr) (xk : Int32) (bs : List Int8) (zc : Int32) (h0 : Heap) (n0 : Nat) (v : Option Value) (h : Heap) (L : List Loc) : Prop := ∃ rb, v = none ∧ Fr n0 L ∧ own_Sl Z h sx rb bs ∧ Exa Z h rb "[B" ∧ Array.size h0 ≤ rb ∧ Keep h0 h [sx]
set_option maxRecDepth 65536 in
set_option maxHeartbeats 40000000 in
theorem own_sia (l : Launch) (Z : State) (a0 : Array Value) (hw : ∀ d ∈ tables_1, d.before a0 Z = true) (ws : List Jvm.Cond) (sx ob rr : Addr) (xk : Int32) (bs : List Int8) (zc : Int32) (h0 : Heap) (n0 : Nat) (Z0 : n0 ≤ h0.size) (fE : Exa Z h0 sx "java/lang/String") (fV : Fld Z h0 sx "java/lang/String" "value" "[B" .null) (fC : Fld Z h0 sx "java/lang/String" "coder" "B" (.int 0)) (gs : n0 ≤ sx) (fb : own_SB Z h0 n0 ob rr xk bs) (hl : bs.length ≤ 15) (hnr : rr ≠ sx) (cs : Sta Z h0 "java/lang/String" "COMPACT_STRINGS" "Z" (.int zc)) (hzc : ¬ zc = 0) :
    MetFree l (⟨"java/lang/String", "<init>", "(Ljava/lang/AbstractStringBuilder;Ljava/lang/Void;)V"⟩ : MethodName) (head1 (Jvm.Cond.code (⟨"java/lang/String", "<init>", "(Ljava/lang/AbstractStringBuilder;Ljava/lang/Void;)V"⟩ : MethodName) jdk_42_method_150_code 5 none :: ws) ({ frames := 3, cells := 1, slots := 16, locals := 49 } : Room)) (fun av_ U => av_ = #[(.ref sx), (.ref ob), .null] ∧ Z.Warmed39 U.vm ∧ U.heap = h0) (fun _ _ _ _ _ => True) (fun _ U o U' => ∃ v L, o = .returned v ∧ own_Q_own_sia Z sx ob rr xk bs zc h0 n0 v U'.heap L ∧ FrameEnd U o U' L ({ frames := 3, cells := 1, slots := 16, locals := 49 } : Room).cells ({ frames := 3, cells := 1, slots := 16, locals := 49 } : Room).slots) := by
  refine MetFree.of_bodySF (plainFor_of_name own_pn1) hisR ?_
  intro p e s m args below meth c s₁ Bd hml0 hP hK
  obtain ⟨rfl, hZ, hh⟩ := hP
  have hx := Bd.exec
  have hby := Bd.bytes
  have hml : c.maxLocals = 5 := hml0
  have hown : s.vm.findClass "java/lang/String" = some m.cls := findClass_of_methodNamed Bd.named
  have hnm := (name_of_methodNamed Bd.named Bd.method).1
  have X0 : Stand p l e ({ frames := 3, cells := 1, slots := 16, locals := 49 } : Room) s m #[(.ref sx), (.ref ob), .null] below meth c s₁ [] 0 0 := Stand.of_body Bd
  have e0 : s₁.heap = h0 := by rw [← hh, Bd.state]; rfl
  have N0 := Fr.nil n0
  suffices hgo : own_Go p e below (fun o U' => ∃ v L, o = .returned v ∧ own_Q_own_sia Z sx ob rr xk bs zc h0 n0 v U'.heap L ∧ FrameEnd s o U' L ({ frames := 3, cells := 1, slots := 16, locals := 49 } : Room).cells ({ frames := 3, cells := 1, slots := 16, locals := 49 } : Room).slots) (s₁.setTop (mkF m 0 #[.val (.ref sx), .val (.ref ob), .val .null, .unset, .unset] [])) by
    obtain ⟨s₂, o, h1, h2, h3, h4⟩ := hgo
    exact ⟨s₂, o, castTop (own_ef26 m sx ob) h1, h2, h3, h4⟩
  have kk0 : Keep h0 h0 [sx] := Keep.refl _ _
  show own_Go p e below _ (s₁.setTop (mkF m 0 #[.val (.ref sx), .val (.ref ob), .val .null, .unset, .unset] []))
  refine own_Go.st (fun _ kt => XS.aloadN X0.here hx rfl (hb hby own_d_jdk_42_150_0) rfl rfl kt) ?_
  show own_Go p e below _ (s₁.setTop (mkF m 1 #[.val (.ref sx), .val (.ref ob), .val .null, .unset, .unset] [(.ref sx)]))
  obtain ⟨T1, X1, e1, st1⟩ := initO X0 hx hZ hown (own_w hw 11 rfl) (own_w hw 12 rfl) (own_w hw 13 rfl) e0 (g := (mkF m 1 #[.val (.ref sx), .val (.ref ob), .val .null, .unset, .unset] [(.ref sx)])) rfl (by rw [hml]; rfl) rfl (hb hby own_d_jdk_42_150_1) (by decide) (W := 0) (by show 2 * 0 + _ ≤ _; exact Nat.le_of_eq rfl) (by decide)
  refine own_Go.st st1 ?_
  show own_Go p e below _ (T1.setTop (mkF m 4 #[.val (.ref sx), .val (.ref ob), .val .null, .unset, .unset] []))
  refine own_Go.st (fun _ kt => XS.aloadN X1.here hx rfl (hb hby own_d_jdk_42_150_4) rfl rfl kt) ?_
  show own_Go p e below _ (T1.setTop (mkF m 5 #[.val (.ref sx), .val (.ref ob), .val .null, .unset, .unset] [(.ref ob)]))
  obtain ⟨cq2, kq2, q2a, q2b, q2c⟩ := isOf hZ e1 fb.1
  obtain ⟨_, _, ⟨T2, L2, k2, n2⟩, -, X2, ⟨Lc2, hQ2, l2, y2, z2⟩, st2⟩ := X1.virtualBack hx (y := (⟨"java/lang/AbstractStringBuilder", "getValue", "()[B"⟩ : MethodName)) (z := (⟨"java/lang/AbstractStringBuilder", "getValue", "()[B"⟩ : MethodName)) hown (mvT hZ (own_w hw 105 rfl)) (mvT hZ (own_w hw 106 rfl)) (notFace_of_selects (args := #[]) (mvT hZ (own_w hw 108 rfl))) (mvT hZ (own_w hw 108 rfl)) (mvT hZ (own_w hw 107 rfl)) (by decide) (backOf (W := 0) (own_gv l Z a0 hw [] ob rr h0 n0 Z0 fb.2.1) hZ (own_w hw 109 rfl) (own_w hw 36 rfl) (by decide) (by decide)) q2a q2c (g := (mkF m 5 #[.val (.ref sx), .val (.ref ob), .val .null, .unset, .unset] [(.ref ob)])) rfl (by rw [hml]; rfl) (Steps.refl _) (argsL := []) (rest := []) (lenOf own_pd14 rfl) rfl (by show 2 * 0 + _ ≤ _; exact Nat.le_of_eq rfl) (hb hby own_d_jdk_42_150_5) (fun _ _ => ⟨rfl, e1, (by decide : 0 + 0 ≤ _), (by decide : 0 + 0 ≤ _)⟩)
  dsimp only [Pt.U, Pt.locs, Pt.cells, Pt.slots] at X2 l2 y2 z2 st2 hQ2
  subst l2 y2 z2
  obtain ⟨rfl, N2q, hh2⟩ := hQ2
  have N2 := Fr.app N0 N2q
  refine own_Go.st (fun _ kt => st2.trans kt) ?_
  show own_Go p e below _ (T2.setTop (mkF m 8 #[.val (.ref sx), .val (.ref ob), .val .null, .unset, .unset] [(.ref rr)]))
  refine own_Go.st (fun _ kt => XS.astoreN X2.here hx rfl (hb hby own_d_jdk_42_150_8) rfl rfl (l' := #[.val (.ref sx), .val (.ref ob), .val .null, .val (.ref rr), .unset]) rfl kt) ?_
  show own_Go p e below _ (T2.setTop (mkF m 9 #[.val (.ref sx), .val (.ref ob), .val .null, .val (.ref rr), .unset] []))
  refine own_Go.st (fun _ kt => XS.aloadN X2.here hx rfl (hb hby own_d_jdk_42_150_9) rfl rfl kt) ?_
  show own_Go p e below _ (T2.setTop (mkF m 10 #[.val (.ref sx), .val (.ref ob), .val .null, .val (.ref rr), .unset] [(.ref ob)]))
  obtain ⟨cq3, kq3, q3a, q3b, q3c⟩ := isOf hZ hh2 fb.1
  obtain ⟨_, _, ⟨T3, L3, k3, n3⟩, -, X3, ⟨Lc3, hQ3, l3, y3, z3⟩, st3⟩ := X2.virtualBack hx (y := (⟨"java/lang/AbstractStringBuilder", "length", "()I"⟩ : MethodName)) (z := (⟨"java/lang/StringBuilder", "length", "()I"⟩ : MethodName)) hown (mvT hZ (own_w hw 110 rfl)) (mvT hZ (own_w hw 111 rfl)) (own_notFace (args := #[]) (mvT hZ (own_w hw 70 rfl)) rfl) (mvT hZ (own_w hw 113 rfl)) (mvT hZ (own_w hw 114 rfl)) (by decide) (backOf (W := 0) (own_sblen l Z a0 hw [] ob xk h0 n0 Z0 fb.1 fb.2.2.2.1) hZ (own_w hw 115 rfl) (own_w hw 28 rfl) (by decide) (by decide)) q3a q3c (g := (mkF m 10 #[.val (.ref sx), .val (.ref ob), .val .null, .val (.ref rr), .unset] [(.ref ob)])) rfl (by rw [hml]; rfl) (Steps.refl _) (argsL := []) (rest := []) (lenOf own_pd7 rfl) rfl (by show 2 * 0 + _ ≤ _; exact Nat.le_of_eq rfl) (hb hby own_d_jdk_42_150_10) (fun _ _ => ⟨rfl, hh2, (by decide : 0 + 0 ≤ _), (by decide : 0 + 0 ≤ _)⟩)
  dsimp only [Pt.U, Pt.locs, Pt.cells, Pt.slots] at X3 l3 y3 z3 st3 hQ3
  subst l3 y3 z3
  obtain ⟨rfl, N3q, hh3⟩ := hQ3
  have N3 := Fr.app N2 N3q
  refine own_Go.st (fun _ kt => st3.trans kt) ?_
  show own_Go p e below _ (T3.setTop (mkF m 13 #[.val (.ref sx), .val (.ref ob), .val .null, .val (.ref rr), .unset] [(.int xk)]))
  refine own_Go.st (fun _ kt => XS.istore X3.here hx rfl (hb hby own_d_jdk_42_150_13) rfl (l' := #[.val (.ref sx), .val (.ref ob), .val .null, .val (.ref rr), .val (.int xk)]) rfl kt) ?_
  show own_Go p e below _ (T3.setTop (mkF m 15 #[.val (.ref sx), .val (.ref ob), .val .null, .val (.ref rr), .val (.int xk)] []))
  refine own_Go.st (fun _ kt => XS.aloadN X3.here hx rfl (hb hby own_d_jdk_42_150_15) rfl rfl kt) ?_
  show own_Go p e below _ (T3.setTop (mkF m 16 #[.val (.ref sx), .val (.ref ob), .val .null, .val (.ref rr), .val (.int xk)] [(.ref ob)]))
  obtain ⟨cq4, kq4, q4a, q4b, q4c⟩ := isOf hZ hh3 fb.1
  obtain ⟨_, _, ⟨T4, L4, k4, n4⟩, -, X4, ⟨Lc4, hQ4, l4, y4, z4⟩, st4⟩ := X3.virtualBack hx (y := (⟨"java/lang/AbstractStringBuilder", "isLatin1", "()Z"⟩ : MethodName)) (z := (⟨"java/lang/AbstractStringBuilder", "isLatin1", "()Z"⟩ : MethodName)) hown (mvT hZ (own_w hw 118 rfl)) (mvT hZ (own_w hw 119 rfl)) (notFace_of_selects (args := #[]) (mvT hZ (own_w hw 121 rfl))) (mvT hZ (own_w hw 121 rfl)) (mvT hZ (own_w hw 120 rfl)) (by decide) (backOf (W := 0) (own_il l Z a0 hw [] ob zc h0 n0 Z0 fb.2.2.1 cs hzc) hZ (own_w hw 122 rfl) (own_w hw 36 rfl) (by decide) (by decide)) q4a q4c (g := (mkF m 16 #[.val (.ref sx), .val (.ref ob), .val .null, .val (.ref rr), .val (.int xk)] [(.ref ob)])) rfl (by rw [hml]; rfl) (Steps.refl _) (argsL := []) (rest := []) (lenOf own_pd15 rfl) rfl (by show 2 * 0 + _ ≤ _; exact Nat.le_of_eq rfl) (hb hby own_d_jdk_42_150_16) (fun _ _ => ⟨rfl, hh3, (by decide : 0 + 0 ≤ _), (by decide : 0 + 0 ≤ _)⟩)
  dsimp only [Pt.U, Pt.locs, Pt.cells, Pt.slots] at X4 l4 y4 z4 st4 hQ4
  subst l4 y4 z4
  obtain ⟨rfl, N4q, hh4⟩ := hQ4
  have N4 := Fr.app N3 N4q
  refine own_Go.st (fun _ kt => st4.trans kt) ?_
  show own_Go p e below _ (T4.setTop (mkF m 19 #[.val (.ref sx), .val (.ref ob), .val .null, .val (.ref rr), .val (.int xk)] [(.int (1 : Int32))]))
  refine own_Go.st (fun _ kt => XS.ifNo X4.here hx rfl (hb hby own_d_jdk_42_150_19) rfl ((if0 _ _).trans (feq (by decide)).1) kt) ?_
  show own_Go p e below _ (T4.setTop (mkF m 22 #[.val (.ref sx), .val (.ref ob), .val .null, .val (.ref rr), .val (.int xk)] []))
  refine own_Go.st (fun _ kt => XS.aloadN X4.here hx rfl (hb hby own_d_jdk_42_150_22) rfl rfl kt) ?_
  show own_Go p e below _ (T4.setTop (mkF m 23 #[.val (.ref sx), .val (.ref ob), .val .null, .val (.ref rr), .val (.int xk)] [(.ref sx)]))
  refine own_Go.st (fun _ kt => XS.iconst X4.here hx rfl (hb hby own_d_jdk_42_150_23) kt) ?_
  show own_Go p e below _ (T4.setTop (mkF m 24 #[.val (.ref sx), .val (.ref ob), .val .null, .val (.ref rr), .val (.int xk)] [(.int (0 : Int32)), (.ref sx)]))
  obtain ⟨T5, h5, X5, e5, W5, st5⟩ := putF X4 hx hZ hown (host := "") (Or.inl (own_w hw 21 rfl)) Via.refl hh4 fC fE (Or.inr ⟨(own_w hw 17 rfl), rfl, hnm⟩) (own_w hw 2 rfl) (ty := .byte) (by decide) rfl rfl (g := (mkF m 24 #[.val (.ref sx), .val (.ref ob), .val .null, .val (.ref rr), .val (.int xk)] [(.int (0 : Int32)), (.ref sx)])) rfl rfl (hb hby own_d_jdk_42_150_24)
  refine own_Go.st st5 ?_
  have N5 := Fr.snoc X5 N4 gs
  have f5_coder := Fld.same W5 fC
  have zz6 : n0 ≤ Array.size h5 := Nat.le_trans Z0 (Nat.le_of_eq (Wr.size W5).symm)
  have kk6 : Keep h0 h5 [sx] := kk0.wr W5 (Or.inl (List.mem_of_getElem? (i := 0) rfl))
  show own_Go p e below _ (T5.setTop (mkF m 27 #[.val (.ref sx), .val (.ref ob), .val .null, .val (.ref rr), .val (.int xk)] []))
  refine own_Go.st (fun _ kt => XS.aloadN X5.here hx rfl (hb hby own_d_jdk_42_150_27) rfl rfl kt) ?_
  show own_Go p e below _ (T5.setTop (mkF m 28 #[.val (.ref sx), .val (.ref ob), .val .null, .val (.ref rr), .val (.int xk)] [(.ref sx)]))
  refine own_Go.st (fun _ kt => XS.aloadN X5.here hx rfl (hb hby own_d_jdk_42_150_28) rfl rfl kt) ?_
  show own_Go p e below _ (T5.setTop (mkF m 29 #[.val (.ref sx), .val (.ref ob), .val .null, .val (.ref rr), .val (.int xk)] [(.ref rr), (.ref sx)]))
  refine own_Go.st (fun _ kt => XS.iconst X5.here hx rfl (hb hby own_d_jdk_42_150_29) kt) ?_
  show own_Go p e below _ (T5.setTop (mkF m 30 #[.val (.ref sx), .val (.ref ob), .val .null, .val (.ref rr), .val (.int xk)] [(.int (0 : Int32)), (.ref rr), (.ref sx)]))
  refine own_Go.st (fun _ kt => XS.iload X5.here hx rfl (hb hby own_d_jdk_42_150_30) rfl kt) ?_
  show own_Go p e below _ (T5.setTop (mkF m 32 #[.val (.ref sx), .val (.ref ob), .val .null, .val (.ref rr), .val (.int xk)] [(.int xk), (.int (0 : Int32)), (.ref rr), (.ref sx)]))
  have f7 := (fE.wr W5)
  have sxl := (f7).lt
  have kk1 := kk6
  have f8 := (fb.2.2.2.2.1.other W5 hnr)
  obtain ⟨_, _, ⟨T9, L9, k9, n9⟩, -, X9, ⟨Lc9, hQ9, l9, y9, z9⟩, st9⟩ := Jvm.LawKit.callS X5 hx (y := (⟨"java/util/Arrays", "copyOfRange", "([BII)[B"⟩ : MethodName)) hown (mvT hZ (own_w hw 123 rfl)) (mvT hZ (own_w hw 124 rfl)) (mvT hZ (own_w hw 125 rfl)) (mvT hZ (own_w hw 126 rfl)) (by decide) (backOf (W := 1) (own_cor l Z a0 hw [] rr xk bs h5 n0 zz6 f8 fb.2.2.2.2.2.1 hl) hZ (own_w hw 126 rfl) (own_w hw 125 rfl) (by decide) (by decide)) (g := (mkF m 32 #[.val (.ref sx), .val (.ref ob), .val .null, .val (.ref rr), .val (.int xk)] [(.int xk), (.int (0 : Int32)), (.ref rr), (.ref sx)])) rfl (by rw [hml]; rfl) (argsL := [(.ref rr), (.int (0 : Int32)), (.int xk)]) (rest := [(.ref sx)]) (lenOf own_pd13 rfl) rfl (by show 2 * 0 + _ ≤ _; exact Nat.le_of_eq rfl) (hb hby own_d_jdk_42_150_32) (fun _ _ => ⟨rfl, e5, (by decide : 0 + 1 ≤ _), (by decide : 0 + 16 ≤ _)⟩)
  dsimp only [Pt.U, Pt.locs, Pt.cells, Pt.slots] at X9 l9 y9 z9 st9 hQ9
  subst l9 y9 z9
  obtain ⟨rb, rfl, N9q, ab9, eb9, bb9, KF9⟩ := hQ9
  have N9 := Fr.app N5 N9q
  refine own_Go.st (fun _ kt => st9 _ kt) ?_
  have zz10 : n0 ≤ Array.size T9.heap := Nat.le_trans zz6 KF9.1
  have kk10 : Keep h0 T9.heap [sx] := kk6.trans KF9 all0
  show own_Go p e below _ (T9.setTop (mkF m 35 #[.val (.ref sx), .val (.ref ob), .val .null, .val (.ref rr), .val (.int xk)] [(.ref rb), (.ref sx)]))
  have nesb : sx ≠ rb := Nat.ne_of_lt (Nat.lt_of_lt_of_le sxl bb9)
  have f11 := ((fV.other W5 (Or.inr (slot_ne (Or.inr (own_w hw 16 rfl)) (Or.inr (own_w hw 17 rfl)) (by decide) (t := (.array .byte)) (t' := .byte) (by decide) (by decide)))).keep KF9 nin0)
  have f12 := (f7.keep KF9)
  obtain ⟨T13, h13, X13, e13, W13, st13⟩ := putF X9 hx hZ hown (host := "") (Or.inl (own_w hw 20 rfl)) Via.refl rfl f11 f12 (Or.inr ⟨(own_w hw 16 rfl), rfl, hnm⟩) (own_w hw 2 rfl) (ty := (.array .byte)) (by decide) rfl rfl (g := (mkF m 35 #[.val (.ref sx), .val (.ref ob), .val .null, .val (.ref rr), .val (.int xk)] [(.ref rb), (.ref sx)])) rfl rfl (hb hby own_d_jdk_42_150_35)
  refine own_Go.st st13 ?_
  have N13 := Fr.snoc X13 N9 gs
  have f13_value := Fld.same W13 f11
  have zz14 : n0 ≤ Array.size h13 := Nat.le_trans zz10 (Nat.le_of_eq (Wr.size W13).symm)
  have kk14 : Keep h0 h13 [sx] := kk10.wr W13 (Or.inl (List.mem_of_getElem? (i := 0) rfl))
  show own_Go p e below _ (T13.setTop (mkF m 38 #[.val (.ref sx), .val (.ref ob), .val .null, .val (.ref rr), .val (.int xk)] []))
  refine own_Go.st (fun _ kt => XS.goto X13.here hx rfl (pc0 := 38) (pc' := 97) rfl (hb hby own_d_jdk_42_150_38) (by decide) (by decide) kt) ?_
  show own_Go p e below _ (T13.setTop (mkF m 97 #[.val (.ref sx), .val (.ref ob), .val .null, .val (.ref rr), .val (.int xk)] []))
  have f15 := (f12.wr W13)
  have f16 := ((f5_coder.keep KF9 nin0).other W13 (Or.inr (slot_ne (Or.inr (own_w hw 17 rfl)) (Or.inr (own_w hw 16 rfl)) (by decide) (t := .byte) (t' := (.array .byte)) (by decide) (by decide))))
  have f17 := (ab9.other W13 (Ne.symm nesb))
  have f18 := (eb9.wr W13)
  have fin : own_Sl Z h13 sx rb bs := ⟨f15, f16, f13_value, f17⟩
  have fin2 := f18
  have kk := kk14
  rw [← e13] at fin fin2 kk
  exact own_retV X13 hx Bd.notSynchronized Bd.returns (hb hby own_d_jdk_42_150_97) (by decide) (by decide) ⟨rb, rfl, N13, fin, fin2, Nat.le_trans kk1.1 bb9, kk⟩
theorem own_ef27 (m : MethodId) (x0 : Addr) (x1 : Addr) : entryFrame m #[(.ref x0), (.ref x1)] 2 = mkF m 0 #[.val (.ref x0), .val (.ref x1)] [] := by first | (simp [entryFrame, mkF, argsToLocals, Value.category]; done) | rfl
theorem own_d_jdk_42_53_0 : decode jdk_42_method_53_code 0 = .ok (.aload_n 0, 1) := by decide +kernel
theorem own_d_jdk_42_53_1 : decode jdk_42_method_53_code 1 = .ok (.aload_n 1, 1) := by decide +kernel
theorem own_d_jdk_42_53_2 : decode jdk_42_method_53_code 2 = .ok (.aconst_null, 1) := by decide +kernel
theorem own_d_jdk_42_53_3 : decode jdk_42_method_53_code 3 = .ok (.invokespecial 489, 3) := by decide +kernel
theorem own_pd16 : parseMethodDescriptor "(Ljava/lang/AbstractStringBuilder;Ljava/lang/Void;)V" = some ⟨[(.object "java/lang/AbstractStringBuilder"), (.object "java/lang/Void")], none⟩ := by decide +kernel
theorem own_d_jdk_42_53_6 : decode jdk_42_method_53_code 6 = .ok (.return_, 1) := by decide +kernel
def own_Q_own_sib (Z : State) (sx ob rr : Addr) (xk : Int32) (bs : List Int8) (zc : Int32) (h0 : Heap) (n0 : Nat) (v : Option Value) (h : Heap) (L : List Loc) : Prop := ∃ rb, v = none ∧ Fr n0 L ∧ own_Sl Z h sx rb bs ∧ Exa Z h rb "[B" ∧ Array.size h0 ≤ rb ∧ Keep h0 h [sx]
set_option maxRecDepth 65536 in
set_option maxHeartbeats 40000000 in
theorem own_sib (l : Launch) (Z : State) (a0 : Array Value) (hw : ∀ d ∈ tables_1, d.before a0 Z = true) (ws : List Jvm.Cond) (sx ob rr : Addr) (xk : Int32) (bs : List Int8) (zc : Int32) (h0 : Heap) (n0 : Nat) (Z0 : n0 ≤ h0.size) (fE : Exa Z h0 sx "java/lang/String") (fV : Fld Z h0 sx "java/lang/String" "value" "[B" .null) (fC : Fld Z h0 sx "java/lang/String" "coder" "B" (.int 0)) (gs : n0 ≤ sx) (fb : own_SB Z h0 n0 ob rr xk bs) (hl : bs.length ≤ 15) (hnr : rr ≠ sx) (cs : Sta Z h0 "java/lang/String" "COMPACT_STRINGS" "Z" (.int zc)) (hzc : ¬ zc = 0) :
    MetFree l (⟨"java/lang/String", "<init>", "(Ljava/lang/StringBuilder;)V"⟩ : MethodName) (head1 (Jvm.Cond.code (⟨"java/lang/String", "<init>", "(Ljava/lang/StringBuilder;)V"⟩ : MethodName) jdk_42_method_53_code 2 none :: ws) ({ frames := 4, cells := 1, slots := 16, locals := 65 } : Room)) (fun av_ U => av_ = #[(.ref sx), (.ref ob)] ∧ Z.Warmed39 U.vm ∧ U.heap = h0) (fun _ _ _ _ _ => True) (fun _ U o U' => ∃ v L, o = .returned v ∧ own_Q_own_sib Z sx ob rr xk bs zc h0 n0 v U'.heap L ∧ FrameEnd U o U' L ({ frames := 4, cells := 1, slots := 16, locals := 65 } : Room).cells ({ frames := 4, cells := 1, slots := 16, locals := 65 } : Room).slots) := by
  refine MetFree.of_bodySF (plainFor_of_name own_pn1) hisR ?_
  intro p e s m args below meth c s₁ Bd hml0 hP hK
  obtain ⟨rfl, hZ, hh⟩ := hP
  have hx := Bd.exec
  have hby := Bd.bytes
  have hml : c.maxLocals = 2 := hml0
  have hown : s.vm.findClass "java/lang/String" = some m.cls := findClass_of_methodNamed Bd.named
  have hnm := (name_of_methodNamed Bd.named Bd.method).1
  have X0 : Stand p l e ({ frames := 4, cells := 1, slots := 16, locals := 65 } : Room) s m #[(.ref sx), (.ref ob)] below meth c s₁ [] 0 0 := Stand.of_body Bd
  have e0 : s₁.heap = h0 := by rw [← hh, Bd.state]; rfl
  have N0 := Fr.nil n0
  suffices hgo : own_Go p e below (fun o U' => ∃ v L, o = .returned v ∧ own_Q_own_sib Z sx ob rr xk bs zc h0 n0 v U'.heap L ∧ FrameEnd s o U' L ({ frames := 4, cells := 1, slots := 16, locals := 65 } : Room).cells ({ frames := 4, cells := 1, slots := 16, locals := 65 } : Room).slots) (s₁.setTop (mkF m 0 #[.val (.ref sx), .val (.ref ob)] [])) by
    obtain ⟨s₂, o, h1, h2, h3, h4⟩ := hgo
    exact ⟨s₂, o, castTop (own_ef27 m sx ob) h1, h2, h3, h4⟩
  have kk0 : Keep h0 h0 [sx] := Keep.refl _ _
  show own_Go p e below _ (s₁.setTop (mkF m 0 #[.val (.ref sx), .val (.ref ob)] []))
  refine own_Go.st (fun _ kt => XS.aloadN X0.here hx rfl (hb hby own_d_jdk_42_53_0) rfl rfl kt) ?_
  show own_Go p e below _ (s₁.setTop (mkF m 1 #[.val (.ref sx), .val (.ref ob)] [(.ref sx)]))
  refine own_Go.st (fun _ kt => XS.aloadN X0.here hx rfl (hb hby own_d_jdk_42_53_1) rfl rfl kt) ?_
  show own_Go p e below _ (s₁.setTop (mkF m 2 #[.val (.ref sx), .val (.ref ob)] [(.ref ob), (.ref sx)]))
  refine own_Go.st (fun _ kt => XS.aconstNull X0.here hx rfl (hb hby own_d_jdk_42_53_2) kt) ?_
  show own_Go p e below _ (s₁.setTop (mkF m 3 #[.val (.ref sx), .val (.ref ob)] [.null, (.ref ob), (.ref sx)]))
  obtain ⟨_, _, ⟨T1, L1, k1, n1⟩, -, X1, ⟨Lc1, hQ1, l1, y1, z1⟩, st1⟩ := X0.specialBack hx (y := (⟨"java/lang/String", "<init>", "(Ljava/lang/AbstractStringBuilder;Ljava/lang/Void;)V"⟩ : MethodName)) rfl hown (mvT hZ (own_w hw 102 rfl)) (mvT hZ (own_w hw 103 rfl)) (mvT hZ (own_w hw 104 rfl)) (by decide) (backOf (W := 0) (own_sia l Z a0 hw [] sx ob rr xk bs zc h0 n0 Z0 fE fV fC gs fb hl hnr cs hzc) hZ (own_w hw 104 rfl) (own_w hw 3 rfl) (by decide) (by decide)) (g := (mkF m 3 #[.val (.ref sx), .val (.ref ob)] [.null, (.ref ob), (.ref sx)])) rfl (by rw [hml]; rfl) (Steps.refl _) (a := sx) (argsL := [(.ref ob), .null]) (rest := []) (lenOf own_pd16 rfl) rfl (by show 2 * 0 + _ ≤ _; exact Nat.le_of_eq rfl) (hb hby own_d_jdk_42_53_3) (fun _ _ => ⟨rfl, e0, (by decide : 0 + 1 ≤ _), (by decide : 0 + 16 ≤ _)⟩)
  dsimp only [Pt.U, Pt.locs, Pt.cells, Pt.slots] at X1 l1 y1 z1 st1 hQ1
  subst l1 y1 z1
  obtain ⟨rb, rfl, N1q, st_1, eb1, bb1, KF1⟩ := hQ1
  have N1 := Fr.app N0 N1q
  refine own_Go.st (fun _ kt => st1.trans kt) ?_
  have zz2 : n0 ≤ Array.size T1.heap := Nat.le_trans Z0 KF1.1
  have kk2 : Keep h0 T1.heap [sx] := kk0.trans KF1 (allS (P := fun x => x ∈ [sx] ∨ _) (Or.inl (List.mem_of_getElem? (i := 0) rfl)) all0)
  show own_Go p e below _ (T1.setTop (mkF m 6 #[.val (.ref sx), .val (.ref ob)] []))
  have kk := kk2
  exact own_retV X1 hx Bd.notSynchronized Bd.returns (hb hby own_d_jdk_42_53_6) (by decide) (by decide) ⟨rb, rfl, N1, st_1, eb1, bb1, kk⟩
theorem own_ef28 (m : MethodId) (x0 : Addr) : entryFrame m #[(.ref x0)] 1 = mkF m 0 #[.val (.ref x0)] [] := by first | (simp [entryFrame, mkF, argsToLocals, Value.category]; done) | rfl
theorem own_d_jdk_67_42_0 : decode jdk_67_method_42_code 0 = .ok (.new 18, 3) := by decide +kernel
theorem own_d_jdk_67_42_3 : decode jdk_67_method_42_code 3 = .ok (.dup, 1) := by decide +kernel
theorem own_d_jdk_67_42_4 : decode jdk_67_method_42_code 4 = .ok (.aload_n 0, 1) := by decide +kernel
theorem own_d_jdk_67_42_5 : decode jdk_67_method_42_code 5 = .ok (.invokespecial 137, 3) := by decide +kernel
theorem own_pd17 : parseMethodDescriptor "(Ljava/lang/StringBuilder;)V" = some ⟨[(.object "java/lang/StringBuilder")], none⟩ := by decide +kernel
theorem own_d_jdk_67_42_8 : decode jdk_67_method_42_code 8 = .ok (.areturn, 1) := by decide +kernel
def own_Q_own_ts (Z : State) (ob rr : Addr) (xk : Int32) (bs : List Int8) (zc : Int32) (h0 : Heap) (n0 : Nat) (v : Option Value) (h : Heap) (L : List Loc) : Prop := ∃ sx rb, v = some (.ref sx) ∧ Fr n0 L ∧ own_Sl Z h sx rb bs ∧ Exa Z h rb "[B" ∧ Keep h0 h []
set_option maxRecDepth 65536 in
set_option maxHeartbeats 40000000 in
theorem own_ts (l : Launch) (Z : State) (a0 : Array Value) (hw : ∀ d ∈ tables_1, d.before a0 Z = true) (ws : List Jvm.Cond) (ob rr : Addr) (xk : Int32) (bs : List Int8) (zc : Int32) (h0 : Heap) (n0 : Nat) (Z0 : n0 ≤ h0.size) (fb : own_SB Z h0 n0 ob rr xk bs) (hl : bs.length ≤ 15) (cs : Sta Z h0 "java/lang/String" "COMPACT_STRINGS" "Z" (.int zc)) (hzc : ¬ zc = 0) :
    MetFree l (⟨"java/lang/StringBuilder", "toString", "()Ljava/lang/String;"⟩ : MethodName) (head1 (Jvm.Cond.code (⟨"java/lang/StringBuilder", "toString", "()Ljava/lang/String;"⟩ : MethodName) jdk_67_method_42_code 1 (some (.object "java/lang/String")) :: ws) ({ frames := 5, cells := 2, slots := 20, locals := 79 } : Room)) (fun av_ U => av_ = #[(.ref ob)] ∧ Z.Warmed39 U.vm ∧ U.heap = h0) (fun _ _ _ _ _ => True) (fun _ U o U' => ∃ v L, o = .returned v ∧ own_Q_own_ts Z ob rr xk bs zc h0 n0 v U'.heap L ∧ FrameEnd U o U' L ({ frames := 5, cells := 2, slots := 20, locals := 79 } : Room).cells ({ frames := 5, cells := 2, slots := 20, locals := 79 } : Room).slots) := by
  refine MetFree.of_bodySF (plainFor_of_name own_pn3) hisR ?_
  intro p e s m args below meth c s₁ Bd hml0 hP hK
  obtain ⟨rfl, hZ, hh⟩ := hP
  have hx := Bd.exec
  have hby := Bd.bytes
  have hml : c.maxLocals = 1 := hml0
  have hown : s.vm.findClass "java/lang/StringBuilder" = some m.cls := findClass_of_methodNamed Bd.named
  have hnm := (name_of_methodNamed Bd.named Bd.method).1
  have X0 : Stand p l e ({ frames := 5, cells := 2, slots := 20, locals := 79 } : Room) s m #[(.ref ob)] below meth c s₁ [] 0 0 := Stand.of_body Bd
  have e0 : s₁.heap = h0 := by rw [← hh, Bd.state]; rfl
  have N0 := Fr.nil n0
  suffices hgo : own_Go p e below (fun o U' => ∃ v L, o = .returned v ∧ own_Q_own_ts Z ob rr xk bs zc h0 n0 v U'.heap L ∧ FrameEnd s o U' L ({ frames := 5, cells := 2, slots := 20, locals := 79 } : Room).cells ({ frames := 5, cells := 2, slots := 20, locals := 79 } : Room).slots) (s₁.setTop (mkF m 0 #[.val (.ref ob)] [])) by
    obtain ⟨s₂, o, h1, h2, h3, h4⟩ := hgo
    exact ⟨s₂, o, castTop (own_ef28 m ob) h1, h2, h3, h4⟩
  have kk0 : Keep h0 h0 [] := Keep.refl _ _
  show own_Go p e below _ (s₁.setTop (mkF m 0 #[.val (.ref ob)] []))
  obtain ⟨T1, h1, X1, e1, E1, A1, D1, U1, st1⟩ := newO X0 hx hZ hown (own_w hw 98 rfl) (own_w hw 2 rfl) (own_w hw 3 rfl) e0 (g := (mkF m 0 #[.val (.ref ob)] [])) rfl (hb hby own_d_jdk_67_42_0) (by decide) (by decide)
  obtain ⟨sx, g1⟩ : ∃ z, z = Array.size h0 := ⟨_, rfl⟩
  rw [← g1] at A1 D1 U1 st1
  refine own_Go.st st1 ?_
  have ne_ob_sx : ob ≠ sx := Nat.ne_of_lt (Nat.lt_of_lt_of_le (fb.1).lt (Nat.le_of_eq g1.symm))
  have ne_rr_sx : rr ≠ sx := Nat.ne_of_lt (Nat.lt_of_lt_of_le (fb.2.2.2.2.1).lt (Nat.le_of_eq g1.symm))
  have n0_sx : n0 ≤ sx := Nat.le_trans Z0 (Nat.le_of_eq g1.symm)
  have b_sx : Array.size h0 ≤ sx := Nat.le_trans kk0.1 (Nat.le_of_eq g1.symm)
  have zz2 : n0 ≤ Array.size h1 := Nat.le_trans Z0 E1.1
  have kk2 : Keep h0 h1 [] := kk0.ext E1
  have D1_value : Fld Z h1 sx "java/lang/String" "value" "[B" .null := D1 (Or.inr (own_w hw 16 rfl)) (ty := (.array .byte)) (by decide)
  have D1_coder : Fld Z h1 sx "java/lang/String" "coder" "B" (.int 0) := D1 (Or.inr (own_w hw 17 rfl)) (ty := .byte) (by decide)
  show own_Go p e below _ (T1.setTop (mkF m 3 #[.val (.ref ob)] [(.ref sx)]))
  refine own_Go.st (fun _ kt => XS.dup X1.here hx rfl (hb hby own_d_jdk_67_42_3) rfl rfl kt) ?_
  show own_Go p e below _ (T1.setTop (mkF m 4 #[.val (.ref ob)] [(.ref sx), (.ref sx)]))
  refine own_Go.st (fun _ kt => XS.aloadN X1.here hx rfl (hb hby own_d_jdk_67_42_4) rfl rfl kt) ?_
  show own_Go p e below _ (T1.setTop (mkF m 5 #[.val (.ref ob)] [(.ref ob), (.ref sx), (.ref sx)]))
  have f3 := (fb.1.ext E1)
  have f4 := (fb.2.1.ext E1)
  have f5 := (fb.2.2.1.ext E1)
  have f6 := (fb.2.2.2.1.ext E1)
  have f7 := (fb.2.2.2.2.1.ext E1)
  have f8 := (cs.ext E1)
  obtain ⟨_, _, ⟨T9, L9, k9, n9⟩, -, X9, ⟨Lc9, hQ9, l9, y9, z9⟩, st9⟩ := X1.specialBack hx (y := (⟨"java/lang/String", "<init>", "(Ljava/lang/StringBuilder;)V"⟩ : MethodName)) rfl hown (mvT hZ (own_w hw 99 rfl)) (mvT hZ (own_w hw 100 rfl)) (mvT hZ (own_w hw 101 rfl)) (by decide) (backOf (W := 1) (own_sib l Z a0 hw [] sx ob rr xk bs zc h1 n0 zz2 A1 D1_value D1_coder n0_sx ⟨f3, f4, f5, f6, f7, fb.2.2.2.2.2.1, fb.2.2.2.2.2.2.1, fb.2.2.2.2.2.2.2.1, fb.2.2.2.2.2.2.2.2⟩ hl ne_rr_sx f8 hzc) hZ (own_w hw 101 rfl) (own_w hw 3 rfl) (by decide) (by decide)) (g := (mkF m 5 #[.val (.ref ob)] [(.ref ob), (.ref sx), (.ref sx)])) rfl (by rw [hml]; rfl) (Steps.refl _) (a := sx) (argsL := [(.ref ob)]) (rest := [(.ref sx)]) (lenOf own_pd17 rfl) rfl (by show 2 * 0 + _ ≤ _; exact Nat.le_of_eq rfl) (hb hby own_d_jdk_67_42_5) (fun _ _ => ⟨rfl, e1, (by decide : 1 + 1 ≤ _), (by decide : 4 + 16 ≤ _)⟩)
  dsimp only [Pt.U, Pt.locs, Pt.cells, Pt.slots] at X9 l9 y9 z9 st9 hQ9
  subst l9 y9 z9
  obtain ⟨rb, rfl, N9q, st_9, eb9, bb9, KF9⟩ := hQ9
  have N9 := Fr.app N0 N9q
  refine own_Go.st (fun _ kt => st9.trans kt) ?_
  have zz10 : n0 ≤ Array.size T9.heap := Nat.le_trans zz2 KF9.1
  have kk10 : Keep h0 T9.heap [] := kk2.trans KF9 (allS (P := fun x => x ∈ [] ∨ _) (Or.inr b_sx) all0)
  show own_Go p e below _ (T9.setTop (mkF m 8 #[.val (.ref ob)] [(.ref sx)]))
  have kk := kk10
  exact own_retA X9 hx Bd.notSynchronized Bd.returns rfl rfl (hb hby own_d_jdk_67_42_8) (by decide) (by decide) ⟨sx, rb, rfl, N9, st_9, eb9, kk⟩
theorem own_nar8 (x : Int8) : nar .byte x.toInt32 = x.toInt32 := by
  show x.toInt32.toInt8.toInt32 = _
  rw [Int8.toInt8_toInt32]
theorem own_neg2 {bs : List Int8} {i : Nat} (hi : i < bs.length) (hneg : (bs.getD i 0).toInt32 < 0) : own_enc (bs.take (i + 1)) = own_enc (bs.take i) ++ [((192 : Int32) ||| (((bs.getD i 0).toInt32 &&& 255) >>> ((6 : Int32) &&& 31))).toInt8] ++ [((128 : Int32) ||| ((bs.getD i 0).toInt32 &&& 63)).toInt8] := by
  rw [own_enc_take bs hi, own_e1, if_pos hneg, List.append_assoc]; rfl
theorem own_pos1 {bs : List Int8} {i : Nat} (hi : i < bs.length) (hneg : ¬ (bs.getD i 0).toInt32 < 0) : own_enc (bs.take (i + 1)) = own_enc (bs.take i) ++ [bs.getD i 0] := by
  rw [own_enc_take bs hi, own_e1, if_neg hneg]
theorem own_enc_tl {bs : List Int8} {i : Nat} (hi : i ≤ bs.length) : (own_enc (bs.take i)).length ≤ 2 * i := by
  have h := own_enc_len (bs.take i)
  rw [List.length_take, Nat.min_eq_left hi] at h
  exact h
theorem own_enc_full {bs : List Int8} {i : Nat} (hi : i = bs.length) : own_enc (bs.take i) = own_enc bs := by rw [hi, List.take_length]
theorem own_pn5 : plainName "java/lang/StringCoding" = true := by first | (simp [plainName, overriddenIn]; done) | decide +kernel
theorem own_ef29 (m : MethodId) (x0 : Addr) (x1 : Int32) (x2 : Int32) : entryFrame m #[(.ref x0), (.int x1), (.int x2)] 5 = mkF m 0 #[.val (.ref x0), .val (.int x1), .val (.int x2), .unset, .unset] [] := by first | (simp [entryFrame, mkF, argsToLocals, Value.category]; done) | rfl
theorem own_d_jdk_123_3_0 : decode jdk_123_method_3_code 0 = .ok (.iload_n 1, 1) := by decide +kernel
theorem own_d_jdk_123_3_1 : decode jdk_123_method_3_code 1 = .ok (.iload_n 2, 1) := by decide +kernel
theorem own_d_jdk_123_3_2 : decode jdk_123_method_3_code 2 = .ok (.iadd, 1) := by decide +kernel
theorem own_d_jdk_123_3_3 : decode jdk_123_method_3_code 3 = .ok (.istore_n 3, 1) := by decide +kernel
theorem own_d_jdk_123_3_4 : decode jdk_123_method_3_code 4 = .ok (.iload_n 1, 1) := by decide +kernel
theorem own_d_jdk_123_3_5 : decode jdk_123_method_3_code 5 = .ok (.istore 4, 2) := by decide +kernel
theorem own_d_jdk_123_3_7 : decode jdk_123_method_3_code 7 = .ok (.iload 4, 2) := by decide +kernel
theorem own_d_jdk_123_3_9 : decode jdk_123_method_3_code 9 = .ok (.iload_n 3, 1) := by decide +kernel
theorem own_d_jdk_123_3_10 : decode jdk_123_method_3_code 10 = .ok (.if_icmp .ge 21, 3) := by decide +kernel
theorem own_d_jdk_123_3_13 : decode jdk_123_method_3_code 13 = .ok (.aload_n 0, 1) := by decide +kernel
theorem own_d_jdk_123_3_14 : decode jdk_123_method_3_code 14 = .ok (.iload 4, 2) := by decide +kernel
theorem own_d_jdk_123_3_16 : decode jdk_123_method_3_code 16 = .ok (.baload, 1) := by decide +kernel
theorem own_d_jdk_123_3_17 : decode jdk_123_method_3_code 17 = .ok (.ifCond .ge 8, 3) := by decide +kernel
theorem own_d_jdk_123_3_20 : decode jdk_123_method_3_code 20 = .ok (.iload 4, 2) := by decide +kernel
theorem own_d_jdk_123_3_22 : decode jdk_123_method_3_code 22 = .ok (.iload_n 1, 1) := by decide +kernel
theorem own_d_jdk_123_3_23 : decode jdk_123_method_3_code 23 = .ok (.isub, 1) := by decide +kernel
theorem own_d_jdk_123_3_24 : decode jdk_123_method_3_code 24 = .ok (.ireturn, 1) := by decide +kernel
theorem own_d_jdk_123_3_25 : decode jdk_123_method_3_code 25 = .ok (.iinc 4 1, 3) := by decide +kernel
theorem own_d_jdk_123_3_28 : decode jdk_123_method_3_code 28 = .ok (.goto (-21), 3) := by decide +kernel
theorem own_d_jdk_123_3_31 : decode jdk_123_method_3_code 31 = .ok (.iload_n 2, 1) := by decide +kernel
theorem own_d_jdk_123_3_32 : decode jdk_123_method_3_code 32 = .ok (.ireturn, 1) := by decide +kernel
def own_Q_own_cpz (Z : State) (ra : Addr) (xn : Int32) (bs : List Int8) (h0 : Heap) (n0 : Nat) (v : Option Value) (h : Heap) (L : List Loc) : Prop := ∃ z, v = some (.int z) ∧ Fr n0 L ∧ ((z = xn ∧ (∀ j, j < bs.length → ¬ (bs.getD j 0).toInt32 < 0)) ∨ z ≠ xn) ∧ h = h0
set_option maxRecDepth 65536 in
set_option maxHeartbeats 40000000 in
theorem own_cpz (l : Launch) (Z : State) (a0 : Array Value) (hw : ∀ d ∈ tables_1, d.before a0 Z = true) (ws : List Jvm.Cond) (ra : Addr) (xn : Int32) (bs : List Int8) (h0 : Heap) (n0 : Nat) (Z0 : n0 ≤ h0.size) (aa : own_Ar Z h0 ra .byte bs.length (own_by bs)) (hn : xn.toInt = (bs.length : Int)) (hl : bs.length ≤ 8) :
    MetFree l (⟨"java/lang/StringCoding", "countPositives", "([BII)I"⟩ : MethodName) (head1 (Jvm.Cond.code (⟨"java/lang/StringCoding", "countPositives", "([BII)I"⟩ : MethodName) jdk_123_method_3_code 5 (some .int) :: ws) ({ frames := 0, cells := 0, slots := 0, locals := 0 } : Room)) (fun av_ U => av_ = #[(.ref ra), (.int (0 : Int32)), (.int xn)] ∧ Z.Warmed39 U.vm ∧ U.heap = h0) (fun _ _ _ _ _ => True) (fun _ U o U' => ∃ v L, o = .returned v ∧ own_Q_own_cpz Z ra xn bs h0 n0 v U'.heap L ∧ FrameEnd U o U' L ({ frames := 0, cells := 0, slots := 0, locals := 0 } : Room).cells ({ frames := 0, cells := 0, slots := 0, locals := 0 } : Room).slots) := by
  refine MetFree.of_bodySF (plainFor_of_name own_pn5) hisR ?_
  intro p e s m args below meth c s₁ Bd hml0 hP hK
  obtain ⟨rfl, hZ, hh⟩ := hP
  have hx := Bd.exec
  have hby := Bd.bytes
  have hml : c.maxLocals = 5 := hml0
  have hown : s.vm.findClass "java/lang/StringCoding" = some m.cls := findClass_of_methodNamed Bd.named
  have hnm := (name_of_methodNamed Bd.named Bd.method).1
  have X0 : Stand p l e ({ frames := 0, cells := 0, slots := 0, locals := 0 } : Room) s m #[(.ref ra), (.int (0 : Int32)), (.int xn)] below meth c s₁ [] 0 0 := Stand.of_body Bd
  have e0 : s₁.heap = h0 := by rw [← hh, Bd.state]; rfl
  have N0 := Fr.nil n0
  suffices hgo : own_Go p e below (fun o U' => ∃ v L, o = .returned v ∧ own_Q_own_cpz Z ra xn bs h0 n0 v U'.heap L ∧ FrameEnd s o U' L ({ frames := 0, cells := 0, slots := 0, locals := 0 } : Room).cells ({ frames := 0, cells := 0, slots := 0, locals := 0 } : Room).slots) (s₁.setTop (mkF m 0 #[.val (.ref ra), .val (.int (0 : Int32)), .val (.int xn), .unset, .unset] [])) by
    obtain ⟨s₂, o, h1, h2, h3, h4⟩ := hgo
    exact ⟨s₂, o, castTop (own_ef29 m ra (0 : Int32) xn) h1, h2, h3, h4⟩
  show own_Go p e below _ (s₁.setTop (mkF m 0 #[.val (.ref ra), .val (.int (0 : Int32)), .val (.int xn), .unset, .unset] []))
  refine own_Go.st (fun _ kt => XS.iloadN X0.here hx rfl (hb hby own_d_jdk_123_3_0) rfl kt) ?_
  show own_Go p e below _ (s₁.setTop (mkF m 1 #[.val (.ref ra), .val (.int (0 : Int32)), .val (.int xn), .unset, .unset] [(.int (0 : Int32))]))
  refine own_Go.st (fun _ kt => XS.iloadN X0.here hx rfl (hb hby own_d_jdk_123_3_1) rfl kt) ?_
  show own_Go p e below _ (s₁.setTop (mkF m 2 #[.val (.ref ra), .val (.int (0 : Int32)), .val (.int xn), .unset, .unset] [(.int xn), (.int (0 : Int32))]))
  refine own_Go.st (fun _ kt => XS.iadd X0.here hx rfl (hb hby own_d_jdk_123_3_2) rfl kt) ?_
  show own_Go p e below _ (s₁.setTop (mkF m 3 #[.val (.ref ra), .val (.int (0 : Int32)), .val (.int xn), .unset, .unset] [(.int ((0 : Int32) + xn))]))
  refine own_Go.st (fun _ kt => XS.istoreN X0.here hx rfl (hb hby own_d_jdk_123_3_3) rfl (l' := #[.val (.ref ra), .val (.int (0 : Int32)), .val (.int xn), .val (.int ((0 : Int32) + xn)), .unset]) rfl kt) ?_
  show own_Go p e below _ (s₁.setTop (mkF m 4 #[.val (.ref ra), .val (.int (0 : Int32)), .val (.int xn), .val (.int ((0 : Int32) + xn)), .unset] []))
  rw [show ((0 : Int32) + xn) = xn from (own_zadd xn)]
  show own_Go p e below _ (s₁.setTop (mkF m 4 #[.val (.ref ra), .val (.int (0 : Int32)), .val (.int xn), .val (.int xn), .unset] []))
  refine own_Go.st (fun _ kt => XS.iloadN X0.here hx rfl (hb hby own_d_jdk_123_3_4) rfl kt) ?_
  show own_Go p e below _ (s₁.setTop (mkF m 5 #[.val (.ref ra), .val (.int (0 : Int32)), .val (.int xn), .val (.int xn), .unset] [(.int (0 : Int32))]))
  refine own_Go.st (fun _ kt => XS.istore X0.here hx rfl (hb hby own_d_jdk_123_3_5) rfl (l' := #[.val (.ref ra), .val (.int (0 : Int32)), .val (.int xn), .val (.int xn), .val (.int (0 : Int32))]) rfl kt) ?_
  show own_Go p e below _ (s₁.setTop (mkF m 7 #[.val (.ref ra), .val (.int (0 : Int32)), .val (.int xn), .val (.int xn), .val (.int (0 : Int32))] []))
  have LO : ∀ (td : Nat) (T1 : State) (lc1 : List Loc) (X1 : Stand p l e ({ frames := 0, cells := 0, slots := 0, locals := 0 } : Room) s m #[(.ref ra), (.int (0 : Int32)), (.int xn)] below meth c T1 lc1 0 0) (e1 : T1.heap = h0) (N1 : Fr n0 lc1) (i : Nat) (xi : Int32) (ht : i + td = bs.length) (hi : xi.toInt = (i : Int)) (hs : ∀ j, j < i → ¬ (bs.getD j 0).toInt32 < 0), own_Go p e below (fun o U' => ∃ v L, o = .returned v ∧ own_Q_own_cpz Z ra xn bs h0 n0 v U'.heap L ∧ FrameEnd s o U' L ({ frames := 0, cells := 0, slots := 0, locals := 0 } : Room).cells ({ frames := 0, cells := 0, slots := 0, locals := 0 } : Room).slots) (T1.setTop (mkF m 7 #[.val (.ref ra), .val (.int (0 : Int32)), .val (.int xn), .val (.int xn), .val (.int xi)] [])) := by
    intro td
    induction td using Nat.strongRecOn with
    | ind td IH =>
      intro T1 lc1 X1 e1 N1 i xi ht hi hs
      show own_Go p e below _ (T1.setTop (mkF m 7 #[.val (.ref ra), .val (.int (0 : Int32)), .val (.int xn), .val (.int xn), .val (.int xi)] []))
      refine own_Go.st (fun _ kt => XS.iload X1.here hx rfl (hb hby own_d_jdk_123_3_7) rfl kt) ?_
      show own_Go p e below _ (T1.setTop (mkF m 9 #[.val (.ref ra), .val (.int (0 : Int32)), .val (.int xn), .val (.int xn), .val (.int xi)] [(.int xi)]))
      refine own_Go.st (fun _ kt => XS.iloadN X1.here hx rfl (hb hby own_d_jdk_123_3_9) rfl kt) ?_
      show own_Go p e below _ (T1.setTop (mkF m 10 #[.val (.ref ra), .val (.int (0 : Int32)), .val (.int xn), .val (.int xn), .val (.int xi)] [(.int xn), (.int xi)]))
      have hci : xi < xn ↔ i < bs.length := by rw [Int32.lt_iff_toInt_lt, hi, hn]; omega
      by_cases hc10 : xi < xn
      · refine own_Go.st (fun _ kt => XS.icmpNo X1.here hx rfl (hb hby own_d_jdk_123_3_10) rfl (tlt hc10).2.1 kt) ?_
        show own_Go p e below _ (T1.setTop (mkF m 13 #[.val (.ref ra), .val (.int (0 : Int32)), .val (.int xn), .val (.int xn), .val (.int xi)] []))
        refine own_Go.st (fun _ kt => XS.aloadN X1.here hx rfl (hb hby own_d_jdk_123_3_13) rfl rfl kt) ?_
        show own_Go p e below _ (T1.setTop (mkF m 14 #[.val (.ref ra), .val (.int (0 : Int32)), .val (.int xn), .val (.int xn), .val (.int xi)] [(.ref ra)]))
        refine own_Go.st (fun _ kt => XS.iload X1.here hx rfl (hb hby own_d_jdk_123_3_14) rfl kt) ?_
        show own_Go p e below _ (T1.setTop (mkF m 16 #[.val (.ref ra), .val (.int (0 : Int32)), .val (.int xn), .val (.int xn), .val (.int xi)] [(.int xi), (.ref ra)]))
        have hlt := hci.mp hc10
        refine own_Go.st (fun _ kt => own_bald X1 hx hZ e1 aa hi hlt (v := (.int ((bs.getD i 0).toInt32))) rfl (g := (mkF m 16 #[.val (.ref ra), .val (.int (0 : Int32)), .val (.int xn), .val (.int xn), .val (.int xi)] [(.int xi), (.ref ra)])) rfl rfl (hb hby own_d_jdk_123_3_16) _ kt) ?_
        show own_Go p e below _ (T1.setTop (mkF m 17 #[.val (.ref ra), .val (.int (0 : Int32)), .val (.int xn), .val (.int xn), .val (.int xi)] [(.int ((bs.getD i 0).toInt32))]))
        by_cases hc17 : ((bs.getD i 0).toInt32) < (0 : Int32)
        · refine own_Go.st (fun _ kt => XS.ifNo X1.here hx rfl (hb hby own_d_jdk_123_3_17) rfl ((if0 _ _).trans (tlt hc17).2.1) kt) ?_
          show own_Go p e below _ (T1.setTop (mkF m 20 #[.val (.ref ra), .val (.int (0 : Int32)), .val (.int xn), .val (.int xn), .val (.int xi)] []))
          refine own_Go.st (fun _ kt => XS.iload X1.here hx rfl (hb hby own_d_jdk_123_3_20) rfl kt) ?_
          show own_Go p e below _ (T1.setTop (mkF m 22 #[.val (.ref ra), .val (.int (0 : Int32)), .val (.int xn), .val (.int xn), .val (.int xi)] [(.int xi)]))
          refine own_Go.st (fun _ kt => XS.iloadN X1.here hx rfl (hb hby own_d_jdk_123_3_22) rfl kt) ?_
          show own_Go p e below _ (T1.setTop (mkF m 23 #[.val (.ref ra), .val (.int (0 : Int32)), .val (.int xn), .val (.int xn), .val (.int xi)] [(.int (0 : Int32)), (.int xi)]))
          refine own_Go.st (fun _ kt => XS.isub X1.here hx rfl (hb hby own_d_jdk_123_3_23) rfl kt) ?_
          show own_Go p e below _ (T1.setTop (mkF m 24 #[.val (.ref ra), .val (.int (0 : Int32)), .val (.int xn), .val (.int xn), .val (.int xi)] [(.int (xi - (0 : Int32)))]))
          rw [show (xi - (0 : Int32)) = xi from (own_subz xi)]
          show own_Go p e below _ (T1.setTop (mkF m 24 #[.val (.ref ra), .val (.int (0 : Int32)), .val (.int xn), .val (.int xn), .val (.int xi)] [(.int xi)]))
          exact own_retI X1 hx Bd.notSynchronized Bd.returns (hb hby own_d_jdk_123_3_24) (by decide) (by decide) ⟨_, rfl, N1, Or.inr (fun q => by rw [q, hn] at hi; omega), e1⟩
        · refine own_Go.st (fun _ kt => XS.ifYes X1.here hx rfl (pc0 := 17) (pc' := 25) rfl (hb hby own_d_jdk_123_3_17) rfl ((if0 _ _).trans (flt hc17).2.1) (by decide) (by decide) kt) ?_
          show own_Go p e below _ (T1.setTop (mkF m 25 #[.val (.ref ra), .val (.int (0 : Int32)), .val (.int xn), .val (.int xn), .val (.int xi)] []))
          refine own_Go.st (fun _ kt => XS.iinc X1.here hx rfl (hb hby own_d_jdk_123_3_25) rfl (l' := #[.val (.ref ra), .val (.int (0 : Int32)), .val (.int xn), .val (.int xn), .val (.int (xi + (1 : Int32)))]) rfl kt) ?_
          show own_Go p e below _ (T1.setTop (mkF m 28 #[.val (.ref ra), .val (.int (0 : Int32)), .val (.int xn), .val (.int xn), .val (.int (xi + (1 : Int32)))] []))
          refine own_Go.st (fun _ kt => XS.goto X1.here hx rfl (pc0 := 28) (pc' := 7) rfl (hb hby own_d_jdk_123_3_28) (by decide) (by decide) kt) ?_
          show own_Go p e below _ (T1.setTop (mkF m 7 #[.val (.ref ra), .val (.int (0 : Int32)), .val (.int xn), .val (.int xn), .val (.int (xi + (1 : Int32)))] []))
          exact IH (td - 1) (by omega) _ _ X1 e1 N1 (i + 1) _ (by omega) (own_inc hi (by omega)) (fun j hj => by
            by_cases q : j = i
            · rw [q]; exact hc17
            · exact hs j (by omega))
      · refine own_Go.st (fun _ kt => XS.icmpYes X1.here hx rfl (pc0 := 10) (pc' := 31) rfl (hb hby own_d_jdk_123_3_10) rfl (flt hc10).2.1 (by decide) (by decide) kt) ?_
        show own_Go p e below _ (T1.setTop (mkF m 31 #[.val (.ref ra), .val (.int (0 : Int32)), .val (.int xn), .val (.int xn), .val (.int xi)] []))
        refine own_Go.st (fun _ kt => XS.iloadN X1.here hx rfl (hb hby own_d_jdk_123_3_31) rfl kt) ?_
        show own_Go p e below _ (T1.setTop (mkF m 32 #[.val (.ref ra), .val (.int (0 : Int32)), .val (.int xn), .val (.int xn), .val (.int xi)] [(.int xn)]))
        have hge : i = bs.length := by have := mt hci.mpr hc10; omega
        exact own_retI X1 hx Bd.notSynchronized Bd.returns (hb hby own_d_jdk_123_3_32) (by decide) (by decide) ⟨_, rfl, N1, Or.inl ⟨rfl, fun j hj => hs j (by omega)⟩, e1⟩
  exact LO bs.length _ _ X0 e0 N0 0 _ (by omega) (by decide) (fun j hj => absurd hj (Nat.not_lt_zero j))
theorem own_ef30 (m : MethodId) (x0 : Addr) (x1 : Int32) (x2 : Int32) : entryFrame m #[(.ref x0), (.int x1), (.int x2)] 3 = mkF m 0 #[.val (.ref x0), .val (.int x1), .val (.int x2)] [] := by first | (simp [entryFrame, mkF, argsToLocals, Value.category]; done) | rfl
theorem own_d_jdk_123_2_0 : decode jdk_123_method_2_code 0 = .ok (.aload_n 0, 1) := by decide +kernel
theorem own_d_jdk_123_2_1 : decode jdk_123_method_2_code 1 = .ok (.iload_n 1, 1) := by decide +kernel
theorem own_d_jdk_123_2_2 : decode jdk_123_method_2_code 2 = .ok (.iload_n 2, 1) := by decide +kernel
theorem own_d_jdk_123_2_3 : decode jdk_123_method_2_code 3 = .ok (.invokestatic 7, 3) := by decide +kernel
theorem own_pd18 : parseMethodDescriptor "([BII)I" = some ⟨[(.array .byte), .int, .int], some .int⟩ := by decide +kernel
theorem own_d_jdk_123_2_6 : decode jdk_123_method_2_code 6 = .ok (.iload_n 2, 1) := by decide +kernel
theorem own_d_jdk_123_2_7 : decode jdk_123_method_2_code 7 = .ok (.if_icmp .eq 7, 3) := by decide +kernel
theorem own_d_jdk_123_2_14 : decode jdk_123_method_2_code 14 = .ok (.iconst 0, 1) := by decide +kernel
theorem own_d_jdk_123_2_15 : decode jdk_123_method_2_code 15 = .ok (.ireturn, 1) := by decide +kernel
theorem own_d_jdk_123_2_10 : decode jdk_123_method_2_code 10 = .ok (.iconst 1, 1) := by decide +kernel
theorem own_d_jdk_123_2_11 : decode jdk_123_method_2_code 11 = .ok (.goto 4, 3) := by decide +kernel
def own_Q_own_hn (Z : State) (ra : Addr) (xn : Int32) (bs : List Int8) (h0 : Heap) (n0 : Nat) (v : Option Value) (h : Heap) (L : List Loc) : Prop := ∃ z, v = some (.int z) ∧ Fr n0 L ∧ ((z = 0 ∧ (∀ j, j < bs.length → ¬ (bs.getD j 0).toInt32 < 0)) ∨ z = 1) ∧ h = h0
set_option maxRecDepth 65536 in
set_option maxHeartbeats 40000000 in
theorem own_hn (l : Launch) (Z : State) (a0 : Array Value) (hw : ∀ d ∈ tables_1, d.before a0 Z = true) (ws : List Jvm.Cond) (ra : Addr) (xn : Int32) (bs : List Int8) (h0 : Heap) (n0 : Nat) (Z0 : n0 ≤ h0.size) (aa : own_Ar Z h0 ra .byte bs.length (own_by bs)) (hn : xn.toInt = (bs.length : Int)) (hl : bs.length ≤ 8) :
    MetFree l (⟨"java/lang/StringCoding", "hasNegatives", "([BII)Z"⟩ : MethodName) (head1 (Jvm.Cond.code (⟨"java/lang/StringCoding", "hasNegatives", "([BII)Z"⟩ : MethodName) jdk_123_method_2_code 3 (some .boolean) :: ws) ({ frames := 1, cells := 0, slots := 0, locals := 16 } : Room)) (fun av_ U => av_ = #[(.ref ra), (.int (0 : Int32)), (.int xn)] ∧ Z.Warmed39 U.vm ∧ U.heap = h0) (fun _ _ _ _ _ => True) (fun _ U o U' => ∃ v L, o = .returned v ∧ own_Q_own_hn Z ra xn bs h0 n0 v U'.heap L ∧ FrameEnd U o U' L ({ frames := 1, cells := 0, slots := 0, locals := 16 } : Room).cells ({ frames := 1, cells := 0, slots := 0, locals := 16 } : Room).slots) := by
  refine MetFree.of_bodySF (plainFor_of_name own_pn5) hisR ?_
  intro p e s m args below meth c s₁ Bd hml0 hP hK
  obtain ⟨rfl, hZ, hh⟩ := hP
  have hx := Bd.exec
  have hby := Bd.bytes
  have hml : c.maxLocals = 3 := hml0
  have hown : s.vm.findClass "java/lang/StringCoding" = some m.cls := findClass_of_methodNamed Bd.named
  have hnm := (name_of_methodNamed Bd.named Bd.method).1
  have X0 : Stand p l e ({ frames := 1, cells := 0, slots := 0, locals := 16 } : Room) s m #[(.ref ra), (.int (0 : Int32)), (.int xn)] below meth c s₁ [] 0 0 := Stand.of_body Bd
  have e0 : s₁.heap = h0 := by rw [← hh, Bd.state]; rfl
  have N0 := Fr.nil n0
  suffices hgo : own_Go p e below (fun o U' => ∃ v L, o = .returned v ∧ own_Q_own_hn Z ra xn bs h0 n0 v U'.heap L ∧ FrameEnd s o U' L ({ frames := 1, cells := 0, slots := 0, locals := 16 } : Room).cells ({ frames := 1, cells := 0, slots := 0, locals := 16 } : Room).slots) (s₁.setTop (mkF m 0 #[.val (.ref ra), .val (.int (0 : Int32)), .val (.int xn)] [])) by
    obtain ⟨s₂, o, h1, h2, h3, h4⟩ := hgo
    exact ⟨s₂, o, castTop (own_ef30 m ra (0 : Int32) xn) h1, h2, h3, h4⟩
  show own_Go p e below _ (s₁.setTop (mkF m 0 #[.val (.ref ra), .val (.int (0 : Int32)), .val (.int xn)] []))
  refine own_Go.st (fun _ kt => XS.aloadN X0.here hx rfl (hb hby own_d_jdk_123_2_0) rfl rfl kt) ?_
  show own_Go p e below _ (s₁.setTop (mkF m 1 #[.val (.ref ra), .val (.int (0 : Int32)), .val (.int xn)] [(.ref ra)]))
  refine own_Go.st (fun _ kt => XS.iloadN X0.here hx rfl (hb hby own_d_jdk_123_2_1) rfl kt) ?_
  show own_Go p e below _ (s₁.setTop (mkF m 2 #[.val (.ref ra), .val (.int (0 : Int32)), .val (.int xn)] [(.int (0 : Int32)), (.ref ra)]))
  refine own_Go.st (fun _ kt => XS.iloadN X0.here hx rfl (hb hby own_d_jdk_123_2_2) rfl kt) ?_
  show own_Go p e below _ (s₁.setTop (mkF m 3 #[.val (.ref ra), .val (.int (0 : Int32)), .val (.int xn)] [(.int xn), (.int (0 : Int32)), (.ref ra)]))
  obtain ⟨_, _, ⟨T1, L1, k1, n1⟩, -, X1, ⟨Lc1, hQ1, l1, y1, z1⟩, st1⟩ := Jvm.LawKit.callS X0 hx (y := (⟨"java/lang/StringCoding", "countPositives", "([BII)I"⟩ : MethodName)) hown (mvT hZ (own_w hw 157 rfl)) (mvT hZ (own_w hw 158 rfl)) (mvT hZ (own_w hw 155 rfl)) (mvT hZ (own_w hw 159 rfl)) (by decide) (backOf (W := 0) (own_cpz l Z a0 hw [] ra xn bs h0 n0 Z0 aa hn hl) hZ (own_w hw 159 rfl) (own_w hw 155 rfl) (by decide) (by decide)) (g := (mkF m 3 #[.val (.ref ra), .val (.int (0 : Int32)), .val (.int xn)] [(.int xn), (.int (0 : Int32)), (.ref ra)])) rfl (by rw [hml]; rfl) (argsL := [(.ref ra), (.int (0 : Int32)), (.int xn)]) (rest := []) (lenOf own_pd18 rfl) rfl (by show 2 * 0 + _ ≤ _; exact Nat.le_of_eq rfl) (hb hby own_d_jdk_123_2_3) (fun _ _ => ⟨rfl, e0, (by decide : 0 + 0 ≤ _), (by decide : 0 + 0 ≤ _)⟩)
  dsimp only [Pt.U, Pt.locs, Pt.cells, Pt.slots] at X1 l1 y1 z1 st1 hQ1
  subst l1 y1 z1
  obtain ⟨zp, rfl, N1q, hB1, hh1⟩ := hQ1
  have N1 := Fr.app N0 N1q
  refine own_Go.st (fun _ kt => st1 _ kt) ?_
  show own_Go p e below _ (T1.setTop (mkF m 6 #[.val (.ref ra), .val (.int (0 : Int32)), .val (.int xn)] [(.int zp)]))
  refine own_Go.st (fun _ kt => XS.iloadN X1.here hx rfl (hb hby own_d_jdk_123_2_6) rfl kt) ?_
  show own_Go p e below _ (T1.setTop (mkF m 7 #[.val (.ref ra), .val (.int (0 : Int32)), .val (.int xn)] [(.int xn), (.int zp)]))
  by_cases hcz : zp = xn
  · refine own_Go.st (fun _ kt => XS.icmpYes X1.here hx rfl (pc0 := 7) (pc' := 14) rfl (hb hby own_d_jdk_123_2_7) rfl (teq hcz).1 (by decide) (by decide) kt) ?_
    show own_Go p e below _ (T1.setTop (mkF m 14 #[.val (.ref ra), .val (.int (0 : Int32)), .val (.int xn)] []))
    refine own_Go.st (fun _ kt => XS.iconst X1.here hx rfl (hb hby own_d_jdk_123_2_14) kt) ?_
    show own_Go p e below _ (T1.setTop (mkF m 15 #[.val (.ref ra), .val (.int (0 : Int32)), .val (.int xn)] [(.int (0 : Int32))]))
    have hall := hB1.elim (fun q => q.2) (fun q => absurd hcz q)
    exact own_retZ X1 hx Bd.notSynchronized Bd.returns (Or.inl rfl) (hb hby own_d_jdk_123_2_15) (by decide) (by decide) ⟨_, rfl, N1, Or.inl ⟨rfl, hall⟩, hh1⟩
  · refine own_Go.st (fun _ kt => XS.icmpNo X1.here hx rfl (hb hby own_d_jdk_123_2_7) rfl (feq hcz).1 kt) ?_
    show own_Go p e below _ (T1.setTop (mkF m 10 #[.val (.ref ra), .val (.int (0 : Int32)), .val (.int xn)] []))
    refine own_Go.st (fun _ kt => XS.iconst X1.here hx rfl (hb hby own_d_jdk_123_2_10) kt) ?_
    show own_Go p e below _ (T1.setTop (mkF m 11 #[.val (.ref ra), .val (.int (0 : Int32)), .val (.int xn)] [(.int (1 : Int32))]))
    refine own_Go.st (fun _ kt => XS.goto X1.here hx rfl (pc0 := 11) (pc' := 15) rfl (hb hby own_d_jdk_123_2_11) (by decide) (by decide) kt) ?_
    show own_Go p e below _ (T1.setTop (mkF m 15 #[.val (.ref ra), .val (.int (0 : Int32)), .val (.int xn)] [(.int (1 : Int32))]))
    exact own_retZ X1 hx Bd.notSynchronized Bd.returns (Or.inr rfl) (hb hby own_d_jdk_123_2_15) (by decide) (by decide) ⟨_, rfl, N1, Or.inr rfl, hh1⟩
theorem own_ef31 (m : MethodId) (x0 : Int32) : entryFrame m #[(.int x0)] 1 = mkF m 0 #[.val (.int x0)] [] := by first | (simp [entryFrame, mkF, argsToLocals, Value.category]; done) | rfl
theorem own_d_jdk_52_3_0 : decode jdk_52_method_3_code 0 = .ok (.iload_n 0, 1) := by decide +kernel
theorem own_d_jdk_52_3_1 : decode jdk_52_method_3_code 1 = .ok (.ifCond .ge 11, 3) := by decide +kernel
theorem own_d_jdk_52_3_12 : decode jdk_52_method_3_code 12 = .ok (.iload_n 0, 1) := by decide +kernel
theorem own_d_jdk_52_3_13 : decode jdk_52_method_3_code 13 = .ok (.ldc 20, 2) := by decide +kernel
theorem own_d_jdk_52_3_15 : decode jdk_52_method_3_code 15 = .ok (.if_icmp .lt 40, 3) := by decide +kernel
theorem own_d_jdk_52_3_55 : decode jdk_52_method_3_code 55 = .ok (.iload_n 0, 1) := by decide +kernel
theorem own_d_jdk_52_3_56 : decode jdk_52_method_3_code 56 = .ok (.iconst 1, 1) := by decide +kernel
theorem own_d_jdk_52_3_57 : decode jdk_52_method_3_code 57 = .ok (.ishl, 1) := by decide +kernel
theorem own_d_jdk_52_3_58 : decode jdk_52_method_3_code 58 = .ok (.ireturn, 1) := by decide +kernel
def own_Q_own_nbl (Z : State) (xn : Int32) (n : Nat) (h0 : Heap) (n0 : Nat) (v : Option Value) (h : Heap) (L : List Loc) : Prop := ∃ z, v = some (.int z) ∧ Fr n0 L ∧ z.toInt = ((2 * n : Nat) : Int) ∧ h = h0
set_option maxRecDepth 65536 in
set_option maxHeartbeats 40000000 in
theorem own_nbl (l : Launch) (Z : State) (a0 : Array Value) (hw : ∀ d ∈ tables_1, d.before a0 Z = true) (ws : List Jvm.Cond) (xn : Int32) (n : Nat) (h0 : Heap) (n0 : Nat) (Z0 : n0 ≤ h0.size) (hn : xn.toInt = (n : Int)) (hl : n ≤ 8) :
    MetFree l (⟨"java/lang/StringUTF16", "newBytesLength", "(I)I"⟩ : MethodName) (head1 (Jvm.Cond.code (⟨"java/lang/StringUTF16", "newBytesLength", "(I)I"⟩ : MethodName) jdk_52_method_3_code 1 (some .int) :: ws) ({ frames := 0, cells := 0, slots := 0, locals := 0 } : Room)) (fun av_ U => av_ = #[(.int xn)] ∧ Z.Warmed39 U.vm ∧ U.heap = h0) (fun _ _ _ _ _ => True) (fun _ U o U' => ∃ v L, o = .returned v ∧ own_Q_own_nbl Z xn n h0 n0 v U'.heap L ∧ FrameEnd U o U' L ({ frames := 0, cells := 0, slots := 0, locals := 0 } : Room).cells ({ frames := 0, cells := 0, slots := 0, locals := 0 } : Room).slots) := by
  refine MetFree.of_bodySF (plainFor_of_name own_pn0) hisR ?_
  intro p e s m args below meth c s₁ Bd hml0 hP hK
  obtain ⟨rfl, hZ, hh⟩ := hP
  have hx := Bd.exec
  have hby := Bd.bytes
  have hml : c.maxLocals = 1 := hml0
  have hown : s.vm.findClass "java/lang/StringUTF16" = some m.cls := findClass_of_methodNamed Bd.named
  have hnm := (name_of_methodNamed Bd.named Bd.method).1
  have X0 : Stand p l e ({ frames := 0, cells := 0, slots := 0, locals := 0 } : Room) s m #[(.int xn)] below meth c s₁ [] 0 0 := Stand.of_body Bd
  have e0 : s₁.heap = h0 := by rw [← hh, Bd.state]; rfl
  have N0 := Fr.nil n0
  suffices hgo : own_Go p e below (fun o U' => ∃ v L, o = .returned v ∧ own_Q_own_nbl Z xn n h0 n0 v U'.heap L ∧ FrameEnd s o U' L ({ frames := 0, cells := 0, slots := 0, locals := 0 } : Room).cells ({ frames := 0, cells := 0, slots := 0, locals := 0 } : Room).slots) (s₁.setTop (mkF m 0 #[.val (.int xn)] [])) by
    obtain ⟨s₂, o, h1, h2, h3, h4⟩ := hgo
    exact ⟨s₂, o, castTop (own_ef31 m xn) h1, h2, h3, h4⟩
  show own_Go p e below _ (s₁.setTop (mkF m 0 #[.val (.int xn)] []))
  refine own_Go.st (fun _ kt => XS.iloadN X0.here hx rfl (hb hby own_d_jdk_52_3_0) rfl kt) ?_
  show own_Go p e below _ (s₁.setTop (mkF m 1 #[.val (.int xn)] [(.int xn)]))
  refine own_Go.st (fun _ kt => XS.ifYes X0.here hx rfl (pc0 := 1) (pc' := 12) rfl (hb hby own_d_jdk_52_3_1) rfl ((if0 _ _).trans (flt (own_nn hn)).2.1) (by decide) (by decide) kt) ?_
  show own_Go p e below _ (s₁.setTop (mkF m 12 #[.val (.int xn)] []))
  refine own_Go.st (fun _ kt => XS.iloadN X0.here hx rfl (hb hby own_d_jdk_52_3_12) rfl kt) ?_
  show own_Go p e below _ (s₁.setTop (mkF m 13 #[.val (.int xn)] [(.int xn)]))
  refine own_Go.st (fun _ kt => X0.ldcI hx hown (mvT hZ (own_w hw 195 rfl)) rfl (hb hby own_d_jdk_52_3_13) kt) ?_
  show own_Go p e below _ (s₁.setTop (mkF m 15 #[.val (.int xn)] [(.int (1073741823 : Int32)), (.int xn)]))
  refine own_Go.st (fun _ kt => XS.icmpYes X0.here hx rfl (pc0 := 15) (pc' := 55) rfl (hb hby own_d_jdk_52_3_15) rfl (tlt (by rw [Int32.lt_iff_toInt_lt, hn, show (1073741823 : Int32).toInt = 1073741823 by decide]; omega)).1 (by decide) (by decide) kt) ?_
  show own_Go p e below _ (s₁.setTop (mkF m 55 #[.val (.int xn)] []))
  refine own_Go.st (fun _ kt => XS.iloadN X0.here hx rfl (hb hby own_d_jdk_52_3_55) rfl kt) ?_
  show own_Go p e below _ (s₁.setTop (mkF m 56 #[.val (.int xn)] [(.int xn)]))
  refine own_Go.st (fun _ kt => XS.iconst X0.here hx rfl (hb hby own_d_jdk_52_3_56) kt) ?_
  show own_Go p e below _ (s₁.setTop (mkF m 57 #[.val (.int xn)] [(.int (1 : Int32)), (.int xn)]))
  refine own_Go.st (fun _ kt => XS.ishl X0.here hx rfl (hb hby own_d_jdk_52_3_57) rfl kt) ?_
  show own_Go p e below _ (s₁.setTop (mkF m 58 #[.val (.int xn)] [(.int (xn <<< ((1 : Int32) &&& 31)))]))
  exact own_retI X0 hx Bd.notSynchronized Bd.returns (hb hby own_d_jdk_52_3_58) (by decide) (by decide) ⟨_, rfl, N0, own_shl1 hn (by omega), e0⟩
theorem own_ef32 (m : MethodId) (x0 : Int32) : entryFrame m #[(.int x0)] 1 = mkF m 0 #[.val (.int x0)] [] := by first | (simp [entryFrame, mkF, argsToLocals, Value.category]; done) | rfl
theorem own_d_jdk_52_2_0 : decode jdk_52_method_2_code 0 = .ok (.iload_n 0, 1) := by decide +kernel
theorem own_d_jdk_52_2_1 : decode jdk_52_method_2_code 1 = .ok (.invokestatic 11, 3) := by decide +kernel
theorem own_pd19 : parseMethodDescriptor "(I)I" = some ⟨[.int], some .int⟩ := by decide +kernel
theorem own_d_jdk_52_2_4 : decode jdk_52_method_2_code 4 = .ok (.newarray .byte, 2) := by decide +kernel
theorem own_d_jdk_52_2_6 : decode jdk_52_method_2_code 6 = .ok (.areturn, 1) := by decide +kernel
def own_Q_own_nbf (Z : State) (xn : Int32) (n : Nat) (h0 : Heap) (n0 : Nat) (v : Option Value) (h : Heap) (L : List Loc) : Prop := ∃ rb, v = some (.ref rb) ∧ Fr n0 L ∧ own_Ar Z h rb .byte (2 * n) (own_by []) ∧ n0 ≤ rb ∧ Array.size h0 ≤ rb ∧ Keep h0 h []
set_option maxRecDepth 65536 in
set_option maxHeartbeats 40000000 in
theorem own_nbf (l : Launch) (Z : State) (a0 : Array Value) (hw : ∀ d ∈ tables_1, d.before a0 Z = true) (ws : List Jvm.Cond) (xn : Int32) (n : Nat) (h0 : Heap) (n0 : Nat) (Z0 : n0 ≤ h0.size) (hn : xn.toInt = (n : Int)) (hl : n ≤ 8) :
    MetFree l (⟨"java/lang/StringUTF16", "newBytesFor", "(I)[B"⟩ : MethodName) (head1 (Jvm.Cond.code (⟨"java/lang/StringUTF16", "newBytesFor", "(I)[B"⟩ : MethodName) jdk_52_method_2_code 1 (some (.array .byte)) :: ws) ({ frames := 1, cells := 1, slots := 16, locals := 12 } : Room)) (fun av_ U => av_ = #[(.int xn)] ∧ Z.Warmed39 U.vm ∧ U.heap = h0) (fun _ _ _ _ _ => True) (fun _ U o U' => ∃ v L, o = .returned v ∧ own_Q_own_nbf Z xn n h0 n0 v U'.heap L ∧ FrameEnd U o U' L ({ frames := 1, cells := 1, slots := 16, locals := 12 } : Room).cells ({ frames := 1, cells := 1, slots := 16, locals := 12 } : Room).slots) := by
  refine MetFree.of_bodySF (plainFor_of_name own_pn0) hisR ?_
  intro p e s m args below meth c s₁ Bd hml0 hP hK
  obtain ⟨rfl, hZ, hh⟩ := hP
  have hx := Bd.exec
  have hby := Bd.bytes
  have hml : c.maxLocals = 1 := hml0
  have hown : s.vm.findClass "java/lang/StringUTF16" = some m.cls := findClass_of_methodNamed Bd.named
  have hnm := (name_of_methodNamed Bd.named Bd.method).1
  have X0 : Stand p l e ({ frames := 1, cells := 1, slots := 16, locals := 12 } : Room) s m #[(.int xn)] below meth c s₁ [] 0 0 := Stand.of_body Bd
  have e0 : s₁.heap = h0 := by rw [← hh, Bd.state]; rfl
  have N0 := Fr.nil n0
  suffices hgo : own_Go p e below (fun o U' => ∃ v L, o = .returned v ∧ own_Q_own_nbf Z xn n h0 n0 v U'.heap L ∧ FrameEnd s o U' L ({ frames := 1, cells := 1, slots := 16, locals := 12 } : Room).cells ({ frames := 1, cells := 1, slots := 16, locals := 12 } : Room).slots) (s₁.setTop (mkF m 0 #[.val (.int xn)] [])) by
    obtain ⟨s₂, o, h1, h2, h3, h4⟩ := hgo
    exact ⟨s₂, o, castTop (own_ef32 m xn) h1, h2, h3, h4⟩
  have kk0 : Keep h0 h0 [] := Keep.refl _ _
  show own_Go p e below _ (s₁.setTop (mkF m 0 #[.val (.int xn)] []))
  refine own_Go.st (fun _ kt => XS.iloadN X0.here hx rfl (hb hby own_d_jdk_52_2_0) rfl kt) ?_
  show own_Go p e below _ (s₁.setTop (mkF m 1 #[.val (.int xn)] [(.int xn)]))
  obtain ⟨_, _, ⟨T1, L1, k1, n1⟩, -, X1, ⟨Lc1, hQ1, l1, y1, z1⟩, st1⟩ := Jvm.LawKit.callS X0 hx (y := (⟨"java/lang/StringUTF16", "newBytesLength", "(I)I"⟩ : MethodName)) hown (mvT hZ (own_w hw 192 rfl)) (mvT hZ (own_w hw 193 rfl)) (mvT hZ (own_w hw 178 rfl)) (mvT hZ (own_w hw 194 rfl)) (by decide) (backOf (W := 0) (own_nbl l Z a0 hw [] xn n h0 n0 Z0 hn hl) hZ (own_w hw 194 rfl) (own_w hw 178 rfl) (by decide) (by decide)) (g := (mkF m 1 #[.val (.int xn)] [(.int xn)])) rfl (by rw [hml]; rfl) (argsL := [(.int xn)]) (rest := []) (lenOf own_pd19 rfl) rfl (by show 2 * 0 + _ ≤ _; exact Nat.le_of_eq rfl) (hb hby own_d_jdk_52_2_1) (fun _ _ => ⟨rfl, e0, (by decide : 0 + 0 ≤ _), (by decide : 0 + 0 ≤ _)⟩)
  dsimp only [Pt.U, Pt.locs, Pt.cells, Pt.slots] at X1 l1 y1 z1 st1 hQ1
  subst l1 y1 z1
  obtain ⟨zp, rfl, N1q, nb1, hh1⟩ := hQ1
  have N1 := Fr.app N0 N1q
  refine own_Go.st (fun _ kt => st1 _ kt) ?_
  show own_Go p e below _ (T1.setTop (mkF m 4 #[.val (.int xn)] [(.int zp)]))
  obtain ⟨T2, h2, X2, e2, E2, A2, B2, st2⟩ := own_newB X1 hx hZ (own_w hw 15 rfl) hh1 (g := (mkF m 4 #[.val (.int xn)] [(.int zp)])) rfl (hb hby own_d_jdk_52_2_4) rfl (n := (2 * n)) nb1 (cap := 16) (by omega) (by decide) (by decide) (by decide)
  obtain ⟨rb, g2⟩ : ∃ z, z = Array.size h0 := ⟨_, rfl⟩
  rw [← g2] at A2 B2 st2
  refine own_Go.st st2 ?_
  have n0_rb : n0 ≤ rb := Nat.le_trans Z0 (Nat.le_of_eq g2.symm)
  have b_rb : Array.size h0 ≤ rb := Nat.le_trans kk0.1 (Nat.le_of_eq g2.symm)
  have zz3 : n0 ≤ Array.size h2 := Nat.le_trans Z0 E2.1
  have kk3 : Keep h0 h2 [] := kk0.ext E2
  show own_Go p e below _ (T2.setTop (mkF m 6 #[.val (.int xn)] [(.ref rb)]))
  have fin := A2
  have kk := kk3
  rw [← e2] at fin kk
  exact own_retA X2 hx Bd.notSynchronized Bd.returns rfl rfl (hb hby own_d_jdk_52_2_6) (by decide) (by decide) ⟨rb, rfl, N1, fin, n0_rb, b_rb, kk⟩
theorem own_ef33 (m : MethodId) (x0 : Addr) (x1 : Int32) : entryFrame m #[(.ref x0), (.int x1)] 3 = mkF m 0 #[.val (.ref x0), .val (.int x1), .unset] [] := by first | (simp [entryFrame, mkF, argsToLocals, Value.category]; done) | rfl
theorem own_d_jdk_65_121_0 : decode jdk_65_method_121_code 0 = .ok (.iload_n 1, 1) := by decide +kernel
theorem own_d_jdk_65_121_1 : decode jdk_65_method_121_code 1 = .ok (.aload_n 0, 1) := by decide +kernel
theorem own_d_jdk_65_121_2 : decode jdk_65_method_121_code 2 = .ok (.arraylength, 1) := by decide +kernel
theorem own_d_jdk_65_121_3 : decode jdk_65_method_121_code 3 = .ok (.if_icmp .ne 11, 3) := by decide +kernel
theorem own_d_jdk_65_121_14 : decode jdk_65_method_121_code 14 = .ok (.iload_n 1, 1) := by decide +kernel
theorem own_d_jdk_65_121_15 : decode jdk_65_method_121_code 15 = .ok (.newarray .byte, 2) := by decide +kernel
theorem own_d_jdk_65_121_17 : decode jdk_65_method_121_code 17 = .ok (.astore_n 2, 1) := by decide +kernel
theorem own_d_jdk_65_121_18 : decode jdk_65_method_121_code 18 = .ok (.aload_n 0, 1) := by decide +kernel
theorem own_d_jdk_65_121_19 : decode jdk_65_method_121_code 19 = .ok (.iconst 0, 1) := by decide +kernel
theorem own_d_jdk_65_121_20 : decode jdk_65_method_121_code 20 = .ok (.aload_n 2, 1) := by decide +kernel
theorem own_d_jdk_65_121_21 : decode jdk_65_method_121_code 21 = .ok (.iconst 0, 1) := by decide +kernel
theorem own_d_jdk_65_121_22 : decode jdk_65_method_121_code 22 = .ok (.aload_n 0, 1) := by decide +kernel
theorem own_d_jdk_65_121_23 : decode jdk_65_method_121_code 23 = .ok (.arraylength, 1) := by decide +kernel
theorem own_d_jdk_65_121_24 : decode jdk_65_method_121_code 24 = .ok (.iload_n 1, 1) := by decide +kernel
theorem own_d_jdk_65_121_25 : decode jdk_65_method_121_code 25 = .ok (.invokestatic 304, 3) := by decide +kernel
theorem own_d_jdk_65_121_28 : decode jdk_65_method_121_code 28 = .ok (.invokestatic 150, 3) := by decide +kernel
theorem own_d_jdk_65_121_31 : decode jdk_65_method_121_code 31 = .ok (.aload_n 2, 1) := by decide +kernel
theorem own_d_jdk_65_121_32 : decode jdk_65_method_121_code 32 = .ok (.areturn, 1) := by decide +kernel
def own_Q_own_cof (Z : State) (ra : Addr) (xn : Int32) (nd : Nat) (es : List Int8) (h0 : Heap) (n0 : Nat) (v : Option Value) (h : Heap) (L : List Loc) : Prop := ∃ rb, v = some (.ref rb) ∧ Fr n0 L ∧ own_Ar Z h rb .byte es.length (own_by es) ∧ Keep h0 h []
set_option maxRecDepth 65536 in
set_option maxHeartbeats 40000000 in
theorem own_cof (l : Launch) (Z : State) (a0 : Array Value) (hw : ∀ d ∈ tables_1, d.before a0 Z = true) (ws : List Jvm.Cond) (ra : Addr) (xn : Int32) (nd : Nat) (es : List Int8) (h0 : Heap) (n0 : Nat) (Z0 : n0 ≤ h0.size) (aa : own_Ar Z h0 ra .byte nd (own_by es)) (hn : xn.toInt = (es.length : Int)) (hl : es.length < nd) (hd : nd ≤ 16) :
    MetFree l (⟨"java/util/Arrays", "copyOf", "([BI)[B"⟩ : MethodName) (head1 (Jvm.Cond.code (⟨"java/util/Arrays", "copyOf", "([BI)[B"⟩ : MethodName) jdk_65_method_121_code 3 (some (.array .byte)) :: ws) ({ frames := 1, cells := 1, slots := 16, locals := 18 } : Room)) (fun av_ U => av_ = #[(.ref ra), (.int xn)] ∧ Z.Warmed39 U.vm ∧ U.heap = h0) (fun _ _ _ _ _ => True) (fun _ U o U' => ∃ v L, o = .returned v ∧ own_Q_own_cof Z ra xn nd es h0 n0 v U'.heap L ∧ FrameEnd U o U' L ({ frames := 1, cells := 1, slots := 16, locals := 18 } : Room).cells ({ frames := 1, cells := 1, slots := 16, locals := 18 } : Room).slots) := by
  refine MetFree.of_bodySF (plainFor_of_name own_pn4) hisR ?_
  intro p e s m args below meth c s₁ Bd hml0 hP hK
  obtain ⟨rfl, hZ, hh⟩ := hP
  have hx := Bd.exec
  have hby := Bd.bytes
  have hml : c.maxLocals = 3 := hml0
  have hown : s.vm.findClass "java/util/Arrays" = some m.cls := findClass_of_methodNamed Bd.named
  have hnm := (name_of_methodNamed Bd.named Bd.method).1
  have X0 : Stand p l e ({ frames := 1, cells := 1, slots := 16, locals := 18 } : Room) s m #[(.ref ra), (.int xn)] below meth c s₁ [] 0 0 := Stand.of_body Bd
  have e0 : s₁.heap = h0 := by rw [← hh, Bd.state]; rfl
  have N0 := Fr.nil n0
  suffices hgo : own_Go p e below (fun o U' => ∃ v L, o = .returned v ∧ own_Q_own_cof Z ra xn nd es h0 n0 v U'.heap L ∧ FrameEnd s o U' L ({ frames := 1, cells := 1, slots := 16, locals := 18 } : Room).cells ({ frames := 1, cells := 1, slots := 16, locals := 18 } : Room).slots) (s₁.setTop (mkF m 0 #[.val (.ref ra), .val (.int xn), .unset] [])) by
    obtain ⟨s₂, o, h1, h2, h3, h4⟩ := hgo
    exact ⟨s₂, o, castTop (own_ef33 m ra xn) h1, h2, h3, h4⟩
  have kk0 : Keep h0 h0 [] := Keep.refl _ _
  show own_Go p e below _ (s₁.setTop (mkF m 0 #[.val (.ref ra), .val (.int xn), .unset] []))
  have hun : (Nat.toInt32 nd).toInt = ((nd : Nat) : Int) := len_toInt (by omega)
  refine own_Go.st (fun _ kt => XS.iloadN X0.here hx rfl (hb hby own_d_jdk_65_121_0) rfl kt) ?_
  show own_Go p e below _ (s₁.setTop (mkF m 1 #[.val (.ref ra), .val (.int xn), .unset] [(.int xn)]))
  refine own_Go.st (fun _ kt => XS.aloadN X0.here hx rfl (hb hby own_d_jdk_65_121_1) rfl rfl kt) ?_
  show own_Go p e below _ (s₁.setTop (mkF m 2 #[.val (.ref ra), .val (.int xn), .unset] [(.ref ra), (.int xn)]))
  refine own_Go.st (fun _ kt => own_alen X0 hx hZ e0 aa (z := (Nat.toInt32 nd)) hun (g := (mkF m 2 #[.val (.ref ra), .val (.int xn), .unset] [(.ref ra), (.int xn)])) rfl rfl (hb hby own_d_jdk_65_121_2) _ kt) ?_
  show own_Go p e below _ (s₁.setTop (mkF m 3 #[.val (.ref ra), .val (.int xn), .unset] [(.int (Nat.toInt32 nd)), (.int xn)]))
  refine own_Go.st (fun _ kt => XS.icmpYes X0.here hx rfl (pc0 := 3) (pc' := 14) rfl (hb hby own_d_jdk_65_121_3) rfl (feq (fun q => by rw [q, hun] at hn; omega)).2 (by decide) (by decide) kt) ?_
  show own_Go p e below _ (s₁.setTop (mkF m 14 #[.val (.ref ra), .val (.int xn), .unset] []))
  refine own_Go.st (fun _ kt => XS.iloadN X0.here hx rfl (hb hby own_d_jdk_65_121_14) rfl kt) ?_
  show own_Go p e below _ (s₁.setTop (mkF m 15 #[.val (.ref ra), .val (.int xn), .unset] [(.int xn)]))
  obtain ⟨T1, h1, X1, e1, E1, A1, B1, st1⟩ := own_newB X0 hx hZ (own_w hw 15 rfl) e0 (g := (mkF m 15 #[.val (.ref ra), .val (.int xn), .unset] [(.int xn)])) rfl (hb hby own_d_jdk_65_121_15) rfl (n := es.length) hn (cap := 16) (by omega) (by decide) (by decide) (by decide)
  obtain ⟨rb, g1⟩ : ∃ z, z = Array.size h0 := ⟨_, rfl⟩
  rw [← g1] at A1 B1 st1
  refine own_Go.st st1 ?_
  have ne_ra_rb : ra ≠ rb := Nat.ne_of_lt (Nat.lt_of_lt_of_le (aa).lt (Nat.le_of_eq g1.symm))
  have n0_rb : n0 ≤ rb := Nat.le_trans Z0 (Nat.le_of_eq g1.symm)
  have b_rb : Array.size h0 ≤ rb := Nat.le_trans kk0.1 (Nat.le_of_eq g1.symm)
  have zz2 : n0 ≤ Array.size h1 := Nat.le_trans Z0 E1.1
  have kk2 : Keep h0 h1 [] := kk0.ext E1
  show own_Go p e below _ (T1.setTop (mkF m 17 #[.val (.ref ra), .val (.int xn), .unset] [(.ref rb)]))
  refine own_Go.st (fun _ kt => XS.astoreN X1.here hx rfl (hb hby own_d_jdk_65_121_17) rfl rfl (l' := #[.val (.ref ra), .val (.int xn), .val (.ref rb)]) rfl kt) ?_
  show own_Go p e below _ (T1.setTop (mkF m 18 #[.val (.ref ra), .val (.int xn), .val (.ref rb)] []))
  refine own_Go.st (fun _ kt => XS.aloadN X1.here hx rfl (hb hby own_d_jdk_65_121_18) rfl rfl kt) ?_
  show own_Go p e below _ (T1.setTop (mkF m 19 #[.val (.ref ra), .val (.int xn), .val (.ref rb)] [(.ref ra)]))
  refine own_Go.st (fun _ kt => XS.iconst X1.here hx rfl (hb hby own_d_jdk_65_121_19) kt) ?_
  show own_Go p e below _ (T1.setTop (mkF m 20 #[.val (.ref ra), .val (.int xn), .val (.ref rb)] [(.int (0 : Int32)), (.ref ra)]))
  refine own_Go.st (fun _ kt => XS.aloadN X1.here hx rfl (hb hby own_d_jdk_65_121_20) rfl rfl kt) ?_
  show own_Go p e below _ (T1.setTop (mkF m 21 #[.val (.ref ra), .val (.int xn), .val (.ref rb)] [(.ref rb), (.int (0 : Int32)), (.ref ra)]))
  refine own_Go.st (fun _ kt => XS.iconst X1.here hx rfl (hb hby own_d_jdk_65_121_21) kt) ?_
  show own_Go p e below _ (T1.setTop (mkF m 22 #[.val (.ref ra), .val (.int xn), .val (.ref rb)] [(.int (0 : Int32)), (.ref rb), (.int (0 : Int32)), (.ref ra)]))
  refine own_Go.st (fun _ kt => XS.aloadN X1.here hx rfl (hb hby own_d_jdk_65_121_22) rfl rfl kt) ?_
  show own_Go p e below _ (T1.setTop (mkF m 23 #[.val (.ref ra), .val (.int xn), .val (.ref rb)] [(.ref ra), (.int (0 : Int32)), (.ref rb), (.int (0 : Int32)), (.ref ra)]))
  have f3 := (aa.ext E1)
  refine own_Go.st (fun _ kt => own_alen X1 hx hZ e1 f3 (z := (Nat.toInt32 nd)) hun (g := (mkF m 23 #[.val (.ref ra), .val (.int xn), .val (.ref rb)] [(.ref ra), (.int (0 : Int32)), (.ref rb), (.int (0 : Int32)), (.ref ra)])) rfl rfl (hb hby own_d_jdk_65_121_23) _ kt) ?_
  show own_Go p e below _ (T1.setTop (mkF m 24 #[.val (.ref ra), .val (.int xn), .val (.ref rb)] [(.int (Nat.toInt32 nd)), (.int (0 : Int32)), (.ref rb), (.int (0 : Int32)), (.ref ra)]))
  refine own_Go.st (fun _ kt => XS.iloadN X1.here hx rfl (hb hby own_d_jdk_65_121_24) rfl kt) ?_
  show own_Go p e below _ (T1.setTop (mkF m 25 #[.val (.ref ra), .val (.int xn), .val (.ref rb)] [(.int xn), (.int (Nat.toInt32 nd)), (.int (0 : Int32)), (.ref rb), (.int (0 : Int32)), (.ref ra)]))
  obtain ⟨_, _, ⟨T4, L4, k4, n4⟩, -, X4, ⟨Lc4, hQ4, l4, y4, z4⟩, st4⟩ := Jvm.LawKit.callS X1 hx (y := (⟨"java/lang/Math", "min", "(II)I"⟩ : MethodName)) hown (mvT hZ (own_w hw 133 rfl)) (mvT hZ (own_w hw 134 rfl)) (mvT hZ (own_w hw 135 rfl)) (mvT hZ (own_w hw 136 rfl)) (by decide) (backOf (W := 4) (own_min l Z a0 hw [] (Nat.toInt32 nd) xn h1 n0 zz2 (by rw [Int32.lt_iff_toInt_lt, hn, hun]; omega)) hZ (own_w hw 136 rfl) (own_w hw 135 rfl) (by decide) (by decide)) (g := (mkF m 25 #[.val (.ref ra), .val (.int xn), .val (.ref rb)] [(.int xn), (.int (Nat.toInt32 nd)), (.int (0 : Int32)), (.ref rb), (.int (0 : Int32)), (.ref ra)])) rfl (by rw [hml]; rfl) (argsL := [(.int (Nat.toInt32 nd)), (.int xn)]) (rest := [(.int (0 : Int32)), (.ref rb), (.int (0 : Int32)), (.ref ra)]) (lenOf own_pd12 rfl) rfl (by show 2 * 0 + _ ≤ _; exact Nat.le_of_eq rfl) (hb hby own_d_jdk_65_121_25) (fun _ _ => ⟨rfl, e1, (by decide : 1 + 0 ≤ _), (by decide : 16 + 0 ≤ _)⟩)
  dsimp only [Pt.U, Pt.locs, Pt.cells, Pt.slots] at X4 l4 y4 z4 st4 hQ4
  subst l4 y4 z4
  obtain ⟨rfl, N4q, hh4⟩ := hQ4
  have N4 := Fr.app N0 N4q
  refine own_Go.st (fun _ kt => st4 _ kt) ?_
  show own_Go p e below _ (T4.setTop (mkF m 28 #[.val (.ref ra), .val (.int xn), .val (.ref rb)] [(.int xn), (.int (0 : Int32)), (.ref rb), (.int (0 : Int32)), (.ref ra)]))
  have ns5 := own_nstA A1
  obtain ⟨T5, h5, lc5, X5, e5, N5, K5, A5, st5⟩ := own_acp X4 hx hZ hown (own_w hw 137 rfl) (own_w hw 91 rfl) (own_w hw 89 rfl) (own_w hw 90 rfl) hh4 f3 A1 hun hn (show (0 : Int32).toInt = ((0 : Nat) : Int) by decide) (show (0 : Int32).toInt = ((0 : Nat) : Int) by decide) hn (by omega) (by omega) N4 n0_rb (g := (mkF m 28 #[.val (.ref ra), .val (.int xn), .val (.ref rb)] [(.int xn), (.int (0 : Int32)), (.ref rb), (.int (0 : Int32)), (.ref ra)])) rfl (by rw [hml]; rfl) rfl (hb hby own_d_jdk_65_121_28) (by decide) (W := 0) (by show 2 * 0 + _ ≤ _; exact Nat.le_of_eq rfl) (by decide)
  refine own_Go.st st5 ?_
  have zz6 : n0 ≤ Array.size h5 := Nat.le_trans zz2 K5.1
  have kk6 : Keep h0 h5 [] := kk2.trans K5 (allS (P := fun x => x ∈ [] ∨ _) (Or.inr b_rb) all0)
  show own_Go p e below _ (T5.setTop (mkF m 31 #[.val (.ref ra), .val (.int xn), .val (.ref rb)] []))
  refine own_Go.st (fun _ kt => XS.aloadN X5.here hx rfl (hb hby own_d_jdk_65_121_31) rfl rfl kt) ?_
  show own_Go p e below _ (T5.setTop (mkF m 32 #[.val (.ref ra), .val (.int xn), .val (.ref rb)] [(.ref rb)]))
  have fin : own_Ar Z h5 rb .byte es.length (own_by es) := A5.congr fun q hq => own_by_cp es q hq
  have kk := kk6
  rw [← e5] at fin kk
  exact own_retA X5 hx Bd.notSynchronized Bd.returns rfl rfl (hb hby own_d_jdk_65_121_32) (by decide) (by decide) ⟨rb, rfl, N5, fin, kk⟩
theorem own_ef34 (m : MethodId) (x0 : Int32) (x1 : Addr) (x2 : Int32) : entryFrame m #[(.int x0), (.ref x1), (.int x2)] 9 = mkF m 0 #[.val (.int x0), .val (.ref x1), .val (.int x2), .unset, .unset, .unset, .unset, .unset, .unset] [] := by first | (simp [entryFrame, mkF, argsToLocals, Value.category]; done) | rfl
theorem own_d_jdk_42_46_0 : decode jdk_42_method_46_code 0 = .ok (.iload_n 0, 1) := by decide +kernel
theorem own_d_jdk_42_46_1 : decode jdk_42_method_46_code 1 = .ok (.iconst 1, 1) := by decide +kernel
theorem own_d_jdk_42_46_2 : decode jdk_42_method_46_code 2 = .ok (.if_icmp .ne 9, 3) := by decide +kernel
theorem own_d_jdk_42_46_11 : decode jdk_42_method_46_code 11 = .ok (.aload_n 1, 1) := by decide +kernel
theorem own_d_jdk_42_46_12 : decode jdk_42_method_46_code 12 = .ok (.iconst 0, 1) := by decide +kernel
theorem own_d_jdk_42_46_13 : decode jdk_42_method_46_code 13 = .ok (.aload_n 1, 1) := by decide +kernel
theorem own_d_jdk_42_46_14 : decode jdk_42_method_46_code 14 = .ok (.arraylength, 1) := by decide +kernel
theorem own_pd20 : parseMethodDescriptor "([BII)Z" = some ⟨[(.array .byte), .int, .int], some .boolean⟩ := by decide +kernel
theorem own_d_jdk_42_46_15 : decode jdk_42_method_46_code 15 = .ok (.invokestatic 128, 3) := by decide +kernel
theorem own_d_jdk_42_46_18 : decode jdk_42_method_46_code 18 = .ok (.ifCond .ne 11, 3) := by decide +kernel
theorem own_d_jdk_42_46_21 : decode jdk_42_method_46_code 21 = .ok (.aload_n 1, 1) := by decide +kernel
theorem own_d_jdk_42_46_22 : decode jdk_42_method_46_code 22 = .ok (.invokevirtual 279, 3) := by decide +kernel
theorem own_d_jdk_42_46_25 : decode jdk_42_method_46_code 25 = .ok (.checkcast 280, 3) := by decide +kernel
theorem own_d_jdk_42_46_28 : decode jdk_42_method_46_code 28 = .ok (.areturn, 1) := by decide +kernel
theorem own_d_jdk_42_46_29 : decode jdk_42_method_46_code 29 = .ok (.iconst 0, 1) := by decide +kernel
theorem own_d_jdk_42_46_30 : decode jdk_42_method_46_code 30 = .ok (.istore_n 3, 1) := by decide +kernel
theorem own_d_jdk_42_46_31 : decode jdk_42_method_46_code 31 = .ok (.aload_n 1, 1) := by decide +kernel
theorem own_d_jdk_42_46_32 : decode jdk_42_method_46_code 32 = .ok (.arraylength, 1) := by decide +kernel
theorem own_pd21 : parseMethodDescriptor "(I)[B" = some ⟨[.int], some (.array .byte)⟩ := by decide +kernel
theorem own_d_jdk_42_46_33 : decode jdk_42_method_46_code 33 = .ok (.invokestatic 60, 3) := by decide +kernel
theorem own_d_jdk_42_46_36 : decode jdk_42_method_46_code 36 = .ok (.astore 4, 2) := by decide +kernel
theorem own_d_jdk_42_46_38 : decode jdk_42_method_46_code 38 = .ok (.aload_n 1, 1) := by decide +kernel
theorem own_d_jdk_42_46_39 : decode jdk_42_method_46_code 39 = .ok (.astore 5, 2) := by decide +kernel
theorem own_d_jdk_42_46_41 : decode jdk_42_method_46_code 41 = .ok (.aload 5, 2) := by decide +kernel
theorem own_d_jdk_42_46_43 : decode jdk_42_method_46_code 43 = .ok (.arraylength, 1) := by decide +kernel
theorem own_d_jdk_42_46_44 : decode jdk_42_method_46_code 44 = .ok (.istore 6, 2) := by decide +kernel
theorem own_d_jdk_42_46_46 : decode jdk_42_method_46_code 46 = .ok (.iconst 0, 1) := by decide +kernel
theorem own_d_jdk_42_46_47 : decode jdk_42_method_46_code 47 = .ok (.istore 7, 2) := by decide +kernel
theorem own_d_jdk_42_46_49 : decode jdk_42_method_46_code 49 = .ok (.iload 7, 2) := by decide +kernel
theorem own_d_jdk_42_46_51 : decode jdk_42_method_46_code 51 = .ok (.iload 6, 2) := by decide +kernel
theorem own_d_jdk_42_46_53 : decode jdk_42_method_46_code 53 = .ok (.if_icmp .ge 71, 3) := by decide +kernel
theorem own_d_jdk_42_46_56 : decode jdk_42_method_46_code 56 = .ok (.aload 5, 2) := by decide +kernel
theorem own_d_jdk_42_46_58 : decode jdk_42_method_46_code 58 = .ok (.iload 7, 2) := by decide +kernel
theorem own_d_jdk_42_46_60 : decode jdk_42_method_46_code 60 = .ok (.baload, 1) := by decide +kernel
theorem own_d_jdk_42_46_61 : decode jdk_42_method_46_code 61 = .ok (.istore 8, 2) := by decide +kernel
theorem own_d_jdk_42_46_63 : decode jdk_42_method_46_code 63 = .ok (.iload 8, 2) := by decide +kernel
theorem own_d_jdk_42_46_65 : decode jdk_42_method_46_code 65 = .ok (.ifCond .ge 44, 3) := by decide +kernel
theorem own_d_jdk_42_46_68 : decode jdk_42_method_46_code 68 = .ok (.aload 4, 2) := by decide +kernel
theorem own_d_jdk_42_46_70 : decode jdk_42_method_46_code 70 = .ok (.iload_n 3, 1) := by decide +kernel
theorem own_d_jdk_42_46_71 : decode jdk_42_method_46_code 71 = .ok (.iinc 3 1, 3) := by decide +kernel
theorem own_d_jdk_42_46_74 : decode jdk_42_method_46_code 74 = .ok (.sipush 192, 3) := by decide +kernel
theorem own_d_jdk_42_46_77 : decode jdk_42_method_46_code 77 = .ok (.iload 8, 2) := by decide +kernel
theorem own_d_jdk_42_46_79 : decode jdk_42_method_46_code 79 = .ok (.sipush 255, 3) := by decide +kernel
theorem own_d_jdk_42_46_82 : decode jdk_42_method_46_code 82 = .ok (.iand, 1) := by decide +kernel
theorem own_d_jdk_42_46_83 : decode jdk_42_method_46_code 83 = .ok (.bipush 6, 2) := by decide +kernel
theorem own_d_jdk_42_46_85 : decode jdk_42_method_46_code 85 = .ok (.ishr, 1) := by decide +kernel
theorem own_d_jdk_42_46_86 : decode jdk_42_method_46_code 86 = .ok (.ior, 1) := by decide +kernel
theorem own_d_jdk_42_46_87 : decode jdk_42_method_46_code 87 = .ok (.i2b, 1) := by decide +kernel
theorem own_d_jdk_42_46_88 : decode jdk_42_method_46_code 88 = .ok (.bastore, 1) := by decide +kernel
theorem own_d_jdk_42_46_89 : decode jdk_42_method_46_code 89 = .ok (.aload 4, 2) := by decide +kernel
theorem own_d_jdk_42_46_91 : decode jdk_42_method_46_code 91 = .ok (.iload_n 3, 1) := by decide +kernel
theorem own_d_jdk_42_46_92 : decode jdk_42_method_46_code 92 = .ok (.iinc 3 1, 3) := by decide +kernel
theorem own_d_jdk_42_46_95 : decode jdk_42_method_46_code 95 = .ok (.sipush 128, 3) := by decide +kernel
theorem own_d_jdk_42_46_98 : decode jdk_42_method_46_code 98 = .ok (.iload 8, 2) := by decide +kernel
theorem own_d_jdk_42_46_100 : decode jdk_42_method_46_code 100 = .ok (.bipush 63, 2) := by decide +kernel
theorem own_d_jdk_42_46_102 : decode jdk_42_method_46_code 102 = .ok (.iand, 1) := by decide +kernel
theorem own_d_jdk_42_46_103 : decode jdk_42_method_46_code 103 = .ok (.ior, 1) := by decide +kernel
theorem own_d_jdk_42_46_104 : decode jdk_42_method_46_code 104 = .ok (.i2b, 1) := by decide +kernel
theorem own_d_jdk_42_46_105 : decode jdk_42_method_46_code 105 = .ok (.bastore, 1) := by decide +kernel
theorem own_d_jdk_42_46_106 : decode jdk_42_method_46_code 106 = .ok (.goto 12, 3) := by decide +kernel
theorem own_d_jdk_42_46_118 : decode jdk_42_method_46_code 118 = .ok (.iinc 7 1, 3) := by decide +kernel
theorem own_d_jdk_42_46_121 : decode jdk_42_method_46_code 121 = .ok (.goto (-72), 3) := by decide +kernel
theorem own_d_jdk_42_46_109 : decode jdk_42_method_46_code 109 = .ok (.aload 4, 2) := by decide +kernel
theorem own_d_jdk_42_46_111 : decode jdk_42_method_46_code 111 = .ok (.iload_n 3, 1) := by decide +kernel
theorem own_d_jdk_42_46_112 : decode jdk_42_method_46_code 112 = .ok (.iinc 3 1, 3) := by decide +kernel
theorem own_d_jdk_42_46_115 : decode jdk_42_method_46_code 115 = .ok (.iload 8, 2) := by decide +kernel
theorem own_d_jdk_42_46_117 : decode jdk_42_method_46_code 117 = .ok (.bastore, 1) := by decide +kernel
theorem own_d_jdk_42_46_124 : decode jdk_42_method_46_code 124 = .ok (.iload_n 3, 1) := by decide +kernel
theorem own_d_jdk_42_46_125 : decode jdk_42_method_46_code 125 = .ok (.aload 4, 2) := by decide +kernel
theorem own_d_jdk_42_46_127 : decode jdk_42_method_46_code 127 = .ok (.arraylength, 1) := by decide +kernel
theorem own_d_jdk_42_46_128 : decode jdk_42_method_46_code 128 = .ok (.if_icmp .ne 6, 3) := by decide +kernel
theorem own_d_jdk_42_46_131 : decode jdk_42_method_46_code 131 = .ok (.aload 4, 2) := by decide +kernel
theorem own_d_jdk_42_46_133 : decode jdk_42_method_46_code 133 = .ok (.areturn, 1) := by decide +kernel
theorem own_d_jdk_42_46_134 : decode jdk_42_method_46_code 134 = .ok (.aload 4, 2) := by decide +kernel
theorem own_d_jdk_42_46_136 : decode jdk_42_method_46_code 136 = .ok (.iload_n 3, 1) := by decide +kernel
theorem own_d_jdk_42_46_137 : decode jdk_42_method_46_code 137 = .ok (.invokestatic 102, 3) := by decide +kernel
theorem own_pd22 : parseMethodDescriptor "([BI)[B" = some ⟨[(.array .byte), .int], some (.array .byte)⟩ := by decide +kernel
theorem own_d_jdk_42_46_140 : decode jdk_42_method_46_code 140 = .ok (.areturn, 1) := by decide +kernel
def own_Q_own_encu (Z : State) (ra : Addr) (bs : List Int8) (h0 : Heap) (n0 : Nat) (v : Option Value) (h : Heap) (L : List Loc) : Prop := ∃ rn, v = some (.ref rn) ∧ Fr n0 L ∧ own_Ar Z h rn .byte (own_enc bs).length (own_by (own_enc bs)) ∧ Keep h0 h []
set_option maxRecDepth 65536 in
set_option maxHeartbeats 40000000 in
theorem own_encu (l : Launch) (Z : State) (a0 : Array Value) (hw : ∀ d ∈ tables_1, d.before a0 Z = true) (ws : List Jvm.Cond) (ra : Addr) (bs : List Int8) (h0 : Heap) (n0 : Nat) (Z0 : n0 ≤ h0.size) (aa : own_Ar Z h0 ra .byte bs.length (own_by bs)) (eB : Exa Z h0 ra "[B") (hl : bs.length ≤ 8) :
    MetFree l (⟨"java/lang/String", "encodeUTF8", "(B[BZ)[B"⟩ : MethodName) (head1 (Jvm.Cond.code (⟨"java/lang/String", "encodeUTF8", "(B[BZ)[B"⟩ : MethodName) jdk_42_method_46_code 9 (some (.array .byte)) :: ws) ({ frames := 2, cells := 2, slots := 32, locals := 32 } : Room)) (fun av_ U => av_ = #[(.int (0 : Int32)), (.ref ra), (.int (1 : Int32))] ∧ Z.Warmed39 U.vm ∧ U.heap = h0) (fun _ _ _ _ _ => True) (fun _ U o U' => ∃ v L, o = .returned v ∧ own_Q_own_encu Z ra bs h0 n0 v U'.heap L ∧ FrameEnd U o U' L ({ frames := 2, cells := 2, slots := 32, locals := 32 } : Room).cells ({ frames := 2, cells := 2, slots := 32, locals := 32 } : Room).slots) := by
  refine MetFree.of_bodySF (plainFor_of_name own_pn1) hisR ?_
  intro p e s m args below meth c s₁ Bd hml0 hP hK
  obtain ⟨rfl, hZ, hh⟩ := hP
  have hx := Bd.exec
  have hby := Bd.bytes
  have hml : c.maxLocals = 9 := hml0
  have hown : s.vm.findClass "java/lang/String" = some m.cls := findClass_of_methodNamed Bd.named
  have hnm := (name_of_methodNamed Bd.named Bd.method).1
  have X0 : Stand p l e ({ frames := 2, cells := 2, slots := 32, locals := 32 } : Room) s m #[(.int (0 : Int32)), (.ref ra), (.int (1 : Int32))] below meth c s₁ [] 0 0 := Stand.of_body Bd
  have e0 : s₁.heap = h0 := by rw [← hh, Bd.state]; rfl
  have N0 := Fr.nil n0
  suffices hgo : own_Go p e below (fun o U' => ∃ v L, o = .returned v ∧ own_Q_own_encu Z ra bs h0 n0 v U'.heap L ∧ FrameEnd s o U' L ({ frames := 2, cells := 2, slots := 32, locals := 32 } : Room).cells ({ frames := 2, cells := 2, slots := 32, locals := 32 } : Room).slots) (s₁.setTop (mkF m 0 #[.val (.int (0 : Int32)), .val (.ref ra), .val (.int (1 : Int32)), .unset, .unset, .unset, .unset, .unset, .unset] [])) by
    obtain ⟨s₂, o, h1, h2, h3, h4⟩ := hgo
    exact ⟨s₂, o, castTop (own_ef34 m (0 : Int32) ra (1 : Int32)) h1, h2, h3, h4⟩
  have kk0 : Keep h0 h0 [] := Keep.refl _ _
  show own_Go p e below _ (s₁.setTop (mkF m 0 #[.val (.int (0 : Int32)), .val (.ref ra), .val (.int (1 : Int32)), .unset, .unset, .unset, .unset, .unset, .unset] []))
  have hun : (Nat.toInt32 bs.length).toInt = ((bs.length : Nat) : Int) := len_toInt (by omega)
  refine own_Go.st (fun _ kt => XS.iloadN X0.here hx rfl (hb hby own_d_jdk_42_46_0) rfl kt) ?_
  show own_Go p e below _ (s₁.setTop (mkF m 1 #[.val (.int (0 : Int32)), .val (.ref ra), .val (.int (1 : Int32)), .unset, .unset, .unset, .unset, .unset, .unset] [(.int (0 : Int32))]))
  refine own_Go.st (fun _ kt => XS.iconst X0.here hx rfl (hb hby own_d_jdk_42_46_1) kt) ?_
  show own_Go p e below _ (s₁.setTop (mkF m 2 #[.val (.int (0 : Int32)), .val (.ref ra), .val (.int (1 : Int32)), .unset, .unset, .unset, .unset, .unset, .unset] [(.int (1 : Int32)), (.int (0 : Int32))]))
  refine own_Go.st (fun _ kt => XS.icmpYes X0.here hx rfl (pc0 := 2) (pc' := 11) rfl (hb hby own_d_jdk_42_46_2) rfl (feq (by decide)).2 (by decide) (by decide) kt) ?_
  show own_Go p e below _ (s₁.setTop (mkF m 11 #[.val (.int (0 : Int32)), .val (.ref ra), .val (.int (1 : Int32)), .unset, .unset, .unset, .unset, .unset, .unset] []))
  refine own_Go.st (fun _ kt => XS.aloadN X0.here hx rfl (hb hby own_d_jdk_42_46_11) rfl rfl kt) ?_
  show own_Go p e below _ (s₁.setTop (mkF m 12 #[.val (.int (0 : Int32)), .val (.ref ra), .val (.int (1 : Int32)), .unset, .unset, .unset, .unset, .unset, .unset] [(.ref ra)]))
  refine own_Go.st (fun _ kt => XS.iconst X0.here hx rfl (hb hby own_d_jdk_42_46_12) kt) ?_
  show own_Go p e below _ (s₁.setTop (mkF m 13 #[.val (.int (0 : Int32)), .val (.ref ra), .val (.int (1 : Int32)), .unset, .unset, .unset, .unset, .unset, .unset] [(.int (0 : Int32)), (.ref ra)]))
  refine own_Go.st (fun _ kt => XS.aloadN X0.here hx rfl (hb hby own_d_jdk_42_46_13) rfl rfl kt) ?_
  show own_Go p e below _ (s₁.setTop (mkF m 14 #[.val (.int (0 : Int32)), .val (.ref ra), .val (.int (1 : Int32)), .unset, .unset, .unset, .unset, .unset, .unset] [(.ref ra), (.int (0 : Int32)), (.ref ra)]))
  refine own_Go.st (fun _ kt => own_alen X0 hx hZ e0 aa (z := (Nat.toInt32 bs.length)) hun (g := (mkF m 14 #[.val (.int (0 : Int32)), .val (.ref ra), .val (.int (1 : Int32)), .unset, .unset, .unset, .unset, .unset, .unset] [(.ref ra), (.int (0 : Int32)), (.ref ra)])) rfl rfl (hb hby own_d_jdk_42_46_14) _ kt) ?_
  show own_Go p e below _ (s₁.setTop (mkF m 15 #[.val (.int (0 : Int32)), .val (.ref ra), .val (.int (1 : Int32)), .unset, .unset, .unset, .unset, .unset, .unset] [(.int (Nat.toInt32 bs.length)), (.int (0 : Int32)), (.ref ra)]))
  obtain ⟨_, _, ⟨T1, L1, k1, n1⟩, -, X1, ⟨Lc1, hQ1, l1, y1, z1⟩, st1⟩ := Jvm.LawKit.callS X0 hx (y := (⟨"java/lang/StringCoding", "hasNegatives", "([BII)Z"⟩ : MethodName)) hown (mvT hZ (own_w hw 153 rfl)) (mvT hZ (own_w hw 154 rfl)) (mvT hZ (own_w hw 155 rfl)) (mvT hZ (own_w hw 156 rfl)) (by decide) (backOf (W := 0) (own_hn l Z a0 hw [] ra (Nat.toInt32 bs.length) bs h0 n0 Z0 aa hun hl) hZ (own_w hw 156 rfl) (own_w hw 155 rfl) (by decide) (by decide)) (g := (mkF m 15 #[.val (.int (0 : Int32)), .val (.ref ra), .val (.int (1 : Int32)), .unset, .unset, .unset, .unset, .unset, .unset] [(.int (Nat.toInt32 bs.length)), (.int (0 : Int32)), (.ref ra)])) rfl (by rw [hml]; rfl) (argsL := [(.ref ra), (.int (0 : Int32)), (.int (Nat.toInt32 bs.length))]) (rest := []) (lenOf own_pd20 rfl) rfl (by show 2 * 0 + _ ≤ _; exact Nat.le_of_eq rfl) (hb hby own_d_jdk_42_46_15) (fun _ _ => ⟨rfl, e0, (by decide : 0 + 0 ≤ _), (by decide : 0 + 0 ≤ _)⟩)
  dsimp only [Pt.U, Pt.locs, Pt.cells, Pt.slots] at X1 l1 y1 z1 st1 hQ1
  subst l1 y1 z1
  obtain ⟨zp, rfl, N1q, hB1, hh1⟩ := hQ1
  have N1 := Fr.app N0 N1q
  refine own_Go.st (fun _ kt => st1 _ kt) ?_
  show own_Go p e below _ (T1.setTop (mkF m 18 #[.val (.int (0 : Int32)), .val (.ref ra), .val (.int (1 : Int32)), .unset, .unset, .unset, .unset, .unset, .unset] [(.int zp)]))
  rcases hB1 with ⟨rfl, hpos⟩ | rfl
  · show own_Go p e below _ (T1.setTop (mkF m 18 #[.val (.int (0 : Int32)), .val (.ref ra), .val (.int (1 : Int32)), .unset, .unset, .unset, .unset, .unset, .unset] [(.int (0 : Int32))]))
    refine own_Go.st (fun _ kt => XS.ifNo X1.here hx rfl (hb hby own_d_jdk_42_46_18) rfl ((if0 _ _).trans (teq rfl).2) kt) ?_
    show own_Go p e below _ (T1.setTop (mkF m 21 #[.val (.int (0 : Int32)), .val (.ref ra), .val (.int (1 : Int32)), .unset, .unset, .unset, .unset, .unset, .unset] []))
    refine own_Go.st (fun _ kt => XS.aloadN X1.here hx rfl (hb hby own_d_jdk_42_46_21) rfl rfl kt) ?_
    show own_Go p e below _ (T1.setTop (mkF m 22 #[.val (.int (0 : Int32)), .val (.ref ra), .val (.int (1 : Int32)), .unset, .unset, .unset, .unset, .unset, .unset] [(.ref ra)]))
    have ac2 := aa
    obtain ⟨cc2, AA2, SS2, HH2⟩ := ac2
    obtain ⟨T2, h2, X2, e2, E2, A2, B2, st2⟩ := cloneA X1 hx hZ hown (own_w hw 160 rfl) (own_w hw 161 rfl) (own_w hw 165 rfl) (own_w hw 163 rfl) (own_w hw 164 rfl) (own_w hw 166 rfl) hh1 AA2 eB (own_fitB aa _ AA2) (g := (mkF m 22 #[.val (.int (0 : Int32)), .val (.ref ra), .val (.int (1 : Int32)), .unset, .unset, .unset, .unset, .unset, .unset] [(.ref ra)])) rfl (by rw [hml]; rfl) rfl (hb hby own_d_jdk_42_46_22) (by decide) (W := 0) (cap := 8) (by show 2 * 0 + _ ≤ _; exact Nat.le_of_eq rfl) (by decide) (by rw [SS2]; exact hl) (by decide) (by decide)
    obtain ⟨rn, g2⟩ : ∃ z, z = Array.size h0 := ⟨_, rfl⟩
    rw [← g2] at A2 B2 st2
    refine own_Go.st st2 ?_
    have ne_ra_rn : ra ≠ rn := Nat.ne_of_lt (Nat.lt_of_lt_of_le (aa).lt (Nat.le_of_eq g2.symm))
    have n0_rn : n0 ≤ rn := Nat.le_trans Z0 (Nat.le_of_eq g2.symm)
    have b_rn : Array.size h0 ≤ rn := Nat.le_trans kk0.1 (Nat.le_of_eq g2.symm)
    have zz3 : n0 ≤ Array.size h2 := Nat.le_trans Z0 E2.1
    have kk3 : Keep h0 h2 [] := kk0.ext E2
    show own_Go p e below _ (T2.setTop (mkF m 25 #[.val (.int (0 : Int32)), .val (.ref ra), .val (.int (1 : Int32)), .unset, .unset, .unset, .unset, .unset, .unset] [(.ref rn)]))
    obtain ⟨T4, X4, e4, st4⟩ := castY X2 hx hZ hown (own_w hw 167 rfl) e2 (Ins.self B2) (g := (mkF m 25 #[.val (.int (0 : Int32)), .val (.ref ra), .val (.int (1 : Int32)), .unset, .unset, .unset, .unset, .unset, .unset] [(.ref rn)])) rfl rfl (hb hby own_d_jdk_42_46_25)
    refine own_Go.st st4 ?_
    show own_Go p e below _ (T4.setTop (mkF m 28 #[.val (.int (0 : Int32)), .val (.ref ra), .val (.int (1 : Int32)), .unset, .unset, .unset, .unset, .unset, .unset] [(.ref rn)]))
    have fin : own_Ar Z h2 rn .byte (own_enc bs).length (own_by (own_enc bs)) := by rw [own_enc_pos bs hpos]; exact ⟨_, A2, SS2, HH2⟩
    have kk := kk3
    rw [← e4] at fin kk
    exact own_retA X4 hx Bd.notSynchronized Bd.returns rfl rfl (hb hby own_d_jdk_42_46_28) (by decide) (by decide) ⟨rn, rfl, N1, fin, kk⟩
  · show own_Go p e below _ (T1.setTop (mkF m 18 #[.val (.int (0 : Int32)), .val (.ref ra), .val (.int (1 : Int32)), .unset, .unset, .unset, .unset, .unset, .unset] [(.int (1 : Int32))]))
    refine own_Go.st (fun _ kt => XS.ifYes X1.here hx rfl (pc0 := 18) (pc' := 29) rfl (hb hby own_d_jdk_42_46_18) rfl ((if0 _ _).trans (feq (by decide)).2) (by decide) (by decide) kt) ?_
    show own_Go p e below _ (T1.setTop (mkF m 29 #[.val (.int (0 : Int32)), .val (.ref ra), .val (.int (1 : Int32)), .unset, .unset, .unset, .unset, .unset, .unset] []))
    refine own_Go.st (fun _ kt => XS.iconst X1.here hx rfl (hb hby own_d_jdk_42_46_29) kt) ?_
    show own_Go p e below _ (T1.setTop (mkF m 30 #[.val (.int (0 : Int32)), .val (.ref ra), .val (.int (1 : Int32)), .unset, .unset, .unset, .unset, .unset, .unset] [(.int (0 : Int32))]))
    refine own_Go.st (fun _ kt => XS.istoreN X1.here hx rfl (hb hby own_d_jdk_42_46_30) rfl (l' := #[.val (.int (0 : Int32)), .val (.ref ra), .val (.int (1 : Int32)), .val (.int (0 : Int32)), .unset, .unset, .unset, .unset, .unset]) rfl kt) ?_
    show own_Go p e below _ (T1.setTop (mkF m 31 #[.val (.int (0 : Int32)), .val (.ref ra), .val (.int (1 : Int32)), .val (.int (0 : Int32)), .unset, .unset, .unset, .unset, .unset] []))
    refine own_Go.st (fun _ kt => XS.aloadN X1.here hx rfl (hb hby own_d_jdk_42_46_31) rfl rfl kt) ?_
    show own_Go p e below _ (T1.setTop (mkF m 32 #[.val (.int (0 : Int32)), .val (.ref ra), .val (.int (1 : Int32)), .val (.int (0 : Int32)), .unset, .unset, .unset, .unset, .unset] [(.ref ra)]))
    refine own_Go.st (fun _ kt => own_alen X1 hx hZ hh1 aa (z := (Nat.toInt32 bs.length)) hun (g := (mkF m 32 #[.val (.int (0 : Int32)), .val (.ref ra), .val (.int (1 : Int32)), .val (.int (0 : Int32)), .unset, .unset, .unset, .unset, .unset] [(.ref ra)])) rfl rfl (hb hby own_d_jdk_42_46_32) _ kt) ?_
    show own_Go p e below _ (T1.setTop (mkF m 33 #[.val (.int (0 : Int32)), .val (.ref ra), .val (.int (1 : Int32)), .val (.int (0 : Int32)), .unset, .unset, .unset, .unset, .unset] [(.int (Nat.toInt32 bs.length))]))
    obtain ⟨_, _, ⟨T5, L5, k5, n5⟩, -, X5, ⟨Lc5, hQ5, l5, y5, z5⟩, st5⟩ := Jvm.LawKit.callS X1 hx (y := (⟨"java/lang/StringUTF16", "newBytesFor", "(I)[B"⟩ : MethodName)) hown (mvT hZ (own_w hw 189 rfl)) (mvT hZ (own_w hw 190 rfl)) (mvT hZ (own_w hw 178 rfl)) (mvT hZ (own_w hw 191 rfl)) (by decide) (backOf (W := 0) (own_nbf l Z a0 hw [] (Nat.toInt32 bs.length) bs.length h0 n0 Z0 hun hl) hZ (own_w hw 191 rfl) (own_w hw 178 rfl) (by decide) (by decide)) (g := (mkF m 33 #[.val (.int (0 : Int32)), .val (.ref ra), .val (.int (1 : Int32)), .val (.int (0 : Int32)), .unset, .unset, .unset, .unset, .unset] [(.int (Nat.toInt32 bs.length))])) rfl (by rw [hml]; rfl) (argsL := [(.int (Nat.toInt32 bs.length))]) (rest := []) (lenOf own_pd21 rfl) rfl (by show 2 * 0 + _ ≤ _; exact Nat.le_of_eq rfl) (hb hby own_d_jdk_42_46_33) (fun _ _ => ⟨rfl, hh1, (by decide : 0 + 1 ≤ _), (by decide : 0 + 16 ≤ _)⟩)
    dsimp only [Pt.U, Pt.locs, Pt.cells, Pt.slots] at X5 l5 y5 z5 st5 hQ5
    subst l5 y5 z5
    obtain ⟨rb, rfl, N5q, ab5, nb5, bb5, KF5⟩ := hQ5
    have N5 := Fr.app N1 N5q
    refine own_Go.st (fun _ kt => st5 _ kt) ?_
    have zz6 : n0 ≤ Array.size T5.heap := Nat.le_trans Z0 KF5.1
    have kk6 : Keep h0 T5.heap [] := kk0.trans KF5 all0
    show own_Go p e below _ (T5.setTop (mkF m 36 #[.val (.int (0 : Int32)), .val (.ref ra), .val (.int (1 : Int32)), .val (.int (0 : Int32)), .unset, .unset, .unset, .unset, .unset] [(.ref rb)]))
    have nerb : ra ≠ rb := Nat.ne_of_lt (Nat.lt_of_lt_of_le aa.lt bb5)
    refine own_Go.st (fun _ kt => XS.astore X5.here hx rfl (hb hby own_d_jdk_42_46_36) rfl rfl (l' := #[.val (.int (0 : Int32)), .val (.ref ra), .val (.int (1 : Int32)), .val (.int (0 : Int32)), .val (.ref rb), .unset, .unset, .unset, .unset]) rfl kt) ?_
    show own_Go p e below _ (T5.setTop (mkF m 38 #[.val (.int (0 : Int32)), .val (.ref ra), .val (.int (1 : Int32)), .val (.int (0 : Int32)), .val (.ref rb), .unset, .unset, .unset, .unset] []))
    refine own_Go.st (fun _ kt => XS.aloadN X5.here hx rfl (hb hby own_d_jdk_42_46_38) rfl rfl kt) ?_
    show own_Go p e below _ (T5.setTop (mkF m 39 #[.val (.int (0 : Int32)), .val (.ref ra), .val (.int (1 : Int32)), .val (.int (0 : Int32)), .val (.ref rb), .unset, .unset, .unset, .unset] [(.ref ra)]))
    refine own_Go.st (fun _ kt => XS.astore X5.here hx rfl (hb hby own_d_jdk_42_46_39) rfl rfl (l' := #[.val (.int (0 : Int32)), .val (.ref ra), .val (.int (1 : Int32)), .val (.int (0 : Int32)), .val (.ref rb), .val (.ref ra), .unset, .unset, .unset]) rfl kt) ?_
    show own_Go p e below _ (T5.setTop (mkF m 41 #[.val (.int (0 : Int32)), .val (.ref ra), .val (.int (1 : Int32)), .val (.int (0 : Int32)), .val (.ref rb), .val (.ref ra), .unset, .unset, .unset] []))
    refine own_Go.st (fun _ kt => XS.aload X5.here hx rfl (hb hby own_d_jdk_42_46_41) rfl rfl kt) ?_
    show own_Go p e below _ (T5.setTop (mkF m 43 #[.val (.int (0 : Int32)), .val (.ref ra), .val (.int (1 : Int32)), .val (.int (0 : Int32)), .val (.ref rb), .val (.ref ra), .unset, .unset, .unset] [(.ref ra)]))
    have f7 := (aa.keep KF5 nin0)
    refine own_Go.st (fun _ kt => own_alen X5 hx hZ rfl f7 (z := (Nat.toInt32 bs.length)) hun (g := (mkF m 43 #[.val (.int (0 : Int32)), .val (.ref ra), .val (.int (1 : Int32)), .val (.int (0 : Int32)), .val (.ref rb), .val (.ref ra), .unset, .unset, .unset] [(.ref ra)])) rfl rfl (hb hby own_d_jdk_42_46_43) _ kt) ?_
    show own_Go p e below _ (T5.setTop (mkF m 44 #[.val (.int (0 : Int32)), .val (.ref ra), .val (.int (1 : Int32)), .val (.int (0 : Int32)), .val (.ref rb), .val (.ref ra), .unset, .unset, .unset] [(.int (Nat.toInt32 bs.length))]))
    refine own_Go.st (fun _ kt => XS.istore X5.here hx rfl (hb hby own_d_jdk_42_46_44) rfl (l' := #[.val (.int (0 : Int32)), .val (.ref ra), .val (.int (1 : Int32)), .val (.int (0 : Int32)), .val (.ref rb), .val (.ref ra), .val (.int (Nat.toInt32 bs.length)), .unset, .unset]) rfl kt) ?_
    show own_Go p e below _ (T5.setTop (mkF m 46 #[.val (.int (0 : Int32)), .val (.ref ra), .val (.int (1 : Int32)), .val (.int (0 : Int32)), .val (.ref rb), .val (.ref ra), .val (.int (Nat.toInt32 bs.length)), .unset, .unset] []))
    refine own_Go.st (fun _ kt => XS.iconst X5.here hx rfl (hb hby own_d_jdk_42_46_46) kt) ?_
    show own_Go p e below _ (T5.setTop (mkF m 47 #[.val (.int (0 : Int32)), .val (.ref ra), .val (.int (1 : Int32)), .val (.int (0 : Int32)), .val (.ref rb), .val (.ref ra), .val (.int (Nat.toInt32 bs.length)), .unset, .unset] [(.int (0 : Int32))]))
    refine own_Go.st (fun _ kt => XS.istore X5.here hx rfl (hb hby own_d_jdk_42_46_47) rfl (l' := #[.val (.int (0 : Int32)), .val (.ref ra), .val (.int (1 : Int32)), .val (.int (0 : Int32)), .val (.ref rb), .val (.ref ra), .val (.int (Nat.toInt32 bs.length)), .val (.int (0 : Int32)), .unset]) rfl kt) ?_
    show own_Go p e below _ (T5.setTop (mkF m 49 #[.val (.int (0 : Int32)), .val (.ref ra), .val (.int (1 : Int32)), .val (.int (0 : Int32)), .val (.ref rb), .val (.ref ra), .val (.int (Nat.toInt32 bs.length)), .val (.int (0 : Int32)), .unset] []))
    have LO : ∀ (td : Nat) (T8 : State) (lc8 : List Loc) (h8 : Heap) (X8 : Stand p l e ({ frames := 2, cells := 2, slots := 32, locals := 32 } : Room) s m #[(.int (0 : Int32)), (.ref ra), (.int (1 : Int32))] below meth c T8 lc8 1 16) (e8 : T8.heap = h8) (N8 : Fr n0 lc8) (i : Nat) (x3 : Int32) (x7 : Int32) (s8 : Slot) (hs8 : s8 = .unset ∨ ∃ y8, s8 = .val (.int y8)) (ht : i + td = bs.length) (i3 : x3.toInt = ((own_enc (bs.take i)).length : Int)) (i7 : x7.toInt = (i : Int)) (ac : own_Ar Z h8 ra .byte bs.length (own_by bs)) (ab : own_Ar Z h8 rb .byte (2 * bs.length) (own_by (own_enc (bs.take i)))) (zz : n0 ≤ Array.size h8) (kk : Keep h0 h8 []), own_Go p e below (fun o U' => ∃ v L, o = .returned v ∧ own_Q_own_encu Z ra bs h0 n0 v U'.heap L ∧ FrameEnd s o U' L ({ frames := 2, cells := 2, slots := 32, locals := 32 } : Room).cells ({ frames := 2, cells := 2, slots := 32, locals := 32 } : Room).slots) (T8.setTop (mkF m 49 #[.val (.int (0 : Int32)), .val (.ref ra), .val (.int (1 : Int32)), .val (.int x3), .val (.ref rb), .val (.ref ra), .val (.int (Nat.toInt32 bs.length)), .val (.int x7), s8] [])) := by
      intro td
      induction td using Nat.strongRecOn with
      | ind td IH =>
        intro T8 lc8 h8 X8 e8 N8 i x3 x7 s8 hs8 ht i3 i7 ac ab zz kk
        show own_Go p e below _ (T8.setTop (mkF m 49 #[.val (.int (0 : Int32)), .val (.ref ra), .val (.int (1 : Int32)), .val (.int x3), .val (.ref rb), .val (.ref ra), .val (.int (Nat.toInt32 bs.length)), .val (.int x7), s8] []))
        refine own_Go.st (fun _ kt => XS.iload X8.here hx rfl (hb hby own_d_jdk_42_46_49) rfl kt) ?_
        show own_Go p e below _ (T8.setTop (mkF m 51 #[.val (.int (0 : Int32)), .val (.ref ra), .val (.int (1 : Int32)), .val (.int x3), .val (.ref rb), .val (.ref ra), .val (.int (Nat.toInt32 bs.length)), .val (.int x7), s8] [(.int x7)]))
        refine own_Go.st (fun _ kt => XS.iload X8.here hx rfl (hb hby own_d_jdk_42_46_51) rfl kt) ?_
        show own_Go p e below _ (T8.setTop (mkF m 53 #[.val (.int (0 : Int32)), .val (.ref ra), .val (.int (1 : Int32)), .val (.int x3), .val (.ref rb), .val (.ref ra), .val (.int (Nat.toInt32 bs.length)), .val (.int x7), s8] [(.int (Nat.toInt32 bs.length)), (.int x7)]))
        have hci : x7 < (Nat.toInt32 bs.length) ↔ i < bs.length := by rw [Int32.lt_iff_toInt_lt, i7, hun]; omega
        by_cases hc53 : x7 < (Nat.toInt32 bs.length)
        · refine own_Go.st (fun _ kt => XS.icmpNo X8.here hx rfl (hb hby own_d_jdk_42_46_53) rfl (tlt hc53).2.1 kt) ?_
          show own_Go p e below _ (T8.setTop (mkF m 56 #[.val (.int (0 : Int32)), .val (.ref ra), .val (.int (1 : Int32)), .val (.int x3), .val (.ref rb), .val (.ref ra), .val (.int (Nat.toInt32 bs.length)), .val (.int x7), s8] []))
          refine own_Go.st (fun _ kt => XS.aload X8.here hx rfl (hb hby own_d_jdk_42_46_56) rfl rfl kt) ?_
          show own_Go p e below _ (T8.setTop (mkF m 58 #[.val (.int (0 : Int32)), .val (.ref ra), .val (.int (1 : Int32)), .val (.int x3), .val (.ref rb), .val (.ref ra), .val (.int (Nat.toInt32 bs.length)), .val (.int x7), s8] [(.ref ra)]))
          refine own_Go.st (fun _ kt => XS.iload X8.here hx rfl (hb hby own_d_jdk_42_46_58) rfl kt) ?_
          show own_Go p e below _ (T8.setTop (mkF m 60 #[.val (.int (0 : Int32)), .val (.ref ra), .val (.int (1 : Int32)), .val (.int x3), .val (.ref rb), .val (.ref ra), .val (.int (Nat.toInt32 bs.length)), .val (.int x7), s8] [(.int x7), (.ref ra)]))
          have hlt := hci.mp hc53
          have etl := own_enc_tl (bs := bs) (i := i) (by omega)
          refine own_Go.st (fun _ kt => own_bald X8 hx hZ e8 ac i7 hlt (v := (.int ((bs.getD i 0).toInt32))) rfl (g := (mkF m 60 #[.val (.int (0 : Int32)), .val (.ref ra), .val (.int (1 : Int32)), .val (.int x3), .val (.ref rb), .val (.ref ra), .val (.int (Nat.toInt32 bs.length)), .val (.int x7), s8] [(.int x7), (.ref ra)])) rfl rfl (hb hby own_d_jdk_42_46_60) _ kt) ?_
          show own_Go p e below _ (T8.setTop (mkF m 61 #[.val (.int (0 : Int32)), .val (.ref ra), .val (.int (1 : Int32)), .val (.int x3), .val (.ref rb), .val (.ref ra), .val (.int (Nat.toInt32 bs.length)), .val (.int x7), s8] [(.int ((bs.getD i 0).toInt32))]))
          refine own_Go.st (fun _ kt => XS.istore X8.here hx rfl (hb hby own_d_jdk_42_46_61) rfl (l' := #[.val (.int (0 : Int32)), .val (.ref ra), .val (.int (1 : Int32)), .val (.int x3), .val (.ref rb), .val (.ref ra), .val (.int (Nat.toInt32 bs.length)), .val (.int x7), .val (.int ((bs.getD i 0).toInt32))]) (by rcases hs8 with rfl | ⟨y8, rfl⟩ <;> rfl) kt) ?_
          show own_Go p e below _ (T8.setTop (mkF m 63 #[.val (.int (0 : Int32)), .val (.ref ra), .val (.int (1 : Int32)), .val (.int x3), .val (.ref rb), .val (.ref ra), .val (.int (Nat.toInt32 bs.length)), .val (.int x7), .val (.int ((bs.getD i 0).toInt32))] []))
          refine own_Go.st (fun _ kt => XS.iload X8.here hx rfl (hb hby own_d_jdk_42_46_63) rfl kt) ?_
          show own_Go p e below _ (T8.setTop (mkF m 65 #[.val (.int (0 : Int32)), .val (.ref ra), .val (.int (1 : Int32)), .val (.int x3), .val (.ref rb), .val (.ref ra), .val (.int (Nat.toInt32 bs.length)), .val (.int x7), .val (.int ((bs.getD i 0).toInt32))] [(.int ((bs.getD i 0).toInt32))]))
          by_cases hc65 : ((bs.getD i 0).toInt32) < (0 : Int32)
          · refine own_Go.st (fun _ kt => XS.ifNo X8.here hx rfl (hb hby own_d_jdk_42_46_65) rfl ((if0 _ _).trans (tlt hc65).2.1) kt) ?_
            show own_Go p e below _ (T8.setTop (mkF m 68 #[.val (.int (0 : Int32)), .val (.ref ra), .val (.int (1 : Int32)), .val (.int x3), .val (.ref rb), .val (.ref ra), .val (.int (Nat.toInt32 bs.length)), .val (.int x7), .val (.int ((bs.getD i 0).toInt32))] []))
            refine own_Go.st (fun _ kt => XS.aload X8.here hx rfl (hb hby own_d_jdk_42_46_68) rfl rfl kt) ?_
            show own_Go p e below _ (T8.setTop (mkF m 70 #[.val (.int (0 : Int32)), .val (.ref ra), .val (.int (1 : Int32)), .val (.int x3), .val (.ref rb), .val (.ref ra), .val (.int (Nat.toInt32 bs.length)), .val (.int x7), .val (.int ((bs.getD i 0).toInt32))] [(.ref rb)]))
            refine own_Go.st (fun _ kt => XS.iloadN X8.here hx rfl (hb hby own_d_jdk_42_46_70) rfl kt) ?_
            show own_Go p e below _ (T8.setTop (mkF m 71 #[.val (.int (0 : Int32)), .val (.ref ra), .val (.int (1 : Int32)), .val (.int x3), .val (.ref rb), .val (.ref ra), .val (.int (Nat.toInt32 bs.length)), .val (.int x7), .val (.int ((bs.getD i 0).toInt32))] [(.int x3), (.ref rb)]))
            refine own_Go.st (fun _ kt => XS.iinc X8.here hx rfl (hb hby own_d_jdk_42_46_71) rfl (l' := #[.val (.int (0 : Int32)), .val (.ref ra), .val (.int (1 : Int32)), .val (.int (x3 + (1 : Int32))), .val (.ref rb), .val (.ref ra), .val (.int (Nat.toInt32 bs.length)), .val (.int x7), .val (.int ((bs.getD i 0).toInt32))]) rfl kt) ?_
            show own_Go p e below _ (T8.setTop (mkF m 74 #[.val (.int (0 : Int32)), .val (.ref ra), .val (.int (1 : Int32)), .val (.int (x3 + (1 : Int32))), .val (.ref rb), .val (.ref ra), .val (.int (Nat.toInt32 bs.length)), .val (.int x7), .val (.int ((bs.getD i 0).toInt32))] [(.int x3), (.ref rb)]))
            refine own_Go.st (fun _ kt => XS.sipush X8.here hx rfl (hb hby own_d_jdk_42_46_74) kt) ?_
            show own_Go p e below _ (T8.setTop (mkF m 77 #[.val (.int (0 : Int32)), .val (.ref ra), .val (.int (1 : Int32)), .val (.int (x3 + (1 : Int32))), .val (.ref rb), .val (.ref ra), .val (.int (Nat.toInt32 bs.length)), .val (.int x7), .val (.int ((bs.getD i 0).toInt32))] [(.int (192 : Int32)), (.int x3), (.ref rb)]))
            refine own_Go.st (fun _ kt => XS.iload X8.here hx rfl (hb hby own_d_jdk_42_46_77) rfl kt) ?_
            show own_Go p e below _ (T8.setTop (mkF m 79 #[.val (.int (0 : Int32)), .val (.ref ra), .val (.int (1 : Int32)), .val (.int (x3 + (1 : Int32))), .val (.ref rb), .val (.ref ra), .val (.int (Nat.toInt32 bs.length)), .val (.int x7), .val (.int ((bs.getD i 0).toInt32))] [(.int ((bs.getD i 0).toInt32)), (.int (192 : Int32)), (.int x3), (.ref rb)]))
            refine own_Go.st (fun _ kt => XS.sipush X8.here hx rfl (hb hby own_d_jdk_42_46_79) kt) ?_
            show own_Go p e below _ (T8.setTop (mkF m 82 #[.val (.int (0 : Int32)), .val (.ref ra), .val (.int (1 : Int32)), .val (.int (x3 + (1 : Int32))), .val (.ref rb), .val (.ref ra), .val (.int (Nat.toInt32 bs.length)), .val (.int x7), .val (.int ((bs.getD i 0).toInt32))] [(.int (255 : Int32)), (.int ((bs.getD i 0).toInt32)), (.int (192 : Int32)), (.int x3), (.ref rb)]))
            refine own_Go.st (fun _ kt => XS.iand X8.here hx rfl (hb hby own_d_jdk_42_46_82) rfl kt) ?_
            show own_Go p e below _ (T8.setTop (mkF m 83 #[.val (.int (0 : Int32)), .val (.ref ra), .val (.int (1 : Int32)), .val (.int (x3 + (1 : Int32))), .val (.ref rb), .val (.ref ra), .val (.int (Nat.toInt32 bs.length)), .val (.int x7), .val (.int ((bs.getD i 0).toInt32))] [(.int (((bs.getD i 0).toInt32) &&& (255 : Int32))), (.int (192 : Int32)), (.int x3), (.ref rb)]))
            refine own_Go.st (fun _ kt => XS.bipush X8.here hx rfl (hb hby own_d_jdk_42_46_83) kt) ?_
            show own_Go p e below _ (T8.setTop (mkF m 85 #[.val (.int (0 : Int32)), .val (.ref ra), .val (.int (1 : Int32)), .val (.int (x3 + (1 : Int32))), .val (.ref rb), .val (.ref ra), .val (.int (Nat.toInt32 bs.length)), .val (.int x7), .val (.int ((bs.getD i 0).toInt32))] [(.int (6 : Int32)), (.int (((bs.getD i 0).toInt32) &&& (255 : Int32))), (.int (192 : Int32)), (.int x3), (.ref rb)]))
            refine own_Go.st (fun _ kt => XS.ishr X8.here hx rfl (hb hby own_d_jdk_42_46_85) rfl kt) ?_
            show own_Go p e below _ (T8.setTop (mkF m 86 #[.val (.int (0 : Int32)), .val (.ref ra), .val (.int (1 : Int32)), .val (.int (x3 + (1 : Int32))), .val (.ref rb), .val (.ref ra), .val (.int (Nat.toInt32 bs.length)), .val (.int x7), .val (.int ((bs.getD i 0).toInt32))] [(.int ((((bs.getD i 0).toInt32) &&& (255 : Int32)) >>> ((6 : Int32) &&& 31))), (.int (192 : Int32)), (.int x3), (.ref rb)]))
            refine own_Go.st (fun _ kt => XS.ior X8.here hx rfl (hb hby own_d_jdk_42_46_86) rfl kt) ?_
            show own_Go p e below _ (T8.setTop (mkF m 87 #[.val (.int (0 : Int32)), .val (.ref ra), .val (.int (1 : Int32)), .val (.int (x3 + (1 : Int32))), .val (.ref rb), .val (.ref ra), .val (.int (Nat.toInt32 bs.length)), .val (.int x7), .val (.int ((bs.getD i 0).toInt32))] [(.int ((192 : Int32) ||| ((((bs.getD i 0).toInt32) &&& (255 : Int32)) >>> ((6 : Int32) &&& 31)))), (.int x3), (.ref rb)]))
            refine own_Go.st (fun _ kt => XS.i2b X8.here hx rfl (hb hby own_d_jdk_42_46_87) rfl kt) ?_
            show own_Go p e below _ (T8.setTop (mkF m 88 #[.val (.int (0 : Int32)), .val (.ref ra), .val (.int (1 : Int32)), .val (.int (x3 + (1 : Int32))), .val (.ref rb), .val (.ref ra), .val (.int (Nat.toInt32 bs.length)), .val (.int x7), .val (.int ((bs.getD i 0).toInt32))] [(.int (((192 : Int32) ||| ((((bs.getD i 0).toInt32) &&& (255 : Int32)) >>> ((6 : Int32) &&& 31))).toInt8.toInt32)), (.int x3), (.ref rb)]))
            obtain ⟨T9, h9, X9, e9, W9, st9⟩ := own_bast X8 hx hZ e8 ab i3 (by omega) (own_nar_byte _) (g := (mkF m 88 #[.val (.int (0 : Int32)), .val (.ref ra), .val (.int (1 : Int32)), .val (.int (x3 + (1 : Int32))), .val (.ref rb), .val (.ref ra), .val (.int (Nat.toInt32 bs.length)), .val (.int x7), .val (.int ((bs.getD i 0).toInt32))] [(.int (((192 : Int32) ||| ((((bs.getD i 0).toInt32) &&& (255 : Int32)) >>> ((6 : Int32) &&& 31))).toInt8.toInt32)), (.int x3), (.ref rb)])) rfl rfl (hb hby own_d_jdk_42_46_88)
            refine own_Go.st st9 ?_
            have N9 := Fr.snoc X9 N8 nb5
            have a9 := own_Ar.set ab W9
            have zz10 : n0 ≤ Array.size h9 := Nat.le_trans zz (Nat.le_of_eq (Wr.size W9).symm)
            have kk10 : Keep h0 h9 [] := kk.wr W9 (Or.inr bb5)
            show own_Go p e below _ (T9.setTop (mkF m 89 #[.val (.int (0 : Int32)), .val (.ref ra), .val (.int (1 : Int32)), .val (.int (x3 + (1 : Int32))), .val (.ref rb), .val (.ref ra), .val (.int (Nat.toInt32 bs.length)), .val (.int x7), .val (.int ((bs.getD i 0).toInt32))] []))
            have na1 : own_Ar Z h9 rb .byte (2 * bs.length) (own_by ((own_enc (bs.take i)) ++ [((192 : Int32) ||| (((bs.getD i 0).toInt32 &&& (255 : Int32)) >>> ((6 : Int32) &&& 31))).toInt8])) := a9.congr fun j _ => own_by_snoc _ _ j
            have j3 : (x3 + (1 : Int32)).toInt = ((((own_enc (bs.take i)) ++ [((192 : Int32) ||| (((bs.getD i 0).toInt32 &&& (255 : Int32)) >>> ((6 : Int32) &&& 31))).toInt8]).length : Nat) : Int) := by rw [List.length_append]; exact own_inc i3 (by omega)
            have jl : ((own_enc (bs.take i)) ++ [((192 : Int32) ||| (((bs.getD i 0).toInt32 &&& (255 : Int32)) >>> ((6 : Int32) &&& 31))).toInt8]).length = (own_enc (bs.take i)).length + 1 := by rw [List.length_append]; rfl
            refine own_Go.st (fun _ kt => XS.aload X9.here hx rfl (hb hby own_d_jdk_42_46_89) rfl rfl kt) ?_
            show own_Go p e below _ (T9.setTop (mkF m 91 #[.val (.int (0 : Int32)), .val (.ref ra), .val (.int (1 : Int32)), .val (.int (x3 + (1 : Int32))), .val (.ref rb), .val (.ref ra), .val (.int (Nat.toInt32 bs.length)), .val (.int x7), .val (.int ((bs.getD i 0).toInt32))] [(.ref rb)]))
            refine own_Go.st (fun _ kt => XS.iloadN X9.here hx rfl (hb hby own_d_jdk_42_46_91) rfl kt) ?_
            show own_Go p e below _ (T9.setTop (mkF m 92 #[.val (.int (0 : Int32)), .val (.ref ra), .val (.int (1 : Int32)), .val (.int (x3 + (1 : Int32))), .val (.ref rb), .val (.ref ra), .val (.int (Nat.toInt32 bs.length)), .val (.int x7), .val (.int ((bs.getD i 0).toInt32))] [(.int (x3 + (1 : Int32))), (.ref rb)]))
            refine own_Go.st (fun _ kt => XS.iinc X9.here hx rfl (hb hby own_d_jdk_42_46_92) rfl (l' := #[.val (.int (0 : Int32)), .val (.ref ra), .val (.int (1 : Int32)), .val (.int ((x3 + (1 : Int32)) + (1 : Int32))), .val (.ref rb), .val (.ref ra), .val (.int (Nat.toInt32 bs.length)), .val (.int x7), .val (.int ((bs.getD i 0).toInt32))]) rfl kt) ?_
            show own_Go p e below _ (T9.setTop (mkF m 95 #[.val (.int (0 : Int32)), .val (.ref ra), .val (.int (1 : Int32)), .val (.int ((x3 + (1 : Int32)) + (1 : Int32))), .val (.ref rb), .val (.ref ra), .val (.int (Nat.toInt32 bs.length)), .val (.int x7), .val (.int ((bs.getD i 0).toInt32))] [(.int (x3 + (1 : Int32))), (.ref rb)]))
            refine own_Go.st (fun _ kt => XS.sipush X9.here hx rfl (hb hby own_d_jdk_42_46_95) kt) ?_
            show own_Go p e below _ (T9.setTop (mkF m 98 #[.val (.int (0 : Int32)), .val (.ref ra), .val (.int (1 : Int32)), .val (.int ((x3 + (1 : Int32)) + (1 : Int32))), .val (.ref rb), .val (.ref ra), .val (.int (Nat.toInt32 bs.length)), .val (.int x7), .val (.int ((bs.getD i 0).toInt32))] [(.int (128 : Int32)), (.int (x3 + (1 : Int32))), (.ref rb)]))
            refine own_Go.st (fun _ kt => XS.iload X9.here hx rfl (hb hby own_d_jdk_42_46_98) rfl kt) ?_
            show own_Go p e below _ (T9.setTop (mkF m 100 #[.val (.int (0 : Int32)), .val (.ref ra), .val (.int (1 : Int32)), .val (.int ((x3 + (1 : Int32)) + (1 : Int32))), .val (.ref rb), .val (.ref ra), .val (.int (Nat.toInt32 bs.length)), .val (.int x7), .val (.int ((bs.getD i 0).toInt32))] [(.int ((bs.getD i 0).toInt32)), (.int (128 : Int32)), (.int (x3 + (1 : Int32))), (.ref rb)]))
            refine own_Go.st (fun _ kt => XS.bipush X9.here hx rfl (hb hby own_d_jdk_42_46_100) kt) ?_
            show own_Go p e below _ (T9.setTop (mkF m 102 #[.val (.int (0 : Int32)), .val (.ref ra), .val (.int (1 : Int32)), .val (.int ((x3 + (1 : Int32)) + (1 : Int32))), .val (.ref rb), .val (.ref ra), .val (.int (Nat.toInt32 bs.length)), .val (.int x7), .val (.int ((bs.getD i 0).toInt32))] [(.int (63 : Int32)), (.int ((bs.getD i 0).toInt32)), (.int (128 : Int32)), (.int (x3 + (1 : Int32))), (.ref rb)]))
            refine own_Go.st (fun _ kt => XS.iand X9.here hx rfl (hb hby own_d_jdk_42_46_102) rfl kt) ?_
            show own_Go p e below _ (T9.setTop (mkF m 103 #[.val (.int (0 : Int32)), .val (.ref ra), .val (.int (1 : Int32)), .val (.int ((x3 + (1 : Int32)) + (1 : Int32))), .val (.ref rb), .val (.ref ra), .val (.int (Nat.toInt32 bs.length)), .val (.int x7), .val (.int ((bs.getD i 0).toInt32))] [(.int (((bs.getD i 0).toInt32) &&& (63 : Int32))), (.int (128 : Int32)), (.int (x3 + (1 : Int32))), (.ref rb)]))
            refine own_Go.st (fun _ kt => XS.ior X9.here hx rfl (hb hby own_d_jdk_42_46_103) rfl kt) ?_
            show own_Go p e below _ (T9.setTop (mkF m 104 #[.val (.int (0 : Int32)), .val (.ref ra), .val (.int (1 : Int32)), .val (.int ((x3 + (1 : Int32)) + (1 : Int32))), .val (.ref rb), .val (.ref ra), .val (.int (Nat.toInt32 bs.length)), .val (.int x7), .val (.int ((bs.getD i 0).toInt32))] [(.int ((128 : Int32) ||| (((bs.getD i 0).toInt32) &&& (63 : Int32)))), (.int (x3 + (1 : Int32))), (.ref rb)]))
            refine own_Go.st (fun _ kt => XS.i2b X9.here hx rfl (hb hby own_d_jdk_42_46_104) rfl kt) ?_
            show own_Go p e below _ (T9.setTop (mkF m 105 #[.val (.int (0 : Int32)), .val (.ref ra), .val (.int (1 : Int32)), .val (.int ((x3 + (1 : Int32)) + (1 : Int32))), .val (.ref rb), .val (.ref ra), .val (.int (Nat.toInt32 bs.length)), .val (.int x7), .val (.int ((bs.getD i 0).toInt32))] [(.int (((128 : Int32) ||| (((bs.getD i 0).toInt32) &&& (63 : Int32))).toInt8.toInt32)), (.int (x3 + (1 : Int32))), (.ref rb)]))
            obtain ⟨T11, h11, X11, e11, W11, st11⟩ := own_bast X9 hx hZ e9 na1 j3 (by omega) (own_nar_byte _) (g := (mkF m 105 #[.val (.int (0 : Int32)), .val (.ref ra), .val (.int (1 : Int32)), .val (.int ((x3 + (1 : Int32)) + (1 : Int32))), .val (.ref rb), .val (.ref ra), .val (.int (Nat.toInt32 bs.length)), .val (.int x7), .val (.int ((bs.getD i 0).toInt32))] [(.int (((128 : Int32) ||| (((bs.getD i 0).toInt32) &&& (63 : Int32))).toInt8.toInt32)), (.int (x3 + (1 : Int32))), (.ref rb)])) rfl rfl (hb hby own_d_jdk_42_46_105)
            refine own_Go.st st11 ?_
            have N11 := Fr.snoc X11 N9 nb5
            have a11 := own_Ar.set na1 W11
            have zz12 : n0 ≤ Array.size h11 := Nat.le_trans zz10 (Nat.le_of_eq (Wr.size W11).symm)
            have kk12 : Keep h0 h11 [] := kk10.wr W11 (Or.inr bb5)
            show own_Go p e below _ (T11.setTop (mkF m 106 #[.val (.int (0 : Int32)), .val (.ref ra), .val (.int (1 : Int32)), .val (.int ((x3 + (1 : Int32)) + (1 : Int32))), .val (.ref rb), .val (.ref ra), .val (.int (Nat.toInt32 bs.length)), .val (.int x7), .val (.int ((bs.getD i 0).toInt32))] []))
            have nb : own_Ar Z h11 rb .byte (2 * bs.length) (own_by ((own_enc (bs.take i)) ++ [((192 : Int32) ||| (((bs.getD i 0).toInt32 &&& (255 : Int32)) >>> ((6 : Int32) &&& 31))).toInt8] ++ [((128 : Int32) ||| ((bs.getD i 0).toInt32 &&& (63 : Int32))).toInt8])) := a11.congr fun j _ => own_by_snoc _ _ j
            refine own_Go.st (fun _ kt => XS.goto X11.here hx rfl (pc0 := 106) (pc' := 118) rfl (hb hby own_d_jdk_42_46_106) (by decide) (by decide) kt) ?_
            show own_Go p e below _ (T11.setTop (mkF m 118 #[.val (.int (0 : Int32)), .val (.ref ra), .val (.int (1 : Int32)), .val (.int ((x3 + (1 : Int32)) + (1 : Int32))), .val (.ref rb), .val (.ref ra), .val (.int (Nat.toInt32 bs.length)), .val (.int x7), .val (.int ((bs.getD i 0).toInt32))] []))
            refine own_Go.st (fun _ kt => XS.iinc X11.here hx rfl (hb hby own_d_jdk_42_46_118) rfl (l' := #[.val (.int (0 : Int32)), .val (.ref ra), .val (.int (1 : Int32)), .val (.int ((x3 + (1 : Int32)) + (1 : Int32))), .val (.ref rb), .val (.ref ra), .val (.int (Nat.toInt32 bs.length)), .val (.int (x7 + (1 : Int32))), .val (.int ((bs.getD i 0).toInt32))]) rfl kt) ?_
            show own_Go p e below _ (T11.setTop (mkF m 121 #[.val (.int (0 : Int32)), .val (.ref ra), .val (.int (1 : Int32)), .val (.int ((x3 + (1 : Int32)) + (1 : Int32))), .val (.ref rb), .val (.ref ra), .val (.int (Nat.toInt32 bs.length)), .val (.int (x7 + (1 : Int32))), .val (.int ((bs.getD i 0).toInt32))] []))
            refine own_Go.st (fun _ kt => XS.goto X11.here hx rfl (pc0 := 121) (pc' := 49) rfl (hb hby own_d_jdk_42_46_121) (by decide) (by decide) kt) ?_
            show own_Go p e below _ (T11.setTop (mkF m 49 #[.val (.int (0 : Int32)), .val (.ref ra), .val (.int (1 : Int32)), .val (.int ((x3 + (1 : Int32)) + (1 : Int32))), .val (.ref rb), .val (.ref ra), .val (.int (Nat.toInt32 bs.length)), .val (.int (x7 + (1 : Int32))), .val (.int ((bs.getD i 0).toInt32))] []))
            have j4 : ((x3 + (1 : Int32)) + (1 : Int32)).toInt = ((((own_enc (bs.take i)) ++ [((192 : Int32) ||| (((bs.getD i 0).toInt32 &&& (255 : Int32)) >>> ((6 : Int32) &&& 31))).toInt8] ++ [((128 : Int32) ||| ((bs.getD i 0).toInt32 &&& (63 : Int32))).toInt8]).length : Nat) : Int) := by rw [List.length_append]; exact own_inc j3 (by omega)
            have f13 := ((ac.other W9 nerb).other W11 nerb)
            exact IH (td - 1) (by omega) _ _ _ X11 e11 N11 (i + 1) _ _ _ (Or.inr ⟨_, rfl⟩) (by omega) (by rw [own_neg2 hlt hc65]; exact j4) (own_inc i7 (by omega)) f13 (by rw [own_neg2 hlt hc65]; exact nb) zz12 kk12
          · refine own_Go.st (fun _ kt => XS.ifYes X8.here hx rfl (pc0 := 65) (pc' := 109) rfl (hb hby own_d_jdk_42_46_65) rfl ((if0 _ _).trans (flt hc65).2.1) (by decide) (by decide) kt) ?_
            show own_Go p e below _ (T8.setTop (mkF m 109 #[.val (.int (0 : Int32)), .val (.ref ra), .val (.int (1 : Int32)), .val (.int x3), .val (.ref rb), .val (.ref ra), .val (.int (Nat.toInt32 bs.length)), .val (.int x7), .val (.int ((bs.getD i 0).toInt32))] []))
            refine own_Go.st (fun _ kt => XS.aload X8.here hx rfl (hb hby own_d_jdk_42_46_109) rfl rfl kt) ?_
            show own_Go p e below _ (T8.setTop (mkF m 111 #[.val (.int (0 : Int32)), .val (.ref ra), .val (.int (1 : Int32)), .val (.int x3), .val (.ref rb), .val (.ref ra), .val (.int (Nat.toInt32 bs.length)), .val (.int x7), .val (.int ((bs.getD i 0).toInt32))] [(.ref rb)]))
            refine own_Go.st (fun _ kt => XS.iloadN X8.here hx rfl (hb hby own_d_jdk_42_46_111) rfl kt) ?_
            show own_Go p e below _ (T8.setTop (mkF m 112 #[.val (.int (0 : Int32)), .val (.ref ra), .val (.int (1 : Int32)), .val (.int x3), .val (.ref rb), .val (.ref ra), .val (.int (Nat.toInt32 bs.length)), .val (.int x7), .val (.int ((bs.getD i 0).toInt32))] [(.int x3), (.ref rb)]))
            refine own_Go.st (fun _ kt => XS.iinc X8.here hx rfl (hb hby own_d_jdk_42_46_112) rfl (l' := #[.val (.int (0 : Int32)), .val (.ref ra), .val (.int (1 : Int32)), .val (.int (x3 + (1 : Int32))), .val (.ref rb), .val (.ref ra), .val (.int (Nat.toInt32 bs.length)), .val (.int x7), .val (.int ((bs.getD i 0).toInt32))]) rfl kt) ?_
            show own_Go p e below _ (T8.setTop (mkF m 115 #[.val (.int (0 : Int32)), .val (.ref ra), .val (.int (1 : Int32)), .val (.int (x3 + (1 : Int32))), .val (.ref rb), .val (.ref ra), .val (.int (Nat.toInt32 bs.length)), .val (.int x7), .val (.int ((bs.getD i 0).toInt32))] [(.int x3), (.ref rb)]))
            refine own_Go.st (fun _ kt => XS.iload X8.here hx rfl (hb hby own_d_jdk_42_46_115) rfl kt) ?_
            show own_Go p e below _ (T8.setTop (mkF m 117 #[.val (.int (0 : Int32)), .val (.ref ra), .val (.int (1 : Int32)), .val (.int (x3 + (1 : Int32))), .val (.ref rb), .val (.ref ra), .val (.int (Nat.toInt32 bs.length)), .val (.int x7), .val (.int ((bs.getD i 0).toInt32))] [(.int ((bs.getD i 0).toInt32)), (.int x3), (.ref rb)]))
            obtain ⟨T14, h14, X14, e14, W14, st14⟩ := own_bast X8 hx hZ e8 ab i3 (by omega) (own_nar8 _) (g := (mkF m 117 #[.val (.int (0 : Int32)), .val (.ref ra), .val (.int (1 : Int32)), .val (.int (x3 + (1 : Int32))), .val (.ref rb), .val (.ref ra), .val (.int (Nat.toInt32 bs.length)), .val (.int x7), .val (.int ((bs.getD i 0).toInt32))] [(.int ((bs.getD i 0).toInt32)), (.int x3), (.ref rb)])) rfl rfl (hb hby own_d_jdk_42_46_117)
            refine own_Go.st st14 ?_
            have N14 := Fr.snoc X14 N8 nb5
            have a14 := own_Ar.set ab W14
            have zz15 : n0 ≤ Array.size h14 := Nat.le_trans zz (Nat.le_of_eq (Wr.size W14).symm)
            have kk15 : Keep h0 h14 [] := kk.wr W14 (Or.inr bb5)
            show own_Go p e below _ (T14.setTop (mkF m 118 #[.val (.int (0 : Int32)), .val (.ref ra), .val (.int (1 : Int32)), .val (.int (x3 + (1 : Int32))), .val (.ref rb), .val (.ref ra), .val (.int (Nat.toInt32 bs.length)), .val (.int x7), .val (.int ((bs.getD i 0).toInt32))] []))
            have nb : own_Ar Z h14 rb .byte (2 * bs.length) (own_by ((own_enc (bs.take i)) ++ [bs.getD i 0])) := a14.congr fun j _ => own_by_snoc _ _ j
            refine own_Go.st (fun _ kt => XS.iinc X14.here hx rfl (hb hby own_d_jdk_42_46_118) rfl (l' := #[.val (.int (0 : Int32)), .val (.ref ra), .val (.int (1 : Int32)), .val (.int (x3 + (1 : Int32))), .val (.ref rb), .val (.ref ra), .val (.int (Nat.toInt32 bs.length)), .val (.int (x7 + (1 : Int32))), .val (.int ((bs.getD i 0).toInt32))]) rfl kt) ?_
            show own_Go p e below _ (T14.setTop (mkF m 121 #[.val (.int (0 : Int32)), .val (.ref ra), .val (.int (1 : Int32)), .val (.int (x3 + (1 : Int32))), .val (.ref rb), .val (.ref ra), .val (.int (Nat.toInt32 bs.length)), .val (.int (x7 + (1 : Int32))), .val (.int ((bs.getD i 0).toInt32))] []))
            refine own_Go.st (fun _ kt => XS.goto X14.here hx rfl (pc0 := 121) (pc' := 49) rfl (hb hby own_d_jdk_42_46_121) (by decide) (by decide) kt) ?_
            show own_Go p e below _ (T14.setTop (mkF m 49 #[.val (.int (0 : Int32)), .val (.ref ra), .val (.int (1 : Int32)), .val (.int (x3 + (1 : Int32))), .val (.ref rb), .val (.ref ra), .val (.int (Nat.toInt32 bs.length)), .val (.int (x7 + (1 : Int32))), .val (.int ((bs.getD i 0).toInt32))] []))
            have j4 : (x3 + (1 : Int32)).toInt = ((((own_enc (bs.take i)) ++ [bs.getD i 0]).length : Nat) : Int) := by rw [List.length_append]; exact own_inc i3 (by omega)
            have f16 := (ac.other W14 nerb)
            exact IH (td - 1) (by omega) _ _ _ X14 e14 N14 (i + 1) _ _ _ (Or.inr ⟨_, rfl⟩) (by omega) (by rw [own_pos1 hlt hc65]; exact j4) (own_inc i7 (by omega)) f16 (by rw [own_pos1 hlt hc65]; exact nb) zz15 kk15
        · refine own_Go.st (fun _ kt => XS.icmpYes X8.here hx rfl (pc0 := 53) (pc' := 124) rfl (hb hby own_d_jdk_42_46_53) rfl (flt hc53).2.1 (by decide) (by decide) kt) ?_
          show own_Go p e below _ (T8.setTop (mkF m 124 #[.val (.int (0 : Int32)), .val (.ref ra), .val (.int (1 : Int32)), .val (.int x3), .val (.ref rb), .val (.ref ra), .val (.int (Nat.toInt32 bs.length)), .val (.int x7), s8] []))
          refine own_Go.st (fun _ kt => XS.iloadN X8.here hx rfl (hb hby own_d_jdk_42_46_124) rfl kt) ?_
          show own_Go p e below _ (T8.setTop (mkF m 125 #[.val (.int (0 : Int32)), .val (.ref ra), .val (.int (1 : Int32)), .val (.int x3), .val (.ref rb), .val (.ref ra), .val (.int (Nat.toInt32 bs.length)), .val (.int x7), s8] [(.int x3)]))
          refine own_Go.st (fun _ kt => XS.aload X8.here hx rfl (hb hby own_d_jdk_42_46_125) rfl rfl kt) ?_
          show own_Go p e below _ (T8.setTop (mkF m 127 #[.val (.int (0 : Int32)), .val (.ref ra), .val (.int (1 : Int32)), .val (.int x3), .val (.ref rb), .val (.ref ra), .val (.int (Nat.toInt32 bs.length)), .val (.int x7), s8] [(.ref rb), (.int x3)]))
          have hge : i = bs.length := by have := mt hci.mpr hc53; omega
          rw [own_enc_full hge] at i3 ab
          have ebl := own_enc_len bs
          have hun2 : (Nat.toInt32 (2 * bs.length)).toInt = ((2 * bs.length : Nat) : Int) := len_toInt (by omega)
          refine own_Go.st (fun _ kt => own_alen X8 hx hZ e8 ab (z := (Nat.toInt32 (2 * bs.length))) hun2 (g := (mkF m 127 #[.val (.int (0 : Int32)), .val (.ref ra), .val (.int (1 : Int32)), .val (.int x3), .val (.ref rb), .val (.ref ra), .val (.int (Nat.toInt32 bs.length)), .val (.int x7), s8] [(.ref rb), (.int x3)])) rfl rfl (hb hby own_d_jdk_42_46_127) _ kt) ?_
          show own_Go p e below _ (T8.setTop (mkF m 128 #[.val (.int (0 : Int32)), .val (.ref ra), .val (.int (1 : Int32)), .val (.int x3), .val (.ref rb), .val (.ref ra), .val (.int (Nat.toInt32 bs.length)), .val (.int x7), s8] [(.int (Nat.toInt32 (2 * bs.length))), (.int x3)]))
          by_cases hc128 : x3 = (Nat.toInt32 (2 * bs.length))
          · refine own_Go.st (fun _ kt => XS.icmpNo X8.here hx rfl (hb hby own_d_jdk_42_46_128) rfl (teq hc128).2 kt) ?_
            show own_Go p e below _ (T8.setTop (mkF m 131 #[.val (.int (0 : Int32)), .val (.ref ra), .val (.int (1 : Int32)), .val (.int x3), .val (.ref rb), .val (.ref ra), .val (.int (Nat.toInt32 bs.length)), .val (.int x7), s8] []))
            refine own_Go.st (fun _ kt => XS.aload X8.here hx rfl (hb hby own_d_jdk_42_46_131) rfl rfl kt) ?_
            show own_Go p e below _ (T8.setTop (mkF m 133 #[.val (.int (0 : Int32)), .val (.ref ra), .val (.int (1 : Int32)), .val (.int x3), .val (.ref rb), .val (.ref ra), .val (.int (Nat.toInt32 bs.length)), .val (.int x7), s8] [(.ref rb)]))
            have eln : (own_enc bs).length = 2 * bs.length := by rw [hc128, hun2] at i3; omega
            have fin : own_Ar Z h8 rb .byte (own_enc bs).length (own_by (own_enc bs)) := by rw [eln]; exact ab
            rw [← e8] at fin kk
            exact own_retA X8 hx Bd.notSynchronized Bd.returns rfl rfl (hb hby own_d_jdk_42_46_133) (by decide) (by decide) ⟨rb, rfl, N8, fin, kk⟩
          · refine own_Go.st (fun _ kt => XS.icmpYes X8.here hx rfl (pc0 := 128) (pc' := 134) rfl (hb hby own_d_jdk_42_46_128) rfl (feq hc128).2 (by decide) (by decide) kt) ?_
            show own_Go p e below _ (T8.setTop (mkF m 134 #[.val (.int (0 : Int32)), .val (.ref ra), .val (.int (1 : Int32)), .val (.int x3), .val (.ref rb), .val (.ref ra), .val (.int (Nat.toInt32 bs.length)), .val (.int x7), s8] []))
            refine own_Go.st (fun _ kt => XS.aload X8.here hx rfl (hb hby own_d_jdk_42_46_134) rfl rfl kt) ?_
            show own_Go p e below _ (T8.setTop (mkF m 136 #[.val (.int (0 : Int32)), .val (.ref ra), .val (.int (1 : Int32)), .val (.int x3), .val (.ref rb), .val (.ref ra), .val (.int (Nat.toInt32 bs.length)), .val (.int x7), s8] [(.ref rb)]))
            refine own_Go.st (fun _ kt => XS.iloadN X8.here hx rfl (hb hby own_d_jdk_42_46_136) rfl kt) ?_
            show own_Go p e below _ (T8.setTop (mkF m 137 #[.val (.int (0 : Int32)), .val (.ref ra), .val (.int (1 : Int32)), .val (.int x3), .val (.ref rb), .val (.ref ra), .val (.int (Nat.toInt32 bs.length)), .val (.int x7), s8] [(.int x3), (.ref rb)]))
            obtain ⟨_, _, ⟨T17, L17, k17, n17⟩, -, X17, ⟨Lc17, hQ17, l17, y17, z17⟩, st17⟩ := Jvm.LawKit.callS X8 hx (y := (⟨"java/util/Arrays", "copyOf", "([BI)[B"⟩ : MethodName)) hown (mvT hZ (own_w hw 196 rfl)) (mvT hZ (own_w hw 197 rfl)) (mvT hZ (own_w hw 125 rfl)) (mvT hZ (own_w hw 198 rfl)) (by decide) (backOf (W := 0) (own_cof l Z a0 hw [] rb x3 (2 * bs.length) (own_enc bs) h8 n0 zz ab i3 (by
              rcases Nat.lt_or_ge (own_enc bs).length (2 * bs.length) with q | q
              · exact q
              · exact absurd (own_i32 (by rw [i3, hun2]; omega)) hc128) (by omega)) hZ (own_w hw 198 rfl) (own_w hw 125 rfl) (by decide) (by decide)) (g := (mkF m 137 #[.val (.int (0 : Int32)), .val (.ref ra), .val (.int (1 : Int32)), .val (.int x3), .val (.ref rb), .val (.ref ra), .val (.int (Nat.toInt32 bs.length)), .val (.int x7), s8] [(.int x3), (.ref rb)])) rfl (by rw [hml]; rfl) (argsL := [(.ref rb), (.int x3)]) (rest := []) (lenOf own_pd22 rfl) rfl (by show 2 * 0 + _ ≤ _; exact Nat.le_of_eq rfl) (hb hby own_d_jdk_42_46_137) (fun _ _ => ⟨rfl, e8, (by decide : 1 + 1 ≤ _), (by decide : 16 + 16 ≤ _)⟩)
            dsimp only [Pt.U, Pt.locs, Pt.cells, Pt.slots] at X17 l17 y17 z17 st17 hQ17
            subst l17 y17 z17
            obtain ⟨rn, rfl, N17q, an17, KF17⟩ := hQ17
            have N17 := Fr.app N8 N17q
            refine own_Go.st (fun _ kt => st17 _ kt) ?_
            have zz18 : n0 ≤ Array.size T17.heap := Nat.le_trans zz KF17.1
            have kk18 : Keep h0 T17.heap [] := kk.trans KF17 all0
            show own_Go p e below _ (T17.setTop (mkF m 140 #[.val (.int (0 : Int32)), .val (.ref ra), .val (.int (1 : Int32)), .val (.int x3), .val (.ref rb), .val (.ref ra), .val (.int (Nat.toInt32 bs.length)), .val (.int x7), s8] [(.ref rn)]))
            have kk2 := kk18
            exact own_retA X17 hx Bd.notSynchronized Bd.returns rfl rfl (hb hby own_d_jdk_42_46_140) (by decide) (by decide) ⟨rn, rfl, N17, an17, kk2⟩
    exact LO bs.length _ _ _ X5 rfl N5 0 _ _ _ (Or.inl rfl) (by omega) (by rw [List.take_zero]; first | done | rfl) (by decide) f7 ab5 zz6 kk6
theorem own_ef35 (m : MethodId) (x0 : Addr) (x1 : Int32) (x2 : Addr) : entryFrame m #[(.ref x0), (.int x1), (.ref x2)] 3 = mkF m 0 #[.val (.ref x0), .val (.int x1), .val (.ref x2)] [] := by first | (simp [entryFrame, mkF, argsToLocals, Value.category]; done) | rfl
theorem own_d_jdk_42_18_0 : decode jdk_42_method_18_code 0 = .ok (.aload_n 0, 1) := by decide +kernel
theorem own_d_jdk_42_18_1 : decode jdk_42_method_18_code 1 = .ok (.getstatic 86, 3) := by decide +kernel
theorem own_d_jdk_42_18_4 : decode jdk_42_method_18_code 4 = .ok (.if_acmp .ne 10, 3) := by decide +kernel
theorem own_d_jdk_42_18_7 : decode jdk_42_method_18_code 7 = .ok (.iload_n 1, 1) := by decide +kernel
theorem own_d_jdk_42_18_8 : decode jdk_42_method_18_code 8 = .ok (.aload_n 2, 1) := by decide +kernel
theorem own_d_jdk_42_18_9 : decode jdk_42_method_18_code 9 = .ok (.iconst 1, 1) := by decide +kernel
theorem own_d_jdk_42_18_10 : decode jdk_42_method_18_code 10 = .ok (.invokestatic 252, 3) := by decide +kernel
theorem own_pd23 : parseMethodDescriptor "(B[BZ)[B" = some ⟨[.byte, (.array .byte), .boolean], some (.array .byte)⟩ := by decide +kernel
theorem own_d_jdk_42_18_13 : decode jdk_42_method_18_code 13 = .ok (.areturn, 1) := by decide +kernel
def own_Q_own_encd (Z : State) (ru ra : Addr) (bs : List Int8) (h0 : Heap) (n0 : Nat) (v : Option Value) (h : Heap) (L : List Loc) : Prop := ∃ rn, v = some (.ref rn) ∧ Fr n0 L ∧ own_Ar Z h rn .byte (own_enc bs).length (own_by (own_enc bs)) ∧ Keep h0 h []
set_option maxRecDepth 65536 in
set_option maxHeartbeats 40000000 in
theorem own_encd (l : Launch) (Z : State) (a0 : Array Value) (hw : ∀ d ∈ tables_1, d.before a0 Z = true) (ws : List Jvm.Cond) (ru ra : Addr) (bs : List Int8) (h0 : Heap) (n0 : Nat) (Z0 : n0 ≤ h0.size) (aa : own_Ar Z h0 ra .byte bs.length (own_by bs)) (eB : Exa Z h0 ra "[B") (hl : bs.length ≤ 8) (sI : Sta Z h0 "sun/nio/cs/UTF_8" "INSTANCE" "Lsun/nio/cs/UTF_8;" (.ref ru)) :
    MetFree l (⟨"java/lang/String", "encode", "(Ljava/nio/charset/Charset;B[B)[B"⟩ : MethodName) (head1 (Jvm.Cond.code (⟨"java/lang/String", "encode", "(Ljava/nio/charset/Charset;B[B)[B"⟩ : MethodName) jdk_42_method_18_code 3 (some (.array .byte)) :: ws) ({ frames := 3, cells := 2, slots := 32, locals := 52 } : Room)) (fun av_ U => av_ = #[(.ref ru), (.int (0 : Int32)), (.ref ra)] ∧ Z.Warmed39 U.vm ∧ U.heap = h0) (fun _ _ _ _ _ => True) (fun _ U o U' => ∃ v L, o = .returned v ∧ own_Q_own_encd Z ru ra bs h0 n0 v U'.heap L ∧ FrameEnd U o U' L ({ frames := 3, cells := 2, slots := 32, locals := 52 } : Room).cells ({ frames := 3, cells := 2, slots := 32, locals := 52 } : Room).slots) := by
  refine MetFree.of_bodySF (plainFor_of_name own_pn1) hisR ?_
  intro p e s m args below meth c s₁ Bd hml0 hP hK
  obtain ⟨rfl, hZ, hh⟩ := hP
  have hx := Bd.exec
  have hby := Bd.bytes
  have hml : c.maxLocals = 3 := hml0
  have hown : s.vm.findClass "java/lang/String" = some m.cls := findClass_of_methodNamed Bd.named
  have hnm := (name_of_methodNamed Bd.named Bd.method).1
  have X0 : Stand p l e ({ frames := 3, cells := 2, slots := 32, locals := 52 } : Room) s m #[(.ref ru), (.int (0 : Int32)), (.ref ra)] below meth c s₁ [] 0 0 := Stand.of_body Bd
  have e0 : s₁.heap = h0 := by rw [← hh, Bd.state]; rfl
  have N0 := Fr.nil n0
  suffices hgo : own_Go p e below (fun o U' => ∃ v L, o = .returned v ∧ own_Q_own_encd Z ru ra bs h0 n0 v U'.heap L ∧ FrameEnd s o U' L ({ frames := 3, cells := 2, slots := 32, locals := 52 } : Room).cells ({ frames := 3, cells := 2, slots := 32, locals := 52 } : Room).slots) (s₁.setTop (mkF m 0 #[.val (.ref ru), .val (.int (0 : Int32)), .val (.ref ra)] [])) by
    obtain ⟨s₂, o, h1, h2, h3, h4⟩ := hgo
    exact ⟨s₂, o, castTop (own_ef35 m ru (0 : Int32) ra) h1, h2, h3, h4⟩
  have kk0 : Keep h0 h0 [] := Keep.refl _ _
  show own_Go p e below _ (s₁.setTop (mkF m 0 #[.val (.ref ru), .val (.int (0 : Int32)), .val (.ref ra)] []))
  refine own_Go.st (fun _ kt => XS.aloadN X0.here hx rfl (hb hby own_d_jdk_42_18_0) rfl rfl kt) ?_
  show own_Go p e below _ (s₁.setTop (mkF m 1 #[.val (.ref ru), .val (.int (0 : Int32)), .val (.ref ra)] [(.ref ru)]))
  obtain ⟨T1, X1, e1, st1⟩ := getS2 X0 hx hZ hown (host := "") (Or.inl (own_w hw 148 rfl)) Via.refl e0 sI (g := (mkF m 1 #[.val (.ref ru), .val (.int (0 : Int32)), .val (.ref ra)] [(.ref ru)])) rfl (hb hby own_d_jdk_42_18_1)
  refine own_Go.st st1 ?_
  show own_Go p e below _ (T1.setTop (mkF m 4 #[.val (.ref ru), .val (.int (0 : Int32)), .val (.ref ra)] [(.ref ru), (.ref ru)]))
  refine own_Go.st (fun _ kt => Jvm.RoadKit.acmp (g := (mkF m 4 #[.val (.ref ru), .val (.int (0 : Int32)), .val (.ref ra)] [(.ref ru), (.ref ru)])) X1 hx rfl rfl rfl (pc0 := 4) (pc' := 7) (same := true) rfl (hb hby own_d_jdk_42_18_4) rfl (decide_eq_true rfl) (by decide) (by decide) kt) ?_
  show own_Go p e below _ (T1.setTop (mkF m 7 #[.val (.ref ru), .val (.int (0 : Int32)), .val (.ref ra)] []))
  refine own_Go.st (fun _ kt => XS.iloadN X1.here hx rfl (hb hby own_d_jdk_42_18_7) rfl kt) ?_
  show own_Go p e below _ (T1.setTop (mkF m 8 #[.val (.ref ru), .val (.int (0 : Int32)), .val (.ref ra)] [(.int (0 : Int32))]))
  refine own_Go.st (fun _ kt => XS.aloadN X1.here hx rfl (hb hby own_d_jdk_42_18_8) rfl rfl kt) ?_
  show own_Go p e below _ (T1.setTop (mkF m 9 #[.val (.ref ru), .val (.int (0 : Int32)), .val (.ref ra)] [(.ref ra), (.int (0 : Int32))]))
  refine own_Go.st (fun _ kt => XS.iconst X1.here hx rfl (hb hby own_d_jdk_42_18_9) kt) ?_
  show own_Go p e below _ (T1.setTop (mkF m 10 #[.val (.ref ru), .val (.int (0 : Int32)), .val (.ref ra)] [(.int (1 : Int32)), (.ref ra), (.int (0 : Int32))]))
  obtain ⟨_, _, ⟨T2, L2, k2, n2⟩, -, X2, ⟨Lc2, hQ2, l2, y2, z2⟩, st2⟩ := Jvm.LawKit.callS X1 hx (y := (⟨"java/lang/String", "encodeUTF8", "(B[BZ)[B"⟩ : MethodName)) hown (mvT hZ (own_w hw 150 rfl)) (mvT hZ (own_w hw 151 rfl)) (mvT hZ (own_w hw 3 rfl)) (mvT hZ (own_w hw 152 rfl)) (by decide) (backOf (W := 0) (own_encu l Z a0 hw [] ra bs h0 n0 Z0 aa eB hl) hZ (own_w hw 152 rfl) (own_w hw 3 rfl) (by decide) (by decide)) (g := (mkF m 10 #[.val (.ref ru), .val (.int (0 : Int32)), .val (.ref ra)] [(.int (1 : Int32)), (.ref ra), (.int (0 : Int32))])) rfl (by rw [hml]; rfl) (argsL := [(.int (0 : Int32)), (.ref ra), (.int (1 : Int32))]) (rest := []) (lenOf own_pd23 rfl) rfl (by show 2 * 0 + _ ≤ _; exact Nat.le_of_eq rfl) (hb hby own_d_jdk_42_18_10) (fun _ _ => ⟨rfl, e1, (by decide : 0 + 2 ≤ _), (by decide : 0 + 32 ≤ _)⟩)
  dsimp only [Pt.U, Pt.locs, Pt.cells, Pt.slots] at X2 l2 y2 z2 st2 hQ2
  subst l2 y2 z2
  obtain ⟨rn, rfl, N2q, an2, KF2⟩ := hQ2
  have N2 := Fr.app N0 N2q
  refine own_Go.st (fun _ kt => st2 _ kt) ?_
  have zz3 : n0 ≤ Array.size T2.heap := Nat.le_trans Z0 KF2.1
  have kk3 : Keep h0 T2.heap [] := kk0.trans KF2 all0
  show own_Go p e below _ (T2.setTop (mkF m 13 #[.val (.ref ru), .val (.int (0 : Int32)), .val (.ref ra)] [(.ref rn)]))
  have kk := kk3
  exact own_retA X2 hx Bd.notSynchronized Bd.returns rfl rfl (hb hby own_d_jdk_42_18_13) (by decide) (by decide) ⟨rn, rfl, N2, an2, kk⟩
theorem own_ef36 (m : MethodId) (x0 : Addr) (x1 : Addr) : entryFrame m #[(.ref x0), (.ref x1)] 2 = mkF m 0 #[.val (.ref x0), .val (.ref x1)] [] := by first | (simp [entryFrame, mkF, argsToLocals, Value.category]; done) | rfl
theorem own_d_jdk_42_64_0 : decode jdk_42_method_64_code 0 = .ok (.aload_n 1, 1) := by decide +kernel
theorem own_d_jdk_42_64_1 : decode jdk_42_method_64_code 1 = .ok (.ifnonnull 11, 3) := by decide +kernel
theorem own_d_jdk_42_64_12 : decode jdk_42_method_64_code 12 = .ok (.aload_n 1, 1) := by decide +kernel
theorem own_d_jdk_42_64_13 : decode jdk_42_method_64_code 13 = .ok (.aload_n 0, 1) := by decide +kernel
theorem own_d_jdk_42_64_14 : decode jdk_42_method_64_code 14 = .ok (.invokevirtual 335, 3) := by decide +kernel
theorem own_d_jdk_42_64_17 : decode jdk_42_method_64_code 17 = .ok (.aload_n 0, 1) := by decide +kernel
theorem own_d_jdk_42_64_18 : decode jdk_42_method_64_code 18 = .ok (.getfield 9, 3) := by decide +kernel
theorem own_pd24 : parseMethodDescriptor "(Ljava/nio/charset/Charset;B[B)[B" = some ⟨[(.object "java/nio/charset/Charset"), .byte, (.array .byte)], some (.array .byte)⟩ := by decide +kernel
theorem own_d_jdk_42_64_21 : decode jdk_42_method_64_code 21 = .ok (.invokestatic 535, 3) := by decide +kernel
theorem own_d_jdk_42_64_24 : decode jdk_42_method_64_code 24 = .ok (.areturn, 1) := by decide +kernel
def own_Q_own_gbc (Z : State) (sx bx ru : Addr) (bs : List Int8) (zc : Int32) (h0 : Heap) (n0 : Nat) (v : Option Value) (h : Heap) (L : List Loc) : Prop := ∃ rn, v = some (.ref rn) ∧ Fr n0 L ∧ own_Ar Z h rn .byte (own_enc bs).length (own_by (own_enc bs)) ∧ Keep h0 h []
set_option maxRecDepth 65536 in
set_option maxHeartbeats 40000000 in
theorem own_gbc (l : Launch) (Z : State) (a0 : Array Value) (hw : ∀ d ∈ tables_1, d.before a0 Z = true) (ws : List Jvm.Cond) (sx bx ru : Addr) (bs : List Int8) (zc : Int32) (h0 : Heap) (n0 : Nat) (Z0 : n0 ≤ h0.size) (fs : own_Sl Z h0 sx bx bs) (eB : Exa Z h0 bx "[B") (hl : bs.length ≤ 8) (sI : Sta Z h0 "sun/nio/cs/UTF_8" "INSTANCE" "Lsun/nio/cs/UTF_8;" (.ref ru)) (cs : Sta Z h0 "java/lang/String" "COMPACT_STRINGS" "Z" (.int zc)) (hzc : ¬ zc = 0) :
    MetFree l (⟨"java/lang/String", "getBytes", "(Ljava/nio/charset/Charset;)[B"⟩ : MethodName) (head1 (Jvm.Cond.code (⟨"java/lang/String", "getBytes", "(Ljava/nio/charset/Charset;)[B"⟩ : MethodName) jdk_42_method_64_code 2 (some (.array .byte)) :: ws) ({ frames := 4, cells := 2, slots := 32, locals := 66 } : Room)) (fun av_ U => av_ = #[(.ref sx), (.ref ru)] ∧ Z.Warmed39 U.vm ∧ U.heap = h0) (fun _ _ _ _ _ => True) (fun _ U o U' => ∃ v L, o = .returned v ∧ own_Q_own_gbc Z sx bx ru bs zc h0 n0 v U'.heap L ∧ FrameEnd U o U' L ({ frames := 4, cells := 2, slots := 32, locals := 66 } : Room).cells ({ frames := 4, cells := 2, slots := 32, locals := 66 } : Room).slots) := by
  refine MetFree.of_bodySF (plainFor_of_name own_pn1) hisR ?_
  intro p e s m args below meth c s₁ Bd hml0 hP hK
  obtain ⟨rfl, hZ, hh⟩ := hP
  have hx := Bd.exec
  have hby := Bd.bytes
  have hml : c.maxLocals = 2 := hml0
  have hown : s.vm.findClass "java/lang/String" = some m.cls := findClass_of_methodNamed Bd.named
  have hnm := (name_of_methodNamed Bd.named Bd.method).1
  have X0 : Stand p l e ({ frames := 4, cells := 2, slots := 32, locals := 66 } : Room) s m #[(.ref sx), (.ref ru)] below meth c s₁ [] 0 0 := Stand.of_body Bd
  have e0 : s₁.heap = h0 := by rw [← hh, Bd.state]; rfl
  have N0 := Fr.nil n0
  suffices hgo : own_Go p e below (fun o U' => ∃ v L, o = .returned v ∧ own_Q_own_gbc Z sx bx ru bs zc h0 n0 v U'.heap L ∧ FrameEnd s o U' L ({ frames := 4, cells := 2, slots := 32, locals := 66 } : Room).cells ({ frames := 4, cells := 2, slots := 32, locals := 66 } : Room).slots) (s₁.setTop (mkF m 0 #[.val (.ref sx), .val (.ref ru)] [])) by
    obtain ⟨s₂, o, h1, h2, h3, h4⟩ := hgo
    exact ⟨s₂, o, castTop (own_ef36 m sx ru) h1, h2, h3, h4⟩
  have kk0 : Keep h0 h0 [] := Keep.refl _ _
  show own_Go p e below _ (s₁.setTop (mkF m 0 #[.val (.ref sx), .val (.ref ru)] []))
  refine own_Go.st (fun _ kt => XS.aloadN X0.here hx rfl (hb hby own_d_jdk_42_64_0) rfl rfl kt) ?_
  show own_Go p e below _ (s₁.setTop (mkF m 1 #[.val (.ref sx), .val (.ref ru)] [(.ref ru)]))
  refine own_Go.st (fun _ kt => XS.ifnonnullYes X0.here hx rfl (pc0 := 1) (pc' := 12) rfl (hb hby own_d_jdk_42_64_1) rfl (by decide) (by decide) kt) ?_
  show own_Go p e below _ (s₁.setTop (mkF m 12 #[.val (.ref sx), .val (.ref ru)] []))
  refine own_Go.st (fun _ kt => XS.aloadN X0.here hx rfl (hb hby own_d_jdk_42_64_12) rfl rfl kt) ?_
  show own_Go p e below _ (s₁.setTop (mkF m 13 #[.val (.ref sx), .val (.ref ru)] [(.ref ru)]))
  refine own_Go.st (fun _ kt => XS.aloadN X0.here hx rfl (hb hby own_d_jdk_42_64_13) rfl rfl kt) ?_
  show own_Go p e below _ (s₁.setTop (mkF m 14 #[.val (.ref sx), .val (.ref ru)] [(.ref sx), (.ref ru)]))
  obtain ⟨cq1, kq1, q1a, q1b, q1c⟩ := isOf hZ e0 fs.1
  obtain ⟨_, _, ⟨T1, L1, k1, n1⟩, -, X1, ⟨Lc1, hQ1, l1, y1, z1⟩, st1⟩ := X0.virtualBack hx (y := (⟨"java/lang/String", "coder", "()B"⟩ : MethodName)) (z := (⟨"java/lang/String", "coder", "()B"⟩ : MethodName)) hown (mvT hZ (own_w hw 59 rfl)) (mvT hZ (own_w hw 60 rfl)) (notFace_of_selects (args := #[]) (mvT hZ (own_w hw 62 rfl))) (mvT hZ (own_w hw 62 rfl)) (mvT hZ (own_w hw 61 rfl)) (by decide) (backOf (W := 1) (own_coder l Z a0 hw [] sx zc h0 n0 Z0 fs.2.1 cs hzc) hZ (own_w hw 63 rfl) (own_w hw 3 rfl) (by decide) (by decide)) q1a q1c (g := (mkF m 14 #[.val (.ref sx), .val (.ref ru)] [(.ref sx), (.ref ru)])) rfl (by rw [hml]; rfl) (Steps.refl _) (argsL := []) (rest := [(.ref ru)]) (lenOf own_pd4 rfl) rfl (by show 2 * 0 + _ ≤ _; exact Nat.le_of_eq rfl) (hb hby own_d_jdk_42_64_14) (fun _ _ => ⟨rfl, e0, (by decide : 0 + 0 ≤ _), (by decide : 0 + 0 ≤ _)⟩)
  dsimp only [Pt.U, Pt.locs, Pt.cells, Pt.slots] at X1 l1 y1 z1 st1 hQ1
  subst l1 y1 z1
  obtain ⟨rfl, N1q, hh1⟩ := hQ1
  have N1 := Fr.app N0 N1q
  refine own_Go.st (fun _ kt => st1.trans kt) ?_
  show own_Go p e below _ (T1.setTop (mkF m 17 #[.val (.ref sx), .val (.ref ru)] [(.int (0 : Int32)), (.ref ru)]))
  refine own_Go.st (fun _ kt => XS.aloadN X1.here hx rfl (hb hby own_d_jdk_42_64_17) rfl rfl kt) ?_
  show own_Go p e below _ (T1.setTop (mkF m 18 #[.val (.ref sx), .val (.ref ru)] [(.ref sx), (.int (0 : Int32)), (.ref ru)]))
  obtain ⟨T2, X2, e2, st2⟩ := getF X1 hx hZ hown (host := "") (Or.inl (own_w hw 20 rfl)) Via.refl hh1 fs.2.2.1 (g := (mkF m 18 #[.val (.ref sx), .val (.ref ru)] [(.ref sx), (.int (0 : Int32)), (.ref ru)])) rfl rfl (hb hby own_d_jdk_42_64_18)
  refine own_Go.st st2 ?_
  show own_Go p e below _ (T2.setTop (mkF m 21 #[.val (.ref sx), .val (.ref ru)] [(.ref bx), (.int (0 : Int32)), (.ref ru)]))
  obtain ⟨_, _, ⟨T3, L3, k3, n3⟩, -, X3, ⟨Lc3, hQ3, l3, y3, z3⟩, st3⟩ := Jvm.LawKit.callS X2 hx (y := (⟨"java/lang/String", "encode", "(Ljava/nio/charset/Charset;B[B)[B"⟩ : MethodName)) hown (mvT hZ (own_w hw 145 rfl)) (mvT hZ (own_w hw 146 rfl)) (mvT hZ (own_w hw 3 rfl)) (mvT hZ (own_w hw 147 rfl)) (by decide) (backOf (W := 0) (own_encd l Z a0 hw [] ru bx bs h0 n0 Z0 fs.2.2.2 eB hl sI) hZ (own_w hw 147 rfl) (own_w hw 3 rfl) (by decide) (by decide)) (g := (mkF m 21 #[.val (.ref sx), .val (.ref ru)] [(.ref bx), (.int (0 : Int32)), (.ref ru)])) rfl (by rw [hml]; rfl) (argsL := [(.ref ru), (.int (0 : Int32)), (.ref bx)]) (rest := []) (lenOf own_pd24 rfl) rfl (by show 2 * 0 + _ ≤ _; exact Nat.le_of_eq rfl) (hb hby own_d_jdk_42_64_21) (fun _ _ => ⟨rfl, e2, (by decide : 0 + 2 ≤ _), (by decide : 0 + 32 ≤ _)⟩)
  dsimp only [Pt.U, Pt.locs, Pt.cells, Pt.slots] at X3 l3 y3 z3 st3 hQ3
  subst l3 y3 z3
  obtain ⟨rn, rfl, N3q, an3, KF3⟩ := hQ3
  have N3 := Fr.app N1 N3q
  refine own_Go.st (fun _ kt => st3 _ kt) ?_
  have zz4 : n0 ≤ Array.size T3.heap := Nat.le_trans Z0 KF3.1
  have kk4 : Keep h0 T3.heap [] := kk0.trans KF3 all0
  show own_Go p e below _ (T3.setTop (mkF m 24 #[.val (.ref sx), .val (.ref ru)] [(.ref rn)]))
  have kk := kk4
  exact own_retA X3 hx Bd.notSynchronized Bd.returns rfl rfl (hb hby own_d_jdk_42_64_24) (by decide) (by decide) ⟨rn, rfl, N3, an3, kk⟩
theorem own_pn6 : plainName "com/example/marshal/marshal/pipelines/LogLines" = true := by first | (simp [plainName, overriddenIn]; done) | decide +kernel
theorem own_ef37 (m : MethodId) (x0 : Addr) (x1 : Int32) : entryFrame m #[(.ref x0), (.int x1)] 3 = mkF m 0 #[.val (.ref x0), .val (.int x1), .unset] [] := by first | (simp [entryFrame, mkF, argsToLocals, Value.category]; done) | rfl
theorem own_d_prog_32_3_0 : decode prog_32_method_3_code 0 = .ok (.new 7, 3) := by decide +kernel
theorem own_d_prog_32_3_3 : decode prog_32_method_3_code 3 = .ok (.dup, 1) := by decide +kernel
theorem own_pd25 : parseMethodDescriptor "()V" = some ⟨[], none⟩ := by decide +kernel
theorem own_d_prog_32_3_4 : decode prog_32_method_3_code 4 = .ok (.invokespecial 9, 3) := by decide +kernel
theorem own_d_prog_32_3_7 : decode prog_32_method_3_code 7 = .ok (.aload_n 0, 1) := by decide +kernel
theorem own_d_prog_32_3_8 : decode prog_32_method_3_code 8 = .ok (.invokevirtual 12, 3) := by decide +kernel
theorem own_pd26 : parseMethodDescriptor "(Ljava/lang/String;)Ljava/lang/StringBuilder;" = some ⟨[(.object "java/lang/String")], some (.object "java/lang/StringBuilder")⟩ := by decide +kernel
theorem own_d_prog_32_3_11 : decode prog_32_method_3_code 11 = .ok (.ldc 20, 2) := by decide +kernel
theorem own_d_prog_32_3_13 : decode prog_32_method_3_code 13 = .ok (.invokevirtual 12, 3) := by decide +kernel
theorem own_pd27 : parseMethodDescriptor "()Ljava/lang/String;" = some ⟨[], some (.object "java/lang/String")⟩ := by decide +kernel
theorem own_d_prog_32_3_16 : decode prog_32_method_3_code 16 = .ok (.invokevirtual 16, 3) := by decide +kernel
theorem own_d_prog_32_3_19 : decode prog_32_method_3_code 19 = .ok (.astore_n 2, 1) := by decide +kernel
theorem own_d_prog_32_3_20 : decode prog_32_method_3_code 20 = .ok (.iload_n 1, 1) := by decide +kernel
theorem own_d_prog_32_3_21 : decode prog_32_method_3_code 21 = .ok (.ifCond .eq 7, 3) := by decide +kernel
theorem own_d_prog_32_3_24 : decode prog_32_method_3_code 24 = .ok (.aload_n 2, 1) := by decide +kernel
theorem own_d_prog_32_3_25 : decode prog_32_method_3_code 25 = .ok (.goto 22, 3) := by decide +kernel
theorem own_d_prog_32_3_47 : decode prog_32_method_3_code 47 = .ok (.getstatic 22, 3) := by decide +kernel
theorem own_pd28 : parseMethodDescriptor "(Ljava/nio/charset/Charset;)[B" = some ⟨[(.object "java/nio/charset/Charset")], some (.array .byte)⟩ := by decide +kernel
theorem own_d_prog_32_3_50 : decode prog_32_method_3_code 50 = .ok (.invokevirtual 28, 3) := by decide +kernel
theorem own_d_prog_32_3_53 : decode prog_32_method_3_code 53 = .ok (.areturn, 1) := by decide +kernel
theorem own_d_prog_32_3_28 : decode prog_32_method_3_code 28 = .ok (.new 7, 3) := by decide +kernel
theorem own_d_prog_32_3_31 : decode prog_32_method_3_code 31 = .ok (.dup, 1) := by decide +kernel
theorem own_d_prog_32_3_32 : decode prog_32_method_3_code 32 = .ok (.invokespecial 9, 3) := by decide +kernel
theorem own_d_prog_32_3_35 : decode prog_32_method_3_code 35 = .ok (.ldc 20, 2) := by decide +kernel
theorem own_d_prog_32_3_37 : decode prog_32_method_3_code 37 = .ok (.invokevirtual 12, 3) := by decide +kernel
theorem own_d_prog_32_3_40 : decode prog_32_method_3_code 40 = .ok (.aload_n 2, 1) := by decide +kernel
theorem own_d_prog_32_3_41 : decode prog_32_method_3_code 41 = .ok (.invokevirtual 12, 3) := by decide +kernel
theorem own_d_prog_32_3_44 : decode prog_32_method_3_code 44 = .ok (.invokevirtual 16, 3) := by decide +kernel
def own_Q_own_line (Z : State) (sx bx : Addr) (xs : Int32) (pre bs : List Int8) (ru : Addr) (zc : Int32) (Ts : List String) (h0 : Heap) (n0 : Nat) (v : Option Value) (h : Heap) (L : List Loc) : Prop := ∃ rn, v = some (.ref rn) ∧ Fr n0 L ∧ own_Ar Z h rn .byte (own_enc (pre ++ bs ++ [10])).length (own_by (own_enc (pre ++ bs ++ [10]))) ∧ Keep h0 h []
set_option maxRecDepth 65536 in
set_option maxHeartbeats 40000000 in
theorem own_line (l : Launch) (Z : State) (a0 : Array Value) (hw : ∀ d ∈ tables_1, d.before a0 Z = true) (ws : List Jvm.Cond) (sx bx : Addr) (xs : Int32) (pre bs : List Int8) (ru : Addr) (zc : Int32) (Ts : List String) (h0 : Heap) (n0 : Nat) (Z0 : n0 ≤ h0.size) (fs : own_Sl Z h0 sx bx bs) (hl : bs.length ≤ 3) (hcase : (xs = 1 ∧ pre = []) ∨ (xs = 0 ∧ pre = [10])) (cs : Sta Z h0 "java/lang/String" "COMPACT_STRINGS" "Z" (.int zc)) (hzc : ¬ zc = 0) (sU : Sta Z h0 "java/nio/charset/StandardCharsets" "UTF_8" "Ljava/nio/charset/Charset;" (.ref ru)) (sI : Sta Z h0 "sun/nio/cs/UTF_8" "INSTANCE" "Lsun/nio/cs/UTF_8;" (.ref ru)) (hkp : ∀ (b : Addr) (cl : Cell), Z.heap[b]? = some cl → h0[b]? = some cl) (held : Jvm.Lit.constHeld Z "com/example/marshal/marshal/pipelines/LogLines" 20) (hcw : Jvm.Lit.compactW.before a0 Z = true) (hnt : "\n" ∉ Ts) (hn0 : n0 = Array.size h0) :
    MetFree l (⟨"com/example/marshal/marshal/pipelines/LogLines", "line", "(Ljava/lang/String;Z)[B"⟩ : MethodName) (head1 (Jvm.Cond.code (⟨"com/example/marshal/marshal/pipelines/LogLines", "line", "(Ljava/lang/String;Z)[B"⟩ : MethodName) prog_32_method_3_code 3 (some (.array .byte)) :: ws) ({ frames := 6, cells := 12, slots := 120, locals := 91 } : Room)) (fun av_ U => av_ = #[(.ref sx), (.int xs)] ∧ Z.Warmed39 U.vm ∧ U.heap = h0 ∧ IB Z U.vm Ts) (fun _ _ _ _ _ => True) (fun _ U o U' => ∃ v L, o = .returned v ∧ own_Q_own_line Z sx bx xs pre bs ru zc Ts h0 n0 v U'.heap L ∧ IB Z U'.vm ("\n" :: Ts) ∧ ReturnedEndW U o U' L ({ frames := 6, cells := 12, slots := 120, locals := 91 } : Room).cells ({ frames := 6, cells := 12, slots := 120, locals := 91 } : Room).slots) := by
  refine MetFree.of_bodySF (plainFor_of_name own_pn6) hisR ?_
  intro p e s m args below meth c s₁ Bd hml0 hP hK
  obtain ⟨rfl, hZ, hh, hIB⟩ := hP
  have hx := Bd.exec
  have hby := Bd.bytes
  have hml : c.maxLocals = 3 := hml0
  have hown : s.vm.findClass "com/example/marshal/marshal/pipelines/LogLines" = some m.cls := findClass_of_methodNamed Bd.named
  have hnm := (name_of_methodNamed Bd.named Bd.method).1
  have X0 : Stand p l e ({ frames := 6, cells := 12, slots := 120, locals := 91 } : Room) (s.setVm s.vm) m #[(.ref sx), (.int xs)] below meth c s₁ [] 0 0 := Stand.of_body Bd
  have e0 : s₁.heap = h0 := by rw [← hh, Bd.state]; rfl
  have N0 := Fr.nil n0
  suffices hgo : own_Go p e below (fun o U' => ∃ v L, o = .returned v ∧ own_Q_own_line Z sx bx xs pre bs ru zc Ts h0 n0 v U'.heap L ∧ IB Z U'.vm ("\n" :: Ts) ∧ ReturnedEndW s o U' L ({ frames := 6, cells := 12, slots := 120, locals := 91 } : Room).cells ({ frames := 6, cells := 12, slots := 120, locals := 91 } : Room).slots) (s₁.setTop (mkF m 0 #[.val (.ref sx), .val (.int xs), .unset] [])) by
    obtain ⟨s₂, o, h1, h2, h3, h4⟩ := hgo
    exact ⟨s₂, o, castTop (own_ef37 m sx xs) h1, h2, h3, h4⟩
  have hS0 : s.Since s.vm (Array.size h0) := State.WarmedH.since (State.WarmedH.refl _) _
  have kk0 : Keep h0 h0 [] := Keep.refl _ _
  show own_Go p e below _ (s₁.setTop (mkF m 0 #[.val (.ref sx), .val (.int xs), .unset] []))
  obtain ⟨T1, h1, X1, e1, E1, A1, D1, U1, st1⟩ := newO X0 hx hZ hown (own_w hw 26 rfl) (own_w hw 27 rfl) (own_w hw 28 rfl) e0 (g := (mkF m 0 #[.val (.ref sx), .val (.int xs), .unset] [])) rfl (hb hby own_d_prog_32_3_0) (by decide) (by decide)
  obtain ⟨o1, g1⟩ : ∃ z, z = Array.size h0 := ⟨_, rfl⟩
  rw [← g1] at A1 D1 U1 st1
  refine own_Go.st st1 ?_
  have ne_sx_o1 : sx ≠ o1 := Nat.ne_of_lt (Nat.lt_of_lt_of_le (fs.1).lt (Nat.le_of_eq g1.symm))
  have ne_bx_o1 : bx ≠ o1 := Nat.ne_of_lt (Nat.lt_of_lt_of_le (fs.2.2.2).lt (Nat.le_of_eq g1.symm))
  have n0_o1 : n0 ≤ o1 := Nat.le_trans Z0 (Nat.le_of_eq g1.symm)
  have b_o1 : Array.size h0 ≤ o1 := Nat.le_trans kk0.1 (Nat.le_of_eq g1.symm)
  have zz2 : n0 ≤ Array.size h1 := Nat.le_trans Z0 E1.1
  have kk2 : Keep h0 h1 [] := kk0.ext E1
  have hk2 : Array.size h0 ≤ Array.size h1 := Nat.le_trans (Nat.le_refl _) E1.1
  have D1_value : Fld Z h1 o1 "java/lang/AbstractStringBuilder" "value" "[B" .null := D1 (Or.inl (own_w hw 41 rfl)) (ty := (.array .byte)) (by decide)
  have D1_coder : Fld Z h1 o1 "java/lang/AbstractStringBuilder" "coder" "B" (.int 0) := D1 (Or.inl (own_w hw 43 rfl)) (ty := .byte) (by decide)
  have D1_count : Fld Z h1 o1 "java/lang/AbstractStringBuilder" "count" "I" (.int 0) := D1 (Or.inl (own_w hw 66 rfl)) (ty := .int) (by decide)
  show own_Go p e below _ (T1.setTop (mkF m 3 #[.val (.ref sx), .val (.int xs), .unset] [(.ref o1)]))
  refine own_Go.st (fun _ kt => XS.dup X1.here hx rfl (hb hby own_d_prog_32_3_3) rfl rfl kt) ?_
  show own_Go p e below _ (T1.setTop (mkF m 4 #[.val (.ref sx), .val (.int xs), .unset] [(.ref o1), (.ref o1)]))
  have f3 := (fs.1.ext E1)
  have f4 := (fs.2.2.2.ext E1)
  have lt_sx_r1 := (f3).lt
  have lt_bx_r1 := (f4).lt
  have f5 := (cs.ext E1)
  obtain ⟨_, _, ⟨T6, L6, k6, n6⟩, -, X6, ⟨Lc6, hQ6, l6, y6, z6⟩, st6⟩ := X1.specialBack hx (y := (⟨"java/lang/StringBuilder", "<init>", "()V"⟩ : MethodName)) rfl hown (mvT hZ (own_w hw 29 rfl)) (mvT hZ (own_w hw 30 rfl)) (mvT hZ (own_w hw 31 rfl)) (by decide) (backOf (W := 1) (own_binit l Z a0 hw [] o1 zc h1 n0 zz2 A1 D1_value D1_coder D1_count n0_o1 f5 hzc) hZ (own_w hw 31 rfl) (own_w hw 28 rfl) (by decide) (by decide)) (g := (mkF m 4 #[.val (.ref sx), .val (.int xs), .unset] [(.ref o1), (.ref o1)])) rfl (by rw [hml]; rfl) (Steps.refl _) (a := o1) (argsL := []) (rest := [(.ref o1)]) (lenOf own_pd25 rfl) rfl (by show 2 * 0 + _ ≤ _; exact Nat.le_of_eq rfl) (hb hby own_d_prog_32_3_4) (fun _ _ => ⟨rfl, e1, (by decide : 1 + 1 ≤ _), (by decide : 4 + 16 ≤ _)⟩)
  dsimp only [Pt.U, Pt.locs, Pt.cells, Pt.slots] at X6 l6 y6 z6 st6 hQ6
  subst l6 y6 z6
  obtain ⟨r1, rfl, N6q, sb6, bb6, KF6⟩ := hQ6
  have N6 := Fr.app N0 N6q
  refine own_Go.st (fun _ kt => st6.trans kt) ?_
  have zz7 : n0 ≤ Array.size T6.heap := Nat.le_trans zz2 KF6.1
  have kk7 : Keep h0 T6.heap [] := kk2.trans KF6 (allS (P := fun x => x ∈ [] ∨ _) (Or.inr b_o1) all0)
  have hk7 : Array.size h0 ≤ Array.size T6.heap := Nat.le_trans hk2 KF6.1
  show own_Go p e below _ (T6.setTop (mkF m 7 #[.val (.ref sx), .val (.int xs), .unset] [(.ref o1)]))
  have ne_sx_r1 : sx ≠ r1 := Nat.ne_of_lt (Nat.lt_of_lt_of_le lt_sx_r1 bb6)
  have ne_bx_r1 : bx ≠ r1 := Nat.ne_of_lt (Nat.lt_of_lt_of_le lt_bx_r1 bb6)
  have b_r1 : Array.size h0 ≤ r1 := Nat.le_trans kk2.1 bb6
  refine own_Go.st (fun _ kt => XS.aloadN X6.here hx rfl (hb hby own_d_prog_32_3_7) rfl rfl kt) ?_
  show own_Go p e below _ (T6.setTop (mkF m 8 #[.val (.ref sx), .val (.int xs), .unset] [(.ref sx), (.ref o1)]))
  have sbp_xj1 : own_SB Z T6.heap n0 o1 r1 (0 : Int32) [] := ⟨sb6.1, sb6.2.1, sb6.2.2.1, sb6.2.2.2.1, sb6.2.2.2.2.1, sb6.2.2.2.2.2.1, sb6.2.2.2.2.2.2.1, sb6.2.2.2.2.2.2.2.1, sb6.2.2.2.2.2.2.2.2⟩
  have f8 := (f3.keep KF6)
  have f9 := ((fs.2.1.ext E1).keep KF6 (ninS ne_sx_o1 nin0))
  have f10 := ((fs.2.2.1.ext E1).keep KF6 (ninS ne_sx_o1 nin0))
  have f11 := (f4.keep KF6 (ninS ne_bx_o1 nin0))
  have f12 := (own_stakeep f5 KF6 (own_nst A1))
  obtain ⟨cq13, kq13, q13a, q13b, q13c⟩ := isOf hZ rfl sb6.1
  obtain ⟨_, _, ⟨T13, L13, k13, n13⟩, -, X13, ⟨Lc13, hQ13, l13, y13, z13⟩, st13⟩ := X6.virtualBack hx (y := (⟨"java/lang/StringBuilder", "append", "(Ljava/lang/String;)Ljava/lang/StringBuilder;"⟩ : MethodName)) (z := (⟨"java/lang/StringBuilder", "append", "(Ljava/lang/String;)Ljava/lang/StringBuilder;"⟩ : MethodName)) hown (mvT hZ (own_w hw 44 rfl)) (mvT hZ (own_w hw 45 rfl)) (notFace_of_selects (args := #[]) (mvT hZ (own_w hw 47 rfl))) (mvT hZ (own_w hw 47 rfl)) (mvT hZ (own_w hw 46 rfl)) (by decide) (backOf (W := 0) (own_app l Z a0 hw [] o1 r1 (0 : Int32) [] sx bx bs zc T6.heap n0 zz7 sbp_xj1 ⟨f8, f9, f10, f11⟩ (by first | omega | (simp only [List.length_append, List.length_cons, List.length_nil] <;> omega)) f12 hzc) hZ (own_w hw 48 rfl) (own_w hw 28 rfl) (by decide) (by decide)) q13a q13c (g := (mkF m 8 #[.val (.ref sx), .val (.int xs), .unset] [(.ref sx), (.ref o1)])) rfl (by rw [hml]; rfl) (Steps.refl _) (argsL := [(.ref sx)]) (rest := []) (lenOf own_pd26 rfl) rfl (by show 2 * 0 + _ ≤ _; exact Nat.le_of_eq rfl) (hb hby own_d_prog_32_3_8) (fun _ _ => ⟨rfl, rfl, (by decide : 2 + 0 ≤ _), (by decide : 20 + 0 ≤ _)⟩)
  dsimp only [Pt.U, Pt.locs, Pt.cells, Pt.slots] at X13 l13 y13 z13 st13 hQ13
  subst l13 y13 z13
  obtain ⟨xj1, rfl, N13q, sb13, KF13⟩ := hQ13
  have N13 := Fr.app N6 N13q
  refine own_Go.st (fun _ kt => st13.trans kt) ?_
  have zz14 : n0 ≤ Array.size T13.heap := Nat.le_trans zz7 KF13.1
  have kk14 : Keep h0 T13.heap [] := kk7.trans KF13 (allS (P := fun x => x ∈ [] ∨ _) (Or.inr b_o1) (allS (P := fun x => x ∈ [] ∨ _) (Or.inr b_r1) all0))
  have hk14 : Array.size h0 ≤ Array.size T13.heap := Nat.le_trans hk7 KF13.1
  show own_Go p e below _ (T13.setTop (mkF m 11 #[.val (.ref sx), .val (.int xs), .unset] [(.ref o1)]))
  obtain ⟨sq, T15, h15, k15, bq, kb15, X15, e15, E15, hS15, hk15, hZ15, ho15, Ex15, Cd15, Vl15, Av15, -, -, ib15, Lt15, st15⟩ := ldcSVL X13 hx hZ hown (own_w hw 92 rfl) (own_strAtoms hw) rfl hS0 hk14 (by show Fr (Array.size s.heap) _; rw [hh, ← hn0]; exact N13) (fun b cl q => by show s.heap[b]? = some cl; rw [hh]; exact hkp b cl q) hIB hnt held hcw (vs := ([10] : List Int32).map Value.int) (z := (1 : Int32)) ⟨by decide, by decide⟩ (by decide) rfl (g := (mkF m 11 #[.val (.ref sx), .val (.int xs), .unset] [(.ref o1)])) rfl (hb hby own_d_prog_32_3_11) (n := 4) (by decide) (by decide) (by decide) (by decide)
  refine own_Go.st st15 ?_
  have zz16 : n0 ≤ Array.size h15 := Nat.le_trans zz14 E15.1
  have kk16 : Keep h0 h15 [] := kk14.ext E15
  have sa15 := (own_Ar.arv Av15 (n := 1) rfl).congr (fun j _ => own_getD_map ([10] : List Int32) j)
  show own_Go p e below _ (T15.setTop (mkF m 13 #[.val (.ref sx), .val (.int xs), .unset] [(.ref sq), (.ref o1)]))
  have aq : own_Ar Z h15 bq .byte ([10] : List Int8).length (own_by [10]) := sa15.congr fun j hj => by
    obtain rfl : j = 0 := by have : j < 1 := hj; omega
    rfl
  have f17 := (sb13.1.ext E15)
  have f18 := (sb13.2.2.2.2.1.ext E15)
  have ne_sq_o1 : sq ≠ o1 := ne_exa Ex15 f17 (by decide)
  have ne_sq_r1 : sq ≠ r1 := own_neOA Ex15 (own_w hw 2 rfl) f18
  have ne_o1_bq : o1 ≠ bq := own_neOA f17 (own_w hw 27 rfl) aq
  have ne_bq_r1 : bq ≠ r1 := own_neAA aq f18 (by decide)
  have f19 := (sb13.2.1.ext E15)
  have f20 := (sb13.2.2.1.ext E15)
  have f21 := (sb13.2.2.2.1.ext E15)
  have sbp_xj2 : own_SB Z h15 n0 o1 r1 xj1 ([] ++ bs) := ⟨f17, f19, f20, f21, f18, sb13.2.2.2.2.2.1, sb13.2.2.2.2.2.2.1, sb13.2.2.2.2.2.2.2.1, sb13.2.2.2.2.2.2.2.2⟩
  have f22 := ((own_stakeep f12 KF13 (own_SB.nostat sbp_xj1)).ext E15)
  obtain ⟨cq23, kq23, q23a, q23b, q23c⟩ := isOf hZ15 e15 f17
  obtain ⟨_, _, ⟨T23, L23, k23, n23⟩, -, X23, ⟨Lc23, hQ23, l23, y23, z23⟩, st23⟩ := X15.virtualBack hx (y := (⟨"java/lang/StringBuilder", "append", "(Ljava/lang/String;)Ljava/lang/StringBuilder;"⟩ : MethodName)) (z := (⟨"java/lang/StringBuilder", "append", "(Ljava/lang/String;)Ljava/lang/StringBuilder;"⟩ : MethodName)) ho15 (mvT hZ15 (own_w hw 44 rfl)) (mvT hZ15 (own_w hw 45 rfl)) (notFace_of_selects (args := #[]) (mvT hZ15 (own_w hw 47 rfl))) (mvT hZ15 (own_w hw 47 rfl)) (mvT hZ15 (own_w hw 46 rfl)) (by decide) (backOf (W := 0) (own_app l Z a0 hw [] o1 r1 xj1 ([] ++ bs) sq bq [10] zc h15 n0 zz16 sbp_xj2 ⟨Ex15, Cd15, Vl15, aq⟩ (by first | omega | (simp only [List.length_append, List.length_cons, List.length_nil] <;> omega)) f22 hzc) hZ15 (own_w hw 48 rfl) (own_w hw 28 rfl) (by decide) (by decide)) q23a q23c (g := (mkF m 13 #[.val (.ref sx), .val (.int xs), .unset] [(.ref sq), (.ref o1)])) rfl (by rw [hml]; rfl) (Steps.refl _) (argsL := [(.ref sq)]) (rest := []) (lenOf own_pd26 rfl) rfl (by show 2 * 0 + _ ≤ _; exact Nat.le_of_eq rfl) (hb hby own_d_prog_32_3_13) (fun _ _ => ⟨rfl, e15, (by decide : 4 + 0 ≤ _), (by decide : 28 + 0 ≤ _)⟩)
  dsimp only [Pt.U, Pt.locs, Pt.cells, Pt.slots] at X23 l23 y23 z23 st23 hQ23
  subst l23 y23 z23
  obtain ⟨xj2, rfl, N23q, sb23, KF23⟩ := hQ23
  have N23 := Fr.app N13 N23q
  refine own_Go.st (fun _ kt => st23.trans kt) ?_
  have zz24 : n0 ≤ Array.size T23.heap := Nat.le_trans zz16 KF23.1
  have kk24 : Keep h0 T23.heap [] := kk16.trans KF23 (allS (P := fun x => x ∈ [] ∨ _) (Or.inr b_o1) (allS (P := fun x => x ∈ [] ∨ _) (Or.inr b_r1) all0))
  have hk24 : k15 ≤ Array.size T23.heap := Nat.le_trans hk15 KF23.1
  show own_Go p e below _ (T23.setTop (mkF m 16 #[.val (.ref sx), .val (.int xs), .unset] [(.ref o1)]))
  have f25 := (own_stakeep f22 KF23 (own_SB.nostat sbp_xj2))
  obtain ⟨cq26, kq26, q26a, q26b, q26c⟩ := isOf hZ15 rfl sb23.1
  obtain ⟨_, _, ⟨T26, L26, k26, n26⟩, -, X26, ⟨Lc26, hQ26, l26, y26, z26⟩, st26⟩ := X23.virtualBack hx (y := (⟨"java/lang/StringBuilder", "toString", "()Ljava/lang/String;"⟩ : MethodName)) (z := (⟨"java/lang/StringBuilder", "toString", "()Ljava/lang/String;"⟩ : MethodName)) ho15 (mvT hZ15 (own_w hw 93 rfl)) (mvT hZ15 (own_w hw 94 rfl)) (notFace_of_selects (args := #[]) (mvT hZ15 (own_w hw 96 rfl))) (mvT hZ15 (own_w hw 96 rfl)) (mvT hZ15 (own_w hw 95 rfl)) (by decide) (backOf (W := 0) (own_ts l Z a0 hw [] o1 r1 xj2 ([] ++ bs ++ [10]) zc T23.heap n0 zz24 ⟨sb23.1, sb23.2.1, sb23.2.2.1, sb23.2.2.2.1, sb23.2.2.2.2.1, sb23.2.2.2.2.2.1, sb23.2.2.2.2.2.2.1, sb23.2.2.2.2.2.2.2.1, sb23.2.2.2.2.2.2.2.2⟩ (by first | omega | (simp only [List.length_append, List.length_cons, List.length_nil] <;> omega)) f25 hzc) hZ15 (own_w hw 97 rfl) (own_w hw 28 rfl) (by decide) (by decide)) q26a q26c (g := (mkF m 16 #[.val (.ref sx), .val (.int xs), .unset] [(.ref o1)])) rfl (by rw [hml]; rfl) (Steps.refl _) (argsL := []) (rest := []) (lenOf own_pd27 rfl) rfl (by show 2 * 0 + _ ≤ _; exact Nat.le_of_eq rfl) (hb hby own_d_prog_32_3_16) (fun _ _ => ⟨rfl, rfl, (by decide : 4 + 2 ≤ _), (by decide : 28 + 20 ≤ _)⟩)
  dsimp only [Pt.U, Pt.locs, Pt.cells, Pt.slots] at X26 l26 y26 z26 st26 hQ26
  subst l26 y26 z26
  obtain ⟨s2, b2, rfl, N26q, st_26, eb26, KF26⟩ := hQ26
  have N26 := Fr.app N23 N26q
  refine own_Go.st (fun _ kt => st26.trans kt) ?_
  have zz27 : n0 ≤ Array.size T26.heap := Nat.le_trans zz24 KF26.1
  have kk27 : Keep h0 T26.heap [] := kk24.trans KF26 all0
  have hk27 : k15 ≤ Array.size T26.heap := Nat.le_trans hk24 KF26.1
  show own_Go p e below _ (T26.setTop (mkF m 19 #[.val (.ref sx), .val (.int xs), .unset] [(.ref s2)]))
  refine own_Go.st (fun _ kt => XS.astoreN X26.here hx rfl (hb hby own_d_prog_32_3_19) rfl rfl (l' := #[.val (.ref sx), .val (.int xs), .val (.ref s2)]) rfl kt) ?_
  show own_Go p e below _ (T26.setTop (mkF m 20 #[.val (.ref sx), .val (.int xs), .val (.ref s2)] []))
  refine own_Go.st (fun _ kt => XS.iloadN X26.here hx rfl (hb hby own_d_prog_32_3_20) rfl kt) ?_
  show own_Go p e below _ (T26.setTop (mkF m 21 #[.val (.ref sx), .val (.int xs), .val (.ref s2)] [(.int xs)]))
  rcases hcase with ⟨rfl, rfl⟩ | ⟨rfl, rfl⟩
  · show own_Go p e below _ (T26.setTop (mkF m 21 #[.val (.ref sx), .val (.int (1 : Int32)), .val (.ref s2)] [(.int (1 : Int32))]))
    refine own_Go.st (fun _ kt => XS.ifNo X26.here hx rfl (hb hby own_d_prog_32_3_21) rfl ((if0 _ _).trans (feq (by decide)).1) kt) ?_
    show own_Go p e below _ (T26.setTop (mkF m 24 #[.val (.ref sx), .val (.int (1 : Int32)), .val (.ref s2)] []))
    refine own_Go.st (fun _ kt => XS.aloadN X26.here hx rfl (hb hby own_d_prog_32_3_24) rfl rfl kt) ?_
    show own_Go p e below _ (T26.setTop (mkF m 25 #[.val (.ref sx), .val (.int (1 : Int32)), .val (.ref s2)] [(.ref s2)]))
    refine own_Go.st (fun _ kt => XS.goto X26.here hx rfl (pc0 := 25) (pc' := 47) rfl (hb hby own_d_prog_32_3_25) (by decide) (by decide) kt) ?_
    show own_Go p e below _ (T26.setTop (mkF m 47 #[.val (.ref sx), .val (.int (1 : Int32)), .val (.ref s2)] [(.ref s2)]))
    have f28 := (own_stakeep (own_stakeep ((own_stakeep (own_stakeep (sU.ext E1) KF6 (own_nst A1)) KF13 (own_SB.nostat sbp_xj1)).ext E15) KF23 (own_SB.nostat sbp_xj2)) KF26 (fun x hx _ _ => absurd hx List.not_mem_nil))
    obtain ⟨T29, X29, e29, st29⟩ := getS2 X26 hx hZ15 ho15 (host := "") (Or.inl (own_w hw 138 rfl)) Via.refl rfl f28 (g := (mkF m 47 #[.val (.ref sx), .val (.int (1 : Int32)), .val (.ref s2)] [(.ref s2)])) rfl (hb hby own_d_prog_32_3_47)
    refine own_Go.st st29 ?_
    show own_Go p e below _ (T29.setTop (mkF m 50 #[.val (.ref sx), .val (.int (1 : Int32)), .val (.ref s2)] [(.ref ru), (.ref s2)]))
    have f30 := (own_stakeep (own_stakeep ((own_stakeep (own_stakeep (sI.ext E1) KF6 (own_nst A1)) KF13 (own_SB.nostat sbp_xj1)).ext E15) KF23 (own_SB.nostat sbp_xj2)) KF26 (fun x hx _ _ => absurd hx List.not_mem_nil))
    have f31 := (own_stakeep f25 KF26 (fun x hx _ _ => absurd hx List.not_mem_nil))
    obtain ⟨cq32, kq32, q32a, q32b, q32c⟩ := isOf hZ15 e29 st_26.1
    obtain ⟨_, _, ⟨T32, L32, k32, n32⟩, -, X32, ⟨Lc32, hQ32, l32, y32, z32⟩, st32⟩ := X29.virtualBack hx (y := (⟨"java/lang/String", "getBytes", "(Ljava/nio/charset/Charset;)[B"⟩ : MethodName)) (z := (⟨"java/lang/String", "getBytes", "(Ljava/nio/charset/Charset;)[B"⟩ : MethodName)) ho15 (mvT hZ15 (own_w hw 140 rfl)) (mvT hZ15 (own_w hw 141 rfl)) (notFace_of_selects (args := #[]) (mvT hZ15 (own_w hw 143 rfl))) (mvT hZ15 (own_w hw 143 rfl)) (mvT hZ15 (own_w hw 142 rfl)) (by decide) (backOf (W := 0) (own_gbc l Z a0 hw [] s2 b2 ru ([] ++ bs ++ [10]) zc T26.heap n0 zz27 ⟨st_26.1, st_26.2.1, st_26.2.2.1, st_26.2.2.2⟩ eb26 (by first | omega | (simp only [List.length_append, List.length_cons, List.length_nil] <;> omega)) f30 f31 hzc) hZ15 (own_w hw 144 rfl) (own_w hw 3 rfl) (by decide) (by decide)) q32a q32c (g := (mkF m 50 #[.val (.ref sx), .val (.int (1 : Int32)), .val (.ref s2)] [(.ref ru), (.ref s2)])) rfl (by rw [hml]; rfl) (Steps.refl _) (argsL := [(.ref ru)]) (rest := []) (lenOf own_pd28 rfl) rfl (by show 2 * 0 + _ ≤ _; exact Nat.le_of_eq rfl) (hb hby own_d_prog_32_3_50) (fun _ _ => ⟨rfl, e29, (by decide : 6 + 2 ≤ _), (by decide : 48 + 32 ≤ _)⟩)
    dsimp only [Pt.U, Pt.locs, Pt.cells, Pt.slots] at X32 l32 y32 z32 st32 hQ32
    subst l32 y32 z32
    obtain ⟨rn, rfl, N32q, an32, KF32⟩ := hQ32
    have N32 := Fr.app N26 N32q
    refine own_Go.st (fun _ kt => st32.trans kt) ?_
    have zz33 : n0 ≤ Array.size T32.heap := Nat.le_trans zz27 KF32.1
    have kk33 : Keep h0 T32.heap [] := kk27.trans KF32 all0
    have hk33 : k15 ≤ Array.size T32.heap := Nat.le_trans hk27 KF32.1
    show own_Go p e below _ (T32.setTop (mkF m 53 #[.val (.ref sx), .val (.int (1 : Int32)), .val (.ref s2)] [(.ref rn)]))
    have kk := kk33
    exact own_retWAI X32 hx Bd.notSynchronized Bd.returns rfl rfl hS15 (Nat.le_trans hk33 (Nat.le_of_eq (congrArg Array.size rfl).symm)) (hb hby own_d_prog_32_3_53) (own_IB_at X32 ib15) (by decide) (by decide) ⟨rn, rfl, N32, an32, kk⟩
  · show own_Go p e below _ (T26.setTop (mkF m 21 #[.val (.ref sx), .val (.int (0 : Int32)), .val (.ref s2)] [(.int (0 : Int32))]))
    refine own_Go.st (fun _ kt => XS.ifYes X26.here hx rfl (pc0 := 21) (pc' := 28) rfl (hb hby own_d_prog_32_3_21) rfl ((if0 _ _).trans (teq rfl).1) (by decide) (by decide) kt) ?_
    show own_Go p e below _ (T26.setTop (mkF m 28 #[.val (.ref sx), .val (.int (0 : Int32)), .val (.ref s2)] []))
    obtain ⟨T34, h34, X34, e34, E34, A34, D34, U34, st34⟩ := newO X26 hx hZ15 ho15 (own_w hw 26 rfl) (own_w hw 27 rfl) (own_w hw 28 rfl) rfl (g := (mkF m 28 #[.val (.ref sx), .val (.int (0 : Int32)), .val (.ref s2)] [])) rfl (hb hby own_d_prog_32_3_28) (by decide) (by decide)
    obtain ⟨o2, g34⟩ : ∃ z, z = Array.size T26.heap := ⟨_, rfl⟩
    rw [← g34] at A34 D34 U34 st34
    refine own_Go.st st34 ?_
    have ne_o1_o2 : o1 ≠ o2 := Nat.ne_of_lt (Nat.lt_of_lt_of_le ((sb23.1.keep KF26)).lt (Nat.le_of_eq g34.symm))
    have ne_r1_o2 : r1 ≠ o2 := Nat.ne_of_lt (Nat.lt_of_lt_of_le ((sb23.2.2.2.2.1.keep KF26 nin0)).lt (Nat.le_of_eq g34.symm))
    have ne_sq_o2 : sq ≠ o2 := Nat.ne_of_lt (Nat.lt_of_lt_of_le (((Ex15.keep KF23).keep KF26)).lt (Nat.le_of_eq g34.symm))
    have ne_bq_o2 : bq ≠ o2 := Nat.ne_of_lt (Nat.lt_of_lt_of_le (((aq.keep KF23 (ninS (Ne.symm ne_o1_bq) (ninS ne_bq_r1 nin0))).keep KF26 nin0)).lt (Nat.le_of_eq g34.symm))
    have ne_s2_o2 : s2 ≠ o2 := Nat.ne_of_lt (Nat.lt_of_lt_of_le (st_26.1).lt (Nat.le_of_eq g34.symm))
    have ne_b2_o2 : b2 ≠ o2 := Nat.ne_of_lt (Nat.lt_of_lt_of_le (st_26.2.2.2).lt (Nat.le_of_eq g34.symm))
    have n0_o2 : n0 ≤ o2 := Nat.le_trans zz27 (Nat.le_of_eq g34.symm)
    have b_o2 : Array.size h0 ≤ o2 := Nat.le_trans kk27.1 (Nat.le_of_eq g34.symm)
    have zz35 : n0 ≤ Array.size h34 := Nat.le_trans zz27 E34.1
    have kk35 : Keep h0 h34 [] := kk27.ext E34
    have hk35 : k15 ≤ Array.size h34 := Nat.le_trans hk27 E34.1
    have D34_value : Fld Z h34 o2 "java/lang/AbstractStringBuilder" "value" "[B" .null := D34 (Or.inl (own_w hw 41 rfl)) (ty := (.array .byte)) (by decide)
    have D34_coder : Fld Z h34 o2 "java/lang/AbstractStringBuilder" "coder" "B" (.int 0) := D34 (Or.inl (own_w hw 43 rfl)) (ty := .byte) (by decide)
    have D34_count : Fld Z h34 o2 "java/lang/AbstractStringBuilder" "count" "I" (.int 0) := D34 (Or.inl (own_w hw 66 rfl)) (ty := .int) (by decide)
    show own_Go p e below _ (T34.setTop (mkF m 31 #[.val (.ref sx), .val (.int (0 : Int32)), .val (.ref s2)] [(.ref o2)]))
    refine own_Go.st (fun _ kt => XS.dup X34.here hx rfl (hb hby own_d_prog_32_3_31) rfl rfl kt) ?_
    show own_Go p e below _ (T34.setTop (mkF m 32 #[.val (.ref sx), .val (.int (0 : Int32)), .val (.ref s2)] [(.ref o2), (.ref o2)]))
    have f36 := ((sb23.1.keep KF26).ext E34)
    have f37 := ((sb23.2.2.2.2.1.keep KF26 nin0).ext E34)
    have f38 := (((Ex15.keep KF23).keep KF26).ext E34)
    have f39 := (((aq.keep KF23 (ninS (Ne.symm ne_o1_bq) (ninS ne_bq_r1 nin0))).keep KF26 nin0).ext E34)
    have f40 := (st_26.1.ext E34)
    have f41 := (st_26.2.2.2.ext E34)
    have lt_o1_r2 := (f36).lt
    have lt_r1_r2 := (f37).lt
    have lt_sq_r2 := (f38).lt
    have lt_bq_r2 := (f39).lt
    have lt_s2_r2 := (f40).lt
    have lt_b2_r2 := (f41).lt
    have f42 := ((own_stakeep f25 KF26 (fun x hx _ _ => absurd hx List.not_mem_nil)).ext E34)
    obtain ⟨_, _, ⟨T43, L43, k43, n43⟩, -, X43, ⟨Lc43, hQ43, l43, y43, z43⟩, st43⟩ := X34.specialBack hx (y := (⟨"java/lang/StringBuilder", "<init>", "()V"⟩ : MethodName)) rfl ho15 (mvT hZ15 (own_w hw 29 rfl)) (mvT hZ15 (own_w hw 30 rfl)) (mvT hZ15 (own_w hw 31 rfl)) (by decide) (backOf (W := 1) (own_binit l Z a0 hw [] o2 zc h34 n0 zz35 A34 D34_value D34_coder D34_count n0_o2 f42 hzc) hZ15 (own_w hw 31 rfl) (own_w hw 28 rfl) (by decide) (by decide)) (g := (mkF m 32 #[.val (.ref sx), .val (.int (0 : Int32)), .val (.ref s2)] [(.ref o2), (.ref o2)])) rfl (by rw [hml]; rfl) (Steps.refl _) (a := o2) (argsL := []) (rest := [(.ref o2)]) (lenOf own_pd25 rfl) rfl (by show 2 * 0 + _ ≤ _; exact Nat.le_of_eq rfl) (hb hby own_d_prog_32_3_32) (fun _ _ => ⟨rfl, e34, (by decide : 7 + 1 ≤ _), (by decide : 52 + 16 ≤ _)⟩)
    dsimp only [Pt.U, Pt.locs, Pt.cells, Pt.slots] at X43 l43 y43 z43 st43 hQ43
    subst l43 y43 z43
    obtain ⟨r2, rfl, N43q, sb43, bb43, KF43⟩ := hQ43
    have N43 := Fr.app N26 N43q
    refine own_Go.st (fun _ kt => st43.trans kt) ?_
    have zz44 : n0 ≤ Array.size T43.heap := Nat.le_trans zz35 KF43.1
    have kk44 : Keep h0 T43.heap [] := kk35.trans KF43 (allS (P := fun x => x ∈ [] ∨ _) (Or.inr b_o2) all0)
    have hk44 : k15 ≤ Array.size T43.heap := Nat.le_trans hk35 KF43.1
    show own_Go p e below _ (T43.setTop (mkF m 35 #[.val (.ref sx), .val (.int (0 : Int32)), .val (.ref s2)] [(.ref o2)]))
    have ne_o1_r2 : o1 ≠ r2 := Nat.ne_of_lt (Nat.lt_of_lt_of_le lt_o1_r2 bb43)
    have ne_r1_r2 : r1 ≠ r2 := Nat.ne_of_lt (Nat.lt_of_lt_of_le lt_r1_r2 bb43)
    have ne_sq_r2 : sq ≠ r2 := Nat.ne_of_lt (Nat.lt_of_lt_of_le lt_sq_r2 bb43)
    have ne_bq_r2 : bq ≠ r2 := Nat.ne_of_lt (Nat.lt_of_lt_of_le lt_bq_r2 bb43)
    have ne_s2_r2 : s2 ≠ r2 := Nat.ne_of_lt (Nat.lt_of_lt_of_le lt_s2_r2 bb43)
    have ne_b2_r2 : b2 ≠ r2 := Nat.ne_of_lt (Nat.lt_of_lt_of_le lt_b2_r2 bb43)
    have b_r2 : Array.size h0 ≤ r2 := Nat.le_trans kk35.1 bb43
    refine own_Go.st (fun _ kt => ldcAgain X43 hx hZ15 ho15 (own_w hw 92 rfl) Lt15 (g := (mkF m 35 #[.val (.ref sx), .val (.int (0 : Int32)), .val (.ref s2)] [(.ref o2)])) rfl (hb hby own_d_prog_32_3_35) _ kt) ?_
    show own_Go p e below _ (T43.setTop (mkF m 37 #[.val (.ref sx), .val (.int (0 : Int32)), .val (.ref s2)] [(.ref sq), (.ref o2)]))
    have sbp_xj3 : own_SB Z T43.heap n0 o2 r2 (0 : Int32) [] := ⟨sb43.1, sb43.2.1, sb43.2.2.1, sb43.2.2.2.1, sb43.2.2.2.2.1, sb43.2.2.2.2.2.1, sb43.2.2.2.2.2.2.1, sb43.2.2.2.2.2.2.2.1, sb43.2.2.2.2.2.2.2.2⟩
    have f45 := (f38.keep KF43)
    have f46 := ((((Cd15.keep KF23 (ninS ne_sq_o1 (ninS ne_sq_r1 nin0))).keep KF26 nin0).ext E34).keep KF43 (ninS ne_sq_o2 nin0))
    have f47 := ((((Vl15.keep KF23 (ninS ne_sq_o1 (ninS ne_sq_r1 nin0))).keep KF26 nin0).ext E34).keep KF43 (ninS ne_sq_o2 nin0))
    have f48 := (f39.keep KF43 (ninS ne_bq_o2 nin0))
    have f49 := (own_stakeep f42 KF43 (own_nst A34))
    obtain ⟨cq50, kq50, q50a, q50b, q50c⟩ := isOf hZ15 rfl sb43.1
    obtain ⟨_, _, ⟨T50, L50, k50, n50⟩, -, X50, ⟨Lc50, hQ50, l50, y50, z50⟩, st50⟩ := X43.virtualBack hx (y := (⟨"java/lang/StringBuilder", "append", "(Ljava/lang/String;)Ljava/lang/StringBuilder;"⟩ : MethodName)) (z := (⟨"java/lang/StringBuilder", "append", "(Ljava/lang/String;)Ljava/lang/StringBuilder;"⟩ : MethodName)) ho15 (mvT hZ15 (own_w hw 44 rfl)) (mvT hZ15 (own_w hw 45 rfl)) (notFace_of_selects (args := #[]) (mvT hZ15 (own_w hw 47 rfl))) (mvT hZ15 (own_w hw 47 rfl)) (mvT hZ15 (own_w hw 46 rfl)) (by decide) (backOf (W := 0) (own_app l Z a0 hw [] o2 r2 (0 : Int32) [] sq bq [10] zc T43.heap n0 zz44 sbp_xj3 ⟨f45, f46, f47, f48⟩ (by first | omega | (simp only [List.length_append, List.length_cons, List.length_nil] <;> omega)) f49 hzc) hZ15 (own_w hw 48 rfl) (own_w hw 28 rfl) (by decide) (by decide)) q50a q50c (g := (mkF m 37 #[.val (.ref sx), .val (.int (0 : Int32)), .val (.ref s2)] [(.ref sq), (.ref o2)])) rfl (by rw [hml]; rfl) (Steps.refl _) (argsL := [(.ref sq)]) (rest := []) (lenOf own_pd26 rfl) rfl (by show 2 * 0 + _ ≤ _; exact Nat.le_of_eq rfl) (hb hby own_d_prog_32_3_37) (fun _ _ => ⟨rfl, rfl, (by decide : 8 + 0 ≤ _), (by decide : 68 + 0 ≤ _)⟩)
    dsimp only [Pt.U, Pt.locs, Pt.cells, Pt.slots] at X50 l50 y50 z50 st50 hQ50
    subst l50 y50 z50
    obtain ⟨xj3, rfl, N50q, sb50, KF50⟩ := hQ50
    have N50 := Fr.app N43 N50q
    refine own_Go.st (fun _ kt => st50.trans kt) ?_
    have zz51 : n0 ≤ Array.size T50.heap := Nat.le_trans zz44 KF50.1
    have kk51 : Keep h0 T50.heap [] := kk44.trans KF50 (allS (P := fun x => x ∈ [] ∨ _) (Or.inr b_o2) (allS (P := fun x => x ∈ [] ∨ _) (Or.inr b_r2) all0))
    have hk51 : k15 ≤ Array.size T50.heap := Nat.le_trans hk44 KF50.1
    show own_Go p e below _ (T50.setTop (mkF m 40 #[.val (.ref sx), .val (.int (0 : Int32)), .val (.ref s2)] [(.ref o2)]))
    refine own_Go.st (fun _ kt => XS.aloadN X50.here hx rfl (hb hby own_d_prog_32_3_40) rfl rfl kt) ?_
    show own_Go p e below _ (T50.setTop (mkF m 41 #[.val (.ref sx), .val (.int (0 : Int32)), .val (.ref s2)] [(.ref s2), (.ref o2)]))
    have sbp_xj4 : own_SB Z T50.heap n0 o2 r2 xj3 ([] ++ [10]) := ⟨sb50.1, sb50.2.1, sb50.2.2.1, sb50.2.2.2.1, sb50.2.2.2.2.1, sb50.2.2.2.2.2.1, sb50.2.2.2.2.2.2.1, sb50.2.2.2.2.2.2.2.1, sb50.2.2.2.2.2.2.2.2⟩
    have f52 := ((f40.keep KF43).keep KF50)
    have f53 := (((st_26.2.1.ext E34).keep KF43 (ninS ne_s2_o2 nin0)).keep KF50 (ninS ne_s2_o2 (ninS ne_s2_r2 nin0)))
    have f54 := (((st_26.2.2.1.ext E34).keep KF43 (ninS ne_s2_o2 nin0)).keep KF50 (ninS ne_s2_o2 (ninS ne_s2_r2 nin0)))
    have f55 := ((f41.keep KF43 (ninS ne_b2_o2 nin0)).keep KF50 (ninS ne_b2_o2 (ninS ne_b2_r2 nin0)))
    have f56 := (own_stakeep f49 KF50 (own_SB.nostat sbp_xj3))
    obtain ⟨cq57, kq57, q57a, q57b, q57c⟩ := isOf hZ15 rfl sb50.1
    obtain ⟨_, _, ⟨T57, L57, k57, n57⟩, -, X57, ⟨Lc57, hQ57, l57, y57, z57⟩, st57⟩ := X50.virtualBack hx (y := (⟨"java/lang/StringBuilder", "append", "(Ljava/lang/String;)Ljava/lang/StringBuilder;"⟩ : MethodName)) (z := (⟨"java/lang/StringBuilder", "append", "(Ljava/lang/String;)Ljava/lang/StringBuilder;"⟩ : MethodName)) ho15 (mvT hZ15 (own_w hw 44 rfl)) (mvT hZ15 (own_w hw 45 rfl)) (notFace_of_selects (args := #[]) (mvT hZ15 (own_w hw 47 rfl))) (mvT hZ15 (own_w hw 47 rfl)) (mvT hZ15 (own_w hw 46 rfl)) (by decide) (backOf (W := 0) (own_app l Z a0 hw [] o2 r2 xj3 ([] ++ [10]) s2 b2 ([] ++ bs ++ [10]) zc T50.heap n0 zz51 sbp_xj4 ⟨f52, f53, f54, f55⟩ (by first | omega | (simp only [List.length_append, List.length_cons, List.length_nil] <;> omega)) f56 hzc) hZ15 (own_w hw 48 rfl) (own_w hw 28 rfl) (by decide) (by decide)) q57a q57c (g := (mkF m 41 #[.val (.ref sx), .val (.int (0 : Int32)), .val (.ref s2)] [(.ref s2), (.ref o2)])) rfl (by rw [hml]; rfl) (Steps.refl _) (argsL := [(.ref s2)]) (rest := []) (lenOf own_pd26 rfl) rfl (by show 2 * 0 + _ ≤ _; exact Nat.le_of_eq rfl) (hb hby own_d_prog_32_3_41) (fun _ _ => ⟨rfl, rfl, (by decide : 8 + 0 ≤ _), (by decide : 68 + 0 ≤ _)⟩)
    dsimp only [Pt.U, Pt.locs, Pt.cells, Pt.slots] at X57 l57 y57 z57 st57 hQ57
    subst l57 y57 z57
    obtain ⟨xj4, rfl, N57q, sb57, KF57⟩ := hQ57
    have N57 := Fr.app N50 N57q
    refine own_Go.st (fun _ kt => st57.trans kt) ?_
    have zz58 : n0 ≤ Array.size T57.heap := Nat.le_trans zz51 KF57.1
    have kk58 : Keep h0 T57.heap [] := kk51.trans KF57 (allS (P := fun x => x ∈ [] ∨ _) (Or.inr b_o2) (allS (P := fun x => x ∈ [] ∨ _) (Or.inr b_r2) all0))
    have hk58 : k15 ≤ Array.size T57.heap := Nat.le_trans hk51 KF57.1
    show own_Go p e below _ (T57.setTop (mkF m 44 #[.val (.ref sx), .val (.int (0 : Int32)), .val (.ref s2)] [(.ref o2)]))
    have f59 := (own_stakeep f56 KF57 (own_SB.nostat sbp_xj4))
    obtain ⟨cq60, kq60, q60a, q60b, q60c⟩ := isOf hZ15 rfl sb57.1
    obtain ⟨_, _, ⟨T60, L60, k60, n60⟩, -, X60, ⟨Lc60, hQ60, l60, y60, z60⟩, st60⟩ := X57.virtualBack hx (y := (⟨"java/lang/StringBuilder", "toString", "()Ljava/lang/String;"⟩ : MethodName)) (z := (⟨"java/lang/StringBuilder", "toString", "()Ljava/lang/String;"⟩ : MethodName)) ho15 (mvT hZ15 (own_w hw 93 rfl)) (mvT hZ15 (own_w hw 94 rfl)) (notFace_of_selects (args := #[]) (mvT hZ15 (own_w hw 96 rfl))) (mvT hZ15 (own_w hw 96 rfl)) (mvT hZ15 (own_w hw 95 rfl)) (by decide) (backOf (W := 0) (own_ts l Z a0 hw [] o2 r2 xj4 ([] ++ [10] ++ ([] ++ bs ++ [10])) zc T57.heap n0 zz58 ⟨sb57.1, sb57.2.1, sb57.2.2.1, sb57.2.2.2.1, sb57.2.2.2.2.1, sb57.2.2.2.2.2.1, sb57.2.2.2.2.2.2.1, sb57.2.2.2.2.2.2.2.1, sb57.2.2.2.2.2.2.2.2⟩ (by first | omega | (simp only [List.length_append, List.length_cons, List.length_nil] <;> omega)) f59 hzc) hZ15 (own_w hw 97 rfl) (own_w hw 28 rfl) (by decide) (by decide)) q60a q60c (g := (mkF m 44 #[.val (.ref sx), .val (.int (0 : Int32)), .val (.ref s2)] [(.ref o2)])) rfl (by rw [hml]; rfl) (Steps.refl _) (argsL := []) (rest := []) (lenOf own_pd27 rfl) rfl (by show 2 * 0 + _ ≤ _; exact Nat.le_of_eq rfl) (hb hby own_d_prog_32_3_44) (fun _ _ => ⟨rfl, rfl, (by decide : 8 + 2 ≤ _), (by decide : 68 + 20 ≤ _)⟩)
    dsimp only [Pt.U, Pt.locs, Pt.cells, Pt.slots] at X60 l60 y60 z60 st60 hQ60
    subst l60 y60 z60
    obtain ⟨s3, b3, rfl, N60q, st_60, eb60, KF60⟩ := hQ60
    have N60 := Fr.app N57 N60q
    refine own_Go.st (fun _ kt => st60.trans kt) ?_
    have zz61 : n0 ≤ Array.size T60.heap := Nat.le_trans zz58 KF60.1
    have kk61 : Keep h0 T60.heap [] := kk58.trans KF60 all0
    have hk61 : k15 ≤ Array.size T60.heap := Nat.le_trans hk58 KF60.1
    show own_Go p e below _ (T60.setTop (mkF m 47 #[.val (.ref sx), .val (.int (0 : Int32)), .val (.ref s2)] [(.ref s3)]))
    have f62 := (own_stakeep (own_stakeep (own_stakeep (own_stakeep ((own_stakeep (own_stakeep ((own_stakeep (own_stakeep (sU.ext E1) KF6 (own_nst A1)) KF13 (own_SB.nostat sbp_xj1)).ext E15) KF23 (own_SB.nostat sbp_xj2)) KF26 (fun x hx _ _ => absurd hx List.not_mem_nil)).ext E34) KF43 (own_nst A34)) KF50 (own_SB.nostat sbp_xj3)) KF57 (own_SB.nostat sbp_xj4)) KF60 (fun x hx _ _ => absurd hx List.not_mem_nil))
    obtain ⟨T63, X63, e63, st63⟩ := getS2 X60 hx hZ15 ho15 (host := "") (Or.inl (own_w hw 138 rfl)) Via.refl rfl f62 (g := (mkF m 47 #[.val (.ref sx), .val (.int (0 : Int32)), .val (.ref s2)] [(.ref s3)])) rfl (hb hby own_d_prog_32_3_47)
    refine own_Go.st st63 ?_
    show own_Go p e below _ (T63.setTop (mkF m 50 #[.val (.ref sx), .val (.int (0 : Int32)), .val (.ref s2)] [(.ref ru), (.ref s3)]))
    have f64 := (own_stakeep (own_stakeep (own_stakeep (own_stakeep ((own_stakeep (own_stakeep ((own_stakeep (own_stakeep (sI.ext E1) KF6 (own_nst A1)) KF13 (own_SB.nostat sbp_xj1)).ext E15) KF23 (own_SB.nostat sbp_xj2)) KF26 (fun x hx _ _ => absurd hx List.not_mem_nil)).ext E34) KF43 (own_nst A34)) KF50 (own_SB.nostat sbp_xj3)) KF57 (own_SB.nostat sbp_xj4)) KF60 (fun x hx _ _ => absurd hx List.not_mem_nil))
    have f65 := (own_stakeep f59 KF60 (fun x hx _ _ => absurd hx List.not_mem_nil))
    obtain ⟨cq66, kq66, q66a, q66b, q66c⟩ := isOf hZ15 e63 st_60.1
    obtain ⟨_, _, ⟨T66, L66, k66, n66⟩, -, X66, ⟨Lc66, hQ66, l66, y66, z66⟩, st66⟩ := X63.virtualBack hx (y := (⟨"java/lang/String", "getBytes", "(Ljava/nio/charset/Charset;)[B"⟩ : MethodName)) (z := (⟨"java/lang/String", "getBytes", "(Ljava/nio/charset/Charset;)[B"⟩ : MethodName)) ho15 (mvT hZ15 (own_w hw 140 rfl)) (mvT hZ15 (own_w hw 141 rfl)) (notFace_of_selects (args := #[]) (mvT hZ15 (own_w hw 143 rfl))) (mvT hZ15 (own_w hw 143 rfl)) (mvT hZ15 (own_w hw 142 rfl)) (by decide) (backOf (W := 0) (own_gbc l Z a0 hw [] s3 b3 ru ([] ++ [10] ++ ([] ++ bs ++ [10])) zc T60.heap n0 zz61 ⟨st_60.1, st_60.2.1, st_60.2.2.1, st_60.2.2.2⟩ eb60 (by first | omega | (simp only [List.length_append, List.length_cons, List.length_nil] <;> omega)) f64 f65 hzc) hZ15 (own_w hw 144 rfl) (own_w hw 3 rfl) (by decide) (by decide)) q66a q66c (g := (mkF m 50 #[.val (.ref sx), .val (.int (0 : Int32)), .val (.ref s2)] [(.ref ru), (.ref s3)])) rfl (by rw [hml]; rfl) (Steps.refl _) (argsL := [(.ref ru)]) (rest := []) (lenOf own_pd28 rfl) rfl (by show 2 * 0 + _ ≤ _; exact Nat.le_of_eq rfl) (hb hby own_d_prog_32_3_50) (fun _ _ => ⟨rfl, e63, (by decide : 10 + 2 ≤ _), (by decide : 88 + 32 ≤ _)⟩)
    dsimp only [Pt.U, Pt.locs, Pt.cells, Pt.slots] at X66 l66 y66 z66 st66 hQ66
    subst l66 y66 z66
    obtain ⟨rn, rfl, N66q, an66, KF66⟩ := hQ66
    have N66 := Fr.app N60 N66q
    refine own_Go.st (fun _ kt => st66.trans kt) ?_
    have zz67 : n0 ≤ Array.size T66.heap := Nat.le_trans zz61 KF66.1
    have kk67 : Keep h0 T66.heap [] := kk61.trans KF66 all0
    have hk67 : k15 ≤ Array.size T66.heap := Nat.le_trans hk61 KF66.1
    show own_Go p e below _ (T66.setTop (mkF m 53 #[.val (.ref sx), .val (.int (0 : Int32)), .val (.ref s2)] [(.ref rn)]))
    have kk := kk67
    exact own_retWAI X66 hx Bd.notSynchronized Bd.returns rfl rfl hS15 (Nat.le_trans hk67 (Nat.le_of_eq (congrArg Array.size rfl).symm)) (hb hby own_d_prog_32_3_53) (own_IB_at X66 ib15) (by decide) (by decide) ⟨rn, rfl, N66, an66, kk⟩
theorem own_and3 (x : Int32) : (x &&& (3 : Int32)) = 0 ∨ (x &&& (3 : Int32)) = 1 ∨ (x &&& (3 : Int32)) = 2 ∨ (x &&& (3 : Int32)) = 3 := by
  have h := c_mask x 3 2 (by decide) (by decide)
  have q : (x &&& (3 : Int32)).toInt = 0 ∨ (x &&& (3 : Int32)).toInt = 1 ∨ (x &&& (3 : Int32)).toInt = 2 ∨ (x &&& (3 : Int32)).toInt = 3 := by omega
  rcases q with q | q | q | q
  · exact Or.inl (own_i32 q)
  · exact Or.inr (Or.inl (own_i32 q))
  · exact Or.inr (Or.inr (Or.inl (own_i32 q)))
  · exact Or.inr (Or.inr (Or.inr (own_i32 q)))
theorem own_enc_cons (x : Int8) (l : List Int8) : own_enc (x :: l) = own_e1 x ++ own_enc l := List.flatMap_cons
theorem own_e1_ten : own_e1 10 = [10] := by decide
theorem own_p1_pos {x : Int32} (h : x < 128) : own_p1 x = [x.toInt8] := if_pos h
theorem own_p1_neg {x : Int32} (h : ¬ x < 128) : own_p1 x = [((192 : Int32) ||| (x >>> ((6 : Int32) &&& 31))).toInt8] ++ [((128 : Int32) ||| (x &&& (63 : Int32))).toInt8] := if_neg h
theorem own_nar10 : nar .byte (10 : Int32) = 10 := by decide
theorem own_pn7 : plainName "com/example/marshal/marshal/pipelines/LogLinesLinePinLaw" = true := by first | (simp [plainName, overriddenIn]; done) | decide +kernel
theorem own_ef38 (m : MethodId) (x0 : Addr) (x1 : Int32) (x2 : Int32) : entryFrame m #[(.ref x0), (.int x1), (.int x2)] 3 = mkF m 0 #[.val (.ref x0), .val (.int x1), .val (.int x2)] [] := by first | (simp [entryFrame, mkF, argsToLocals, Value.category]; done) | rfl
theorem own_d_method_3_0 : decode method_3_code 0 = .ok (.iload_n 2, 1) := by decide +kernel
theorem own_d_method_3_1 : decode method_3_code 1 = .ok (.sipush 128, 3) := by decide +kernel
theorem own_d_method_3_4 : decode method_3_code 4 = .ok (.if_icmp .ge 12, 3) := by decide +kernel
theorem own_d_method_3_7 : decode method_3_code 7 = .ok (.aload_n 0, 1) := by decide +kernel
theorem own_d_method_3_8 : decode method_3_code 8 = .ok (.iload_n 1, 1) := by decide +kernel
theorem own_d_method_3_9 : decode method_3_code 9 = .ok (.iload_n 2, 1) := by decide +kernel
theorem own_d_method_3_10 : decode method_3_code 10 = .ok (.i2b, 1) := by decide +kernel
theorem own_d_method_3_11 : decode method_3_code 11 = .ok (.bastore, 1) := by decide +kernel
theorem own_d_method_3_12 : decode method_3_code 12 = .ok (.iload_n 1, 1) := by decide +kernel
theorem own_d_method_3_13 : decode method_3_code 13 = .ok (.iconst 1, 1) := by decide +kernel
theorem own_d_method_3_14 : decode method_3_code 14 = .ok (.iadd, 1) := by decide +kernel
theorem own_d_method_3_15 : decode method_3_code 15 = .ok (.ireturn, 1) := by decide +kernel
theorem own_d_method_3_16 : decode method_3_code 16 = .ok (.aload_n 0, 1) := by decide +kernel
theorem own_d_method_3_17 : decode method_3_code 17 = .ok (.iload_n 1, 1) := by decide +kernel
theorem own_d_method_3_18 : decode method_3_code 18 = .ok (.sipush 192, 3) := by decide +kernel
theorem own_d_method_3_21 : decode method_3_code 21 = .ok (.iload_n 2, 1) := by decide +kernel
theorem own_d_method_3_22 : decode method_3_code 22 = .ok (.bipush 6, 2) := by decide +kernel
theorem own_d_method_3_24 : decode method_3_code 24 = .ok (.ishr, 1) := by decide +kernel
theorem own_d_method_3_25 : decode method_3_code 25 = .ok (.ior, 1) := by decide +kernel
theorem own_d_method_3_26 : decode method_3_code 26 = .ok (.i2b, 1) := by decide +kernel
theorem own_d_method_3_27 : decode method_3_code 27 = .ok (.bastore, 1) := by decide +kernel
theorem own_d_method_3_28 : decode method_3_code 28 = .ok (.aload_n 0, 1) := by decide +kernel
theorem own_d_method_3_29 : decode method_3_code 29 = .ok (.iload_n 1, 1) := by decide +kernel
theorem own_d_method_3_30 : decode method_3_code 30 = .ok (.iconst 1, 1) := by decide +kernel
theorem own_d_method_3_31 : decode method_3_code 31 = .ok (.iadd, 1) := by decide +kernel
theorem own_d_method_3_32 : decode method_3_code 32 = .ok (.sipush 128, 3) := by decide +kernel
theorem own_d_method_3_35 : decode method_3_code 35 = .ok (.iload_n 2, 1) := by decide +kernel
theorem own_d_method_3_36 : decode method_3_code 36 = .ok (.bipush 63, 2) := by decide +kernel
theorem own_d_method_3_38 : decode method_3_code 38 = .ok (.iand, 1) := by decide +kernel
theorem own_d_method_3_39 : decode method_3_code 39 = .ok (.ior, 1) := by decide +kernel
theorem own_d_method_3_40 : decode method_3_code 40 = .ok (.i2b, 1) := by decide +kernel
theorem own_d_method_3_41 : decode method_3_code 41 = .ok (.bastore, 1) := by decide +kernel
theorem own_d_method_3_42 : decode method_3_code 42 = .ok (.iload_n 1, 1) := by decide +kernel
theorem own_d_method_3_43 : decode method_3_code 43 = .ok (.iconst 2, 1) := by decide +kernel
theorem own_d_method_3_44 : decode method_3_code 44 = .ok (.iadd, 1) := by decide +kernel
theorem own_d_method_3_45 : decode method_3_code 45 = .ok (.ireturn, 1) := by decide +kernel
def own_Q_own_put (Z : State) (re : Addr) (xp xc : Int32) (es : List Int8) (h0 : Heap) (n0 : Nat) (v : Option Value) (h : Heap) (L : List Loc) : Prop := ∃ z, v = some (.int z) ∧ Fr n0 L ∧ own_Ar Z h re .byte 8 (own_by (es ++ own_p1 xc)) ∧ z.toInt = ((es ++ own_p1 xc).length : Int) ∧ Keep h0 h [re]
set_option maxRecDepth 65536 in
set_option maxHeartbeats 40000000 in
theorem own_put (l : Launch) (Z : State) (a0 : Array Value) (hw : ∀ d ∈ tables_1, d.before a0 Z = true) (ws : List Jvm.Cond) (re : Addr) (xp xc : Int32) (es : List Int8) (h0 : Heap) (n0 : Nat) (Z0 : n0 ≤ h0.size) (ar : own_Ar Z h0 re .byte 8 (own_by es)) (hp : xp.toInt = (es.length : Int)) (hl : es.length ≤ 6) (gr : n0 ≤ re) :
    MetFree l (⟨"com/example/marshal/marshal/pipelines/LogLinesLinePinLaw", "put", "([BIC)I"⟩ : MethodName) (head1 (Jvm.Cond.code (⟨"com/example/marshal/marshal/pipelines/LogLinesLinePinLaw", "put", "([BIC)I"⟩ : MethodName) method_3_code 3 (some .int) :: ws) ({ frames := 0, cells := 0, slots := 0, locals := 0 } : Room)) (fun av_ U => av_ = #[(.ref re), (.int xp), (.int xc)] ∧ Z.Warmed39 U.vm ∧ U.heap = h0) (fun _ _ _ _ _ => True) (fun _ U o U' => ∃ v L, o = .returned v ∧ own_Q_own_put Z re xp xc es h0 n0 v U'.heap L ∧ FrameEnd U o U' L ({ frames := 0, cells := 0, slots := 0, locals := 0 } : Room).cells ({ frames := 0, cells := 0, slots := 0, locals := 0 } : Room).slots) := by
  refine MetFree.of_bodySF (plainFor_of_name own_pn7) hisR ?_
  intro p e s m args below meth c s₁ Bd hml0 hP hK
  obtain ⟨rfl, hZ, hh⟩ := hP
  have hx := Bd.exec
  have hby := Bd.bytes
  have hml : c.maxLocals = 3 := hml0
  have hown : s.vm.findClass "com/example/marshal/marshal/pipelines/LogLinesLinePinLaw" = some m.cls := findClass_of_methodNamed Bd.named
  have hnm := (name_of_methodNamed Bd.named Bd.method).1
  have X0 : Stand p l e ({ frames := 0, cells := 0, slots := 0, locals := 0 } : Room) s m #[(.ref re), (.int xp), (.int xc)] below meth c s₁ [] 0 0 := Stand.of_body Bd
  have e0 : s₁.heap = h0 := by rw [← hh, Bd.state]; rfl
  have N0 := Fr.nil n0
  suffices hgo : own_Go p e below (fun o U' => ∃ v L, o = .returned v ∧ own_Q_own_put Z re xp xc es h0 n0 v U'.heap L ∧ FrameEnd s o U' L ({ frames := 0, cells := 0, slots := 0, locals := 0 } : Room).cells ({ frames := 0, cells := 0, slots := 0, locals := 0 } : Room).slots) (s₁.setTop (mkF m 0 #[.val (.ref re), .val (.int xp), .val (.int xc)] [])) by
    obtain ⟨s₂, o, h1, h2, h3, h4⟩ := hgo
    exact ⟨s₂, o, castTop (own_ef38 m re xp xc) h1, h2, h3, h4⟩
  have kk0 : Keep h0 h0 [re] := Keep.refl _ _
  show own_Go p e below _ (s₁.setTop (mkF m 0 #[.val (.ref re), .val (.int xp), .val (.int xc)] []))
  refine own_Go.st (fun _ kt => XS.iloadN X0.here hx rfl (hb hby own_d_method_3_0) rfl kt) ?_
  show own_Go p e below _ (s₁.setTop (mkF m 1 #[.val (.ref re), .val (.int xp), .val (.int xc)] [(.int xc)]))
  refine own_Go.st (fun _ kt => XS.sipush X0.here hx rfl (hb hby own_d_method_3_1) kt) ?_
  show own_Go p e below _ (s₁.setTop (mkF m 4 #[.val (.ref re), .val (.int xp), .val (.int xc)] [(.int (128 : Int32)), (.int xc)]))
  by_cases hc4 : xc < (128 : Int32)
  · refine own_Go.st (fun _ kt => XS.icmpNo X0.here hx rfl (hb hby own_d_method_3_4) rfl (tlt hc4).2.1 kt) ?_
    show own_Go p e below _ (s₁.setTop (mkF m 7 #[.val (.ref re), .val (.int xp), .val (.int xc)] []))
    refine own_Go.st (fun _ kt => XS.aloadN X0.here hx rfl (hb hby own_d_method_3_7) rfl rfl kt) ?_
    show own_Go p e below _ (s₁.setTop (mkF m 8 #[.val (.ref re), .val (.int xp), .val (.int xc)] [(.ref re)]))
    refine own_Go.st (fun _ kt => XS.iloadN X0.here hx rfl (hb hby own_d_method_3_8) rfl kt) ?_
    show own_Go p e below _ (s₁.setTop (mkF m 9 #[.val (.ref re), .val (.int xp), .val (.int xc)] [(.int xp), (.ref re)]))
    refine own_Go.st (fun _ kt => XS.iloadN X0.here hx rfl (hb hby own_d_method_3_9) rfl kt) ?_
    show own_Go p e below _ (s₁.setTop (mkF m 10 #[.val (.ref re), .val (.int xp), .val (.int xc)] [(.int xc), (.int xp), (.ref re)]))
    refine own_Go.st (fun _ kt => XS.i2b X0.here hx rfl (hb hby own_d_method_3_10) rfl kt) ?_
    show own_Go p e below _ (s₁.setTop (mkF m 11 #[.val (.ref re), .val (.int xp), .val (.int xc)] [(.int (xc.toInt8.toInt32)), (.int xp), (.ref re)]))
    obtain ⟨T1, h1, X1, e1, W1, st1⟩ := own_bast X0 hx hZ e0 ar hp (by omega) (own_nar_byte _) (g := (mkF m 11 #[.val (.ref re), .val (.int xp), .val (.int xc)] [(.int (xc.toInt8.toInt32)), (.int xp), (.ref re)])) rfl rfl (hb hby own_d_method_3_11)
    refine own_Go.st st1 ?_
    have N1 := Fr.snoc X1 N0 gr
    have a1 := own_Ar.set ar W1
    have zz2 : n0 ≤ Array.size h1 := Nat.le_trans Z0 (Nat.le_of_eq (Wr.size W1).symm)
    have kk2 : Keep h0 h1 [re] := kk0.wr W1 (Or.inl (List.mem_of_getElem? (i := 0) rfl))
    show own_Go p e below _ (T1.setTop (mkF m 12 #[.val (.ref re), .val (.int xp), .val (.int xc)] []))
    have fin : own_Ar Z h1 re .byte 8 (own_by (es ++ own_p1 xc)) := by rw [own_p1_pos hc4]; exact a1.congr fun j _ => own_by_snoc _ _ j
    have kk := kk2
    refine own_Go.st (fun _ kt => XS.iloadN X1.here hx rfl (hb hby own_d_method_3_12) rfl kt) ?_
    show own_Go p e below _ (T1.setTop (mkF m 13 #[.val (.ref re), .val (.int xp), .val (.int xc)] [(.int xp)]))
    refine own_Go.st (fun _ kt => XS.iconst X1.here hx rfl (hb hby own_d_method_3_13) kt) ?_
    show own_Go p e below _ (T1.setTop (mkF m 14 #[.val (.ref re), .val (.int xp), .val (.int xc)] [(.int (1 : Int32)), (.int xp)]))
    refine own_Go.st (fun _ kt => XS.iadd X1.here hx rfl (hb hby own_d_method_3_14) rfl kt) ?_
    show own_Go p e below _ (T1.setTop (mkF m 15 #[.val (.ref re), .val (.int xp), .val (.int xc)] [(.int (xp + (1 : Int32)))]))
    rw [← e1] at fin kk
    exact own_retI X1 hx Bd.notSynchronized Bd.returns (hb hby own_d_method_3_15) (by decide) (by decide) ⟨_, rfl, N1, fin, by rw [own_p1_pos hc4, List.length_append]; exact own_inc hp (by omega), kk⟩
  · refine own_Go.st (fun _ kt => XS.icmpYes X0.here hx rfl (pc0 := 4) (pc' := 16) rfl (hb hby own_d_method_3_4) rfl (flt hc4).2.1 (by decide) (by decide) kt) ?_
    show own_Go p e below _ (s₁.setTop (mkF m 16 #[.val (.ref re), .val (.int xp), .val (.int xc)] []))
    refine own_Go.st (fun _ kt => XS.aloadN X0.here hx rfl (hb hby own_d_method_3_16) rfl rfl kt) ?_
    show own_Go p e below _ (s₁.setTop (mkF m 17 #[.val (.ref re), .val (.int xp), .val (.int xc)] [(.ref re)]))
    refine own_Go.st (fun _ kt => XS.iloadN X0.here hx rfl (hb hby own_d_method_3_17) rfl kt) ?_
    show own_Go p e below _ (s₁.setTop (mkF m 18 #[.val (.ref re), .val (.int xp), .val (.int xc)] [(.int xp), (.ref re)]))
    refine own_Go.st (fun _ kt => XS.sipush X0.here hx rfl (hb hby own_d_method_3_18) kt) ?_
    show own_Go p e below _ (s₁.setTop (mkF m 21 #[.val (.ref re), .val (.int xp), .val (.int xc)] [(.int (192 : Int32)), (.int xp), (.ref re)]))
    refine own_Go.st (fun _ kt => XS.iloadN X0.here hx rfl (hb hby own_d_method_3_21) rfl kt) ?_
    show own_Go p e below _ (s₁.setTop (mkF m 22 #[.val (.ref re), .val (.int xp), .val (.int xc)] [(.int xc), (.int (192 : Int32)), (.int xp), (.ref re)]))
    refine own_Go.st (fun _ kt => XS.bipush X0.here hx rfl (hb hby own_d_method_3_22) kt) ?_
    show own_Go p e below _ (s₁.setTop (mkF m 24 #[.val (.ref re), .val (.int xp), .val (.int xc)] [(.int (6 : Int32)), (.int xc), (.int (192 : Int32)), (.int xp), (.ref re)]))
    refine own_Go.st (fun _ kt => XS.ishr X0.here hx rfl (hb hby own_d_method_3_24) rfl kt) ?_
    show own_Go p e below _ (s₁.setTop (mkF m 25 #[.val (.ref re), .val (.int xp), .val (.int xc)] [(.int (xc >>> ((6 : Int32) &&& 31))), (.int (192 : Int32)), (.int xp), (.ref re)]))
    refine own_Go.st (fun _ kt => XS.ior X0.here hx rfl (hb hby own_d_method_3_25) rfl kt) ?_
    show own_Go p e below _ (s₁.setTop (mkF m 26 #[.val (.ref re), .val (.int xp), .val (.int xc)] [(.int ((192 : Int32) ||| (xc >>> ((6 : Int32) &&& 31)))), (.int xp), (.ref re)]))
    refine own_Go.st (fun _ kt => XS.i2b X0.here hx rfl (hb hby own_d_method_3_26) rfl kt) ?_
    show own_Go p e below _ (s₁.setTop (mkF m 27 #[.val (.ref re), .val (.int xp), .val (.int xc)] [(.int (((192 : Int32) ||| (xc >>> ((6 : Int32) &&& 31))).toInt8.toInt32)), (.int xp), (.ref re)]))
    obtain ⟨T3, h3, X3, e3, W3, st3⟩ := own_bast X0 hx hZ e0 ar hp (by omega) (own_nar_byte _) (g := (mkF m 27 #[.val (.ref re), .val (.int xp), .val (.int xc)] [(.int (((192 : Int32) ||| (xc >>> ((6 : Int32) &&& 31))).toInt8.toInt32)), (.int xp), (.ref re)])) rfl rfl (hb hby own_d_method_3_27)
    refine own_Go.st st3 ?_
    have N3 := Fr.snoc X3 N0 gr
    have a3 := own_Ar.set ar W3
    have zz4 : n0 ≤ Array.size h3 := Nat.le_trans Z0 (Nat.le_of_eq (Wr.size W3).symm)
    have kk4 : Keep h0 h3 [re] := kk0.wr W3 (Or.inl (List.mem_of_getElem? (i := 0) rfl))
    show own_Go p e below _ (T3.setTop (mkF m 28 #[.val (.ref re), .val (.int xp), .val (.int xc)] []))
    have na1 : own_Ar Z h3 re .byte 8 (own_by (es ++ [((192 : Int32) ||| (xc >>> ((6 : Int32) &&& 31))).toInt8])) := a3.congr fun j _ => own_by_snoc _ _ j
    have jl : (es ++ [((192 : Int32) ||| (xc >>> ((6 : Int32) &&& 31))).toInt8]).length = es.length + 1 := by rw [List.length_append]; rfl
    have j3 : (xp + (1 : Int32)).toInt = (((es ++ [((192 : Int32) ||| (xc >>> ((6 : Int32) &&& 31))).toInt8]).length : Nat) : Int) := by rw [jl]; exact own_inc hp (by omega)
    refine own_Go.st (fun _ kt => XS.aloadN X3.here hx rfl (hb hby own_d_method_3_28) rfl rfl kt) ?_
    show own_Go p e below _ (T3.setTop (mkF m 29 #[.val (.ref re), .val (.int xp), .val (.int xc)] [(.ref re)]))
    refine own_Go.st (fun _ kt => XS.iloadN X3.here hx rfl (hb hby own_d_method_3_29) rfl kt) ?_
    show own_Go p e below _ (T3.setTop (mkF m 30 #[.val (.ref re), .val (.int xp), .val (.int xc)] [(.int xp), (.ref re)]))
    refine own_Go.st (fun _ kt => XS.iconst X3.here hx rfl (hb hby own_d_method_3_30) kt) ?_
    show own_Go p e below _ (T3.setTop (mkF m 31 #[.val (.ref re), .val (.int xp), .val (.int xc)] [(.int (1 : Int32)), (.int xp), (.ref re)]))
    refine own_Go.st (fun _ kt => XS.iadd X3.here hx rfl (hb hby own_d_method_3_31) rfl kt) ?_
    show own_Go p e below _ (T3.setTop (mkF m 32 #[.val (.ref re), .val (.int xp), .val (.int xc)] [(.int (xp + (1 : Int32))), (.ref re)]))
    refine own_Go.st (fun _ kt => XS.sipush X3.here hx rfl (hb hby own_d_method_3_32) kt) ?_
    show own_Go p e below _ (T3.setTop (mkF m 35 #[.val (.ref re), .val (.int xp), .val (.int xc)] [(.int (128 : Int32)), (.int (xp + (1 : Int32))), (.ref re)]))
    refine own_Go.st (fun _ kt => XS.iloadN X3.here hx rfl (hb hby own_d_method_3_35) rfl kt) ?_
    show own_Go p e below _ (T3.setTop (mkF m 36 #[.val (.ref re), .val (.int xp), .val (.int xc)] [(.int xc), (.int (128 : Int32)), (.int (xp + (1 : Int32))), (.ref re)]))
    refine own_Go.st (fun _ kt => XS.bipush X3.here hx rfl (hb hby own_d_method_3_36) kt) ?_
    show own_Go p e below _ (T3.setTop (mkF m 38 #[.val (.ref re), .val (.int xp), .val (.int xc)] [(.int (63 : Int32)), (.int xc), (.int (128 : Int32)), (.int (xp + (1 : Int32))), (.ref re)]))
    refine own_Go.st (fun _ kt => XS.iand X3.here hx rfl (hb hby own_d_method_3_38) rfl kt) ?_
    show own_Go p e below _ (T3.setTop (mkF m 39 #[.val (.ref re), .val (.int xp), .val (.int xc)] [(.int (xc &&& (63 : Int32))), (.int (128 : Int32)), (.int (xp + (1 : Int32))), (.ref re)]))
    refine own_Go.st (fun _ kt => XS.ior X3.here hx rfl (hb hby own_d_method_3_39) rfl kt) ?_
    show own_Go p e below _ (T3.setTop (mkF m 40 #[.val (.ref re), .val (.int xp), .val (.int xc)] [(.int ((128 : Int32) ||| (xc &&& (63 : Int32)))), (.int (xp + (1 : Int32))), (.ref re)]))
    refine own_Go.st (fun _ kt => XS.i2b X3.here hx rfl (hb hby own_d_method_3_40) rfl kt) ?_
    show own_Go p e below _ (T3.setTop (mkF m 41 #[.val (.ref re), .val (.int xp), .val (.int xc)] [(.int (((128 : Int32) ||| (xc &&& (63 : Int32))).toInt8.toInt32)), (.int (xp + (1 : Int32))), (.ref re)]))
    obtain ⟨T5, h5, X5, e5, W5, st5⟩ := own_bast X3 hx hZ e3 na1 j3 (by omega) (own_nar_byte _) (g := (mkF m 41 #[.val (.ref re), .val (.int xp), .val (.int xc)] [(.int (((128 : Int32) ||| (xc &&& (63 : Int32))).toInt8.toInt32)), (.int (xp + (1 : Int32))), (.ref re)])) rfl rfl (hb hby own_d_method_3_41)
    refine own_Go.st st5 ?_
    have N5 := Fr.snoc X5 N3 gr
    have a5 := own_Ar.set na1 W5
    have zz6 : n0 ≤ Array.size h5 := Nat.le_trans zz4 (Nat.le_of_eq (Wr.size W5).symm)
    have kk6 : Keep h0 h5 [re] := kk4.wr W5 (Or.inl (List.mem_of_getElem? (i := 0) rfl))
    show own_Go p e below _ (T5.setTop (mkF m 42 #[.val (.ref re), .val (.int xp), .val (.int xc)] []))
    have fin : own_Ar Z h5 re .byte 8 (own_by (es ++ own_p1 xc)) := by rw [own_p1_neg hc4, ← List.append_assoc]; exact a5.congr fun j _ => own_by_snoc _ _ j
    have kk := kk6
    refine own_Go.st (fun _ kt => XS.iloadN X5.here hx rfl (hb hby own_d_method_3_42) rfl kt) ?_
    show own_Go p e below _ (T5.setTop (mkF m 43 #[.val (.ref re), .val (.int xp), .val (.int xc)] [(.int xp)]))
    refine own_Go.st (fun _ kt => XS.iconst X5.here hx rfl (hb hby own_d_method_3_43) kt) ?_
    show own_Go p e below _ (T5.setTop (mkF m 44 #[.val (.ref re), .val (.int xp), .val (.int xc)] [(.int (2 : Int32)), (.int xp)]))
    refine own_Go.st (fun _ kt => XS.iadd X5.here hx rfl (hb hby own_d_method_3_44) rfl kt) ?_
    show own_Go p e below _ (T5.setTop (mkF m 45 #[.val (.ref re), .val (.int xp), .val (.int xc)] [(.int (xp + (2 : Int32)))]))
    rw [← e5] at fin kk
    exact own_retI X5 hx Bd.notSynchronized Bd.returns (hb hby own_d_method_3_45) (by decide) (by decide) ⟨_, rfl, N5, fin, by rw [own_p1_neg hc4, List.length_append]; exact own_addn hp (j := 2) (by decide) (by omega), kk⟩
theorem own_ef39 (m : MethodId) (x0 : Addr) (x1 : Addr) (x2 : Int32) (x3 : Int32) : entryFrame m #[(.ref x0), (.ref x1), (.int x2), (.int x3)] 4 = mkF m 0 #[.val (.ref x0), .val (.ref x1), .val (.int x2), .val (.int x3)] [] := by first | (simp [entryFrame, mkF, argsToLocals, Value.category]; done) | rfl
theorem own_d_method_5_0 : decode method_5_code 0 = .ok (.iload_n 3, 1) := by decide +kernel
theorem own_d_method_5_1 : decode method_5_code 1 = .ok (.iload_n 2, 1) := by decide +kernel
theorem own_d_method_5_2 : decode method_5_code 2 = .ok (.if_icmp .ge 12, 3) := by decide +kernel
theorem own_d_method_5_5 : decode method_5_code 5 = .ok (.aload_n 0, 1) := by decide +kernel
theorem own_d_method_5_6 : decode method_5_code 6 = .ok (.iload_n 3, 1) := by decide +kernel
theorem own_d_method_5_7 : decode method_5_code 7 = .ok (.baload, 1) := by decide +kernel
theorem own_d_method_5_8 : decode method_5_code 8 = .ok (.aload_n 1, 1) := by decide +kernel
theorem own_d_method_5_9 : decode method_5_code 9 = .ok (.iload_n 3, 1) := by decide +kernel
theorem own_d_method_5_10 : decode method_5_code 10 = .ok (.baload, 1) := by decide +kernel
theorem own_d_method_5_11 : decode method_5_code 11 = .ok (.if_icmp .ne 7, 3) := by decide +kernel
theorem own_d_method_5_14 : decode method_5_code 14 = .ok (.iconst 1, 1) := by decide +kernel
theorem own_d_method_5_15 : decode method_5_code 15 = .ok (.goto 4, 3) := by decide +kernel
theorem own_d_method_5_19 : decode method_5_code 19 = .ok (.ireturn, 1) := by decide +kernel
def own_Q_own_at (Z : State) (rg re : Addr) (xl xi : Int32) (es : List Int8) (i : Nat) (h0 : Heap) (n0 : Nat) (v : Option Value) (h : Heap) (L : List Loc) : Prop := v = some (.int 1) ∧ Fr n0 L ∧ h = h0
set_option maxRecDepth 65536 in
set_option maxHeartbeats 40000000 in
theorem own_at (l : Launch) (Z : State) (a0 : Array Value) (hw : ∀ d ∈ tables_1, d.before a0 Z = true) (ws : List Jvm.Cond) (rg re : Addr) (xl xi : Int32) (es : List Int8) (i : Nat) (h0 : Heap) (n0 : Nat) (Z0 : n0 ≤ h0.size) (ag : own_Ar Z h0 rg .byte es.length (own_by es)) (ae : own_Ar Z h0 re .byte 8 (own_by es)) (hl : xl.toInt = (es.length : Int)) (hi : xi.toInt = (i : Int)) (hi8 : i < 8) :
    MetFree l (⟨"com/example/marshal/marshal/pipelines/LogLinesLinePinLaw", "at", "([B[BII)Z"⟩ : MethodName) (head1 (Jvm.Cond.code (⟨"com/example/marshal/marshal/pipelines/LogLinesLinePinLaw", "at", "([B[BII)Z"⟩ : MethodName) method_5_code 4 (some .boolean) :: ws) ({ frames := 0, cells := 0, slots := 0, locals := 0 } : Room)) (fun av_ U => av_ = #[(.ref rg), (.ref re), (.int xl), (.int xi)] ∧ Z.Warmed39 U.vm ∧ U.heap = h0) (fun _ _ _ _ _ => True) (fun _ U o U' => ∃ v L, o = .returned v ∧ own_Q_own_at Z rg re xl xi es i h0 n0 v U'.heap L ∧ FrameEnd U o U' L ({ frames := 0, cells := 0, slots := 0, locals := 0 } : Room).cells ({ frames := 0, cells := 0, slots := 0, locals := 0 } : Room).slots) := by
  refine MetFree.of_bodySF (plainFor_of_name own_pn7) hisR ?_
  intro p e s m args below meth c s₁ Bd hml0 hP hK
  obtain ⟨rfl, hZ, hh⟩ := hP
  have hx := Bd.exec
  have hby := Bd.bytes
  have hml : c.maxLocals = 4 := hml0
  have hown : s.vm.findClass "com/example/marshal/marshal/pipelines/LogLinesLinePinLaw" = some m.cls := findClass_of_methodNamed Bd.named
  have hnm := (name_of_methodNamed Bd.named Bd.method).1
  have X0 : Stand p l e ({ frames := 0, cells := 0, slots := 0, locals := 0 } : Room) s m #[(.ref rg), (.ref re), (.int xl), (.int xi)] below meth c s₁ [] 0 0 := Stand.of_body Bd
  have e0 : s₁.heap = h0 := by rw [← hh, Bd.state]; rfl
  have N0 := Fr.nil n0
  suffices hgo : own_Go p e below (fun o U' => ∃ v L, o = .returned v ∧ own_Q_own_at Z rg re xl xi es i h0 n0 v U'.heap L ∧ FrameEnd s o U' L ({ frames := 0, cells := 0, slots := 0, locals := 0 } : Room).cells ({ frames := 0, cells := 0, slots := 0, locals := 0 } : Room).slots) (s₁.setTop (mkF m 0 #[.val (.ref rg), .val (.ref re), .val (.int xl), .val (.int xi)] [])) by
    obtain ⟨s₂, o, h1, h2, h3, h4⟩ := hgo
    exact ⟨s₂, o, castTop (own_ef39 m rg re xl xi) h1, h2, h3, h4⟩
  show own_Go p e below _ (s₁.setTop (mkF m 0 #[.val (.ref rg), .val (.ref re), .val (.int xl), .val (.int xi)] []))
  refine own_Go.st (fun _ kt => XS.iloadN X0.here hx rfl (hb hby own_d_method_5_0) rfl kt) ?_
  show own_Go p e below _ (s₁.setTop (mkF m 1 #[.val (.ref rg), .val (.ref re), .val (.int xl), .val (.int xi)] [(.int xi)]))
  refine own_Go.st (fun _ kt => XS.iloadN X0.here hx rfl (hb hby own_d_method_5_1) rfl kt) ?_
  show own_Go p e below _ (s₁.setTop (mkF m 2 #[.val (.ref rg), .val (.ref re), .val (.int xl), .val (.int xi)] [(.int xl), (.int xi)]))
  by_cases hc2 : xi < xl
  · refine own_Go.st (fun _ kt => XS.icmpNo X0.here hx rfl (hb hby own_d_method_5_2) rfl (tlt hc2).2.1 kt) ?_
    show own_Go p e below _ (s₁.setTop (mkF m 5 #[.val (.ref rg), .val (.ref re), .val (.int xl), .val (.int xi)] []))
    refine own_Go.st (fun _ kt => XS.aloadN X0.here hx rfl (hb hby own_d_method_5_5) rfl rfl kt) ?_
    show own_Go p e below _ (s₁.setTop (mkF m 6 #[.val (.ref rg), .val (.ref re), .val (.int xl), .val (.int xi)] [(.ref rg)]))
    refine own_Go.st (fun _ kt => XS.iloadN X0.here hx rfl (hb hby own_d_method_5_6) rfl kt) ?_
    show own_Go p e below _ (s₁.setTop (mkF m 7 #[.val (.ref rg), .val (.ref re), .val (.int xl), .val (.int xi)] [(.int xi), (.ref rg)]))
    have hlt : i < es.length := by rw [Int32.lt_iff_toInt_lt, hi, hl] at hc2; omega
    refine own_Go.st (fun _ kt => own_bald X0 hx hZ e0 ag hi hlt (v := (.int ((es.getD i 0).toInt32))) rfl (g := (mkF m 7 #[.val (.ref rg), .val (.ref re), .val (.int xl), .val (.int xi)] [(.int xi), (.ref rg)])) rfl rfl (hb hby own_d_method_5_7) _ kt) ?_
    show own_Go p e below _ (s₁.setTop (mkF m 8 #[.val (.ref rg), .val (.ref re), .val (.int xl), .val (.int xi)] [(.int ((es.getD i 0).toInt32))]))
    refine own_Go.st (fun _ kt => XS.aloadN X0.here hx rfl (hb hby own_d_method_5_8) rfl rfl kt) ?_
    show own_Go p e below _ (s₁.setTop (mkF m 9 #[.val (.ref rg), .val (.ref re), .val (.int xl), .val (.int xi)] [(.ref re), (.int ((es.getD i 0).toInt32))]))
    refine own_Go.st (fun _ kt => XS.iloadN X0.here hx rfl (hb hby own_d_method_5_9) rfl kt) ?_
    show own_Go p e below _ (s₁.setTop (mkF m 10 #[.val (.ref rg), .val (.ref re), .val (.int xl), .val (.int xi)] [(.int xi), (.ref re), (.int ((es.getD i 0).toInt32))]))
    refine own_Go.st (fun _ kt => own_bald X0 hx hZ e0 ae hi hi8 (v := (.int ((es.getD i 0).toInt32))) rfl (g := (mkF m 10 #[.val (.ref rg), .val (.ref re), .val (.int xl), .val (.int xi)] [(.int xi), (.ref re), (.int ((es.getD i 0).toInt32))])) rfl rfl (hb hby own_d_method_5_10) _ kt) ?_
    show own_Go p e below _ (s₁.setTop (mkF m 11 #[.val (.ref rg), .val (.ref re), .val (.int xl), .val (.int xi)] [(.int ((es.getD i 0).toInt32)), (.int ((es.getD i 0).toInt32))]))
    refine own_Go.st (fun _ kt => XS.icmpNo X0.here hx rfl (hb hby own_d_method_5_11) rfl (teq rfl).2 kt) ?_
    show own_Go p e below _ (s₁.setTop (mkF m 14 #[.val (.ref rg), .val (.ref re), .val (.int xl), .val (.int xi)] []))
    refine own_Go.st (fun _ kt => XS.iconst X0.here hx rfl (hb hby own_d_method_5_14) kt) ?_
    show own_Go p e below _ (s₁.setTop (mkF m 15 #[.val (.ref rg), .val (.ref re), .val (.int xl), .val (.int xi)] [(.int (1 : Int32))]))
    refine own_Go.st (fun _ kt => XS.goto X0.here hx rfl (pc0 := 15) (pc' := 19) rfl (hb hby own_d_method_5_15) (by decide) (by decide) kt) ?_
    show own_Go p e below _ (s₁.setTop (mkF m 19 #[.val (.ref rg), .val (.ref re), .val (.int xl), .val (.int xi)] [(.int (1 : Int32))]))
    exact own_retZ X0 hx Bd.notSynchronized Bd.returns (Or.inr rfl) (hb hby own_d_method_5_19) (by decide) (by decide) ⟨rfl, N0, e0⟩
  · refine own_Go.st (fun _ kt => XS.icmpYes X0.here hx rfl (pc0 := 2) (pc' := 14) rfl (hb hby own_d_method_5_2) rfl (flt hc2).2.1 (by decide) (by decide) kt) ?_
    show own_Go p e below _ (s₁.setTop (mkF m 14 #[.val (.ref rg), .val (.ref re), .val (.int xl), .val (.int xi)] []))
    refine own_Go.st (fun _ kt => XS.iconst X0.here hx rfl (hb hby own_d_method_5_14) kt) ?_
    show own_Go p e below _ (s₁.setTop (mkF m 15 #[.val (.ref rg), .val (.ref re), .val (.int xl), .val (.int xi)] [(.int (1 : Int32))]))
    refine own_Go.st (fun _ kt => XS.goto X0.here hx rfl (pc0 := 15) (pc' := 19) rfl (hb hby own_d_method_5_15) (by decide) (by decide) kt) ?_
    show own_Go p e below _ (s₁.setTop (mkF m 19 #[.val (.ref rg), .val (.ref re), .val (.int xl), .val (.int xi)] [(.int (1 : Int32))]))
    exact own_retZ X0 hx Bd.notSynchronized Bd.returns (Or.inr rfl) (hb hby own_d_method_5_19) (by decide) (by decide) ⟨rfl, N0, e0⟩
theorem own_ef40 (m : MethodId) (x0 : Addr) (x1 : Addr) (x2 : Int32) : entryFrame m #[(.ref x0), (.ref x1), (.int x2)] 3 = mkF m 0 #[.val (.ref x0), .val (.ref x1), .val (.int x2)] [] := by first | (simp [entryFrame, mkF, argsToLocals, Value.category]; done) | rfl
theorem own_d_method_4_0 : decode method_4_code 0 = .ok (.aload_n 0, 1) := by decide +kernel
theorem own_d_method_4_1 : decode method_4_code 1 = .ok (.arraylength, 1) := by decide +kernel
theorem own_d_method_4_2 : decode method_4_code 2 = .ok (.iload_n 2, 1) := by decide +kernel
theorem own_d_method_4_3 : decode method_4_code 3 = .ok (.if_icmp .eq 5, 3) := by decide +kernel
theorem own_d_method_4_8 : decode method_4_code 8 = .ok (.aload_n 0, 1) := by decide +kernel
theorem own_d_method_4_9 : decode method_4_code 9 = .ok (.aload_n 1, 1) := by decide +kernel
theorem own_d_method_4_10 : decode method_4_code 10 = .ok (.iload_n 2, 1) := by decide +kernel
theorem own_d_method_4_11 : decode method_4_code 11 = .ok (.iconst 0, 1) := by decide +kernel
theorem own_d_method_4_12 : decode method_4_code 12 = .ok (.invokestatic 28, 3) := by decide +kernel
theorem own_pd29 : parseMethodDescriptor "([B[BII)Z" = some ⟨[(.array .byte), (.array .byte), .int, .int], some .boolean⟩ := by decide +kernel
theorem own_d_method_4_15 : decode method_4_code 15 = .ok (.ifCond .eq 79, 3) := by decide +kernel
theorem own_d_method_4_18 : decode method_4_code 18 = .ok (.aload_n 0, 1) := by decide +kernel
theorem own_d_method_4_19 : decode method_4_code 19 = .ok (.aload_n 1, 1) := by decide +kernel
theorem own_d_method_4_20 : decode method_4_code 20 = .ok (.iload_n 2, 1) := by decide +kernel
theorem own_d_method_4_21 : decode method_4_code 21 = .ok (.iconst 1, 1) := by decide +kernel
theorem own_d_method_4_22 : decode method_4_code 22 = .ok (.invokestatic 28, 3) := by decide +kernel
theorem own_d_method_4_25 : decode method_4_code 25 = .ok (.ifCond .eq 69, 3) := by decide +kernel
theorem own_d_method_4_28 : decode method_4_code 28 = .ok (.aload_n 0, 1) := by decide +kernel
theorem own_d_method_4_29 : decode method_4_code 29 = .ok (.aload_n 1, 1) := by decide +kernel
theorem own_d_method_4_30 : decode method_4_code 30 = .ok (.iload_n 2, 1) := by decide +kernel
theorem own_d_method_4_31 : decode method_4_code 31 = .ok (.iconst 2, 1) := by decide +kernel
theorem own_d_method_4_32 : decode method_4_code 32 = .ok (.invokestatic 28, 3) := by decide +kernel
theorem own_d_method_4_35 : decode method_4_code 35 = .ok (.ifCond .eq 59, 3) := by decide +kernel
theorem own_d_method_4_38 : decode method_4_code 38 = .ok (.aload_n 0, 1) := by decide +kernel
theorem own_d_method_4_39 : decode method_4_code 39 = .ok (.aload_n 1, 1) := by decide +kernel
theorem own_d_method_4_40 : decode method_4_code 40 = .ok (.iload_n 2, 1) := by decide +kernel
theorem own_d_method_4_41 : decode method_4_code 41 = .ok (.iconst 3, 1) := by decide +kernel
theorem own_d_method_4_42 : decode method_4_code 42 = .ok (.invokestatic 28, 3) := by decide +kernel
theorem own_d_method_4_45 : decode method_4_code 45 = .ok (.ifCond .eq 49, 3) := by decide +kernel
theorem own_d_method_4_48 : decode method_4_code 48 = .ok (.aload_n 0, 1) := by decide +kernel
theorem own_d_method_4_49 : decode method_4_code 49 = .ok (.aload_n 1, 1) := by decide +kernel
theorem own_d_method_4_50 : decode method_4_code 50 = .ok (.iload_n 2, 1) := by decide +kernel
theorem own_d_method_4_51 : decode method_4_code 51 = .ok (.iconst 4, 1) := by decide +kernel
theorem own_d_method_4_52 : decode method_4_code 52 = .ok (.invokestatic 28, 3) := by decide +kernel
theorem own_d_method_4_55 : decode method_4_code 55 = .ok (.ifCond .eq 39, 3) := by decide +kernel
theorem own_d_method_4_58 : decode method_4_code 58 = .ok (.aload_n 0, 1) := by decide +kernel
theorem own_d_method_4_59 : decode method_4_code 59 = .ok (.aload_n 1, 1) := by decide +kernel
theorem own_d_method_4_60 : decode method_4_code 60 = .ok (.iload_n 2, 1) := by decide +kernel
theorem own_d_method_4_61 : decode method_4_code 61 = .ok (.iconst 5, 1) := by decide +kernel
theorem own_d_method_4_62 : decode method_4_code 62 = .ok (.invokestatic 28, 3) := by decide +kernel
theorem own_d_method_4_65 : decode method_4_code 65 = .ok (.ifCond .eq 29, 3) := by decide +kernel
theorem own_d_method_4_68 : decode method_4_code 68 = .ok (.aload_n 0, 1) := by decide +kernel
theorem own_d_method_4_69 : decode method_4_code 69 = .ok (.aload_n 1, 1) := by decide +kernel
theorem own_d_method_4_70 : decode method_4_code 70 = .ok (.iload_n 2, 1) := by decide +kernel
theorem own_d_method_4_71 : decode method_4_code 71 = .ok (.bipush 6, 2) := by decide +kernel
theorem own_d_method_4_73 : decode method_4_code 73 = .ok (.invokestatic 28, 3) := by decide +kernel
theorem own_d_method_4_76 : decode method_4_code 76 = .ok (.ifCond .eq 18, 3) := by decide +kernel
theorem own_d_method_4_79 : decode method_4_code 79 = .ok (.aload_n 0, 1) := by decide +kernel
theorem own_d_method_4_80 : decode method_4_code 80 = .ok (.aload_n 1, 1) := by decide +kernel
theorem own_d_method_4_81 : decode method_4_code 81 = .ok (.iload_n 2, 1) := by decide +kernel
theorem own_d_method_4_82 : decode method_4_code 82 = .ok (.bipush 7, 2) := by decide +kernel
theorem own_d_method_4_84 : decode method_4_code 84 = .ok (.invokestatic 28, 3) := by decide +kernel
theorem own_d_method_4_87 : decode method_4_code 87 = .ok (.ifCond .eq 7, 3) := by decide +kernel
theorem own_d_method_4_90 : decode method_4_code 90 = .ok (.iconst 1, 1) := by decide +kernel
theorem own_d_method_4_91 : decode method_4_code 91 = .ok (.goto 4, 3) := by decide +kernel
theorem own_d_method_4_95 : decode method_4_code 95 = .ok (.ireturn, 1) := by decide +kernel
def own_Q_own_same (Z : State) (rg re : Addr) (xl : Int32) (es : List Int8) (h0 : Heap) (n0 : Nat) (v : Option Value) (h : Heap) (L : List Loc) : Prop := v = some (.int 1) ∧ Fr n0 L ∧ h = h0
set_option maxRecDepth 65536 in
set_option maxHeartbeats 40000000 in
theorem own_same (l : Launch) (Z : State) (a0 : Array Value) (hw : ∀ d ∈ tables_1, d.before a0 Z = true) (ws : List Jvm.Cond) (rg re : Addr) (xl : Int32) (es : List Int8) (h0 : Heap) (n0 : Nat) (Z0 : n0 ≤ h0.size) (ag : own_Ar Z h0 rg .byte es.length (own_by es)) (ae : own_Ar Z h0 re .byte 8 (own_by es)) (hl : xl.toInt = (es.length : Int)) :
    MetFree l (⟨"com/example/marshal/marshal/pipelines/LogLinesLinePinLaw", "same", "([B[BI)Z"⟩ : MethodName) (head1 (Jvm.Cond.code (⟨"com/example/marshal/marshal/pipelines/LogLinesLinePinLaw", "same", "([B[BI)Z"⟩ : MethodName) method_4_code 3 (some .boolean) :: ws) ({ frames := 1, cells := 0, slots := 0, locals := 15 } : Room)) (fun av_ U => av_ = #[(.ref rg), (.ref re), (.int xl)] ∧ Z.Warmed39 U.vm ∧ U.heap = h0) (fun _ _ _ _ _ => True) (fun _ U o U' => ∃ v L, o = .returned v ∧ own_Q_own_same Z rg re xl es h0 n0 v U'.heap L ∧ FrameEnd U o U' L ({ frames := 1, cells := 0, slots := 0, locals := 15 } : Room).cells ({ frames := 1, cells := 0, slots := 0, locals := 15 } : Room).slots) := by
  refine MetFree.of_bodySF (plainFor_of_name own_pn7) hisR ?_
  intro p e s m args below meth c s₁ Bd hml0 hP hK
  obtain ⟨rfl, hZ, hh⟩ := hP
  have hx := Bd.exec
  have hby := Bd.bytes
  have hml : c.maxLocals = 3 := hml0
  have hown : s.vm.findClass "com/example/marshal/marshal/pipelines/LogLinesLinePinLaw" = some m.cls := findClass_of_methodNamed Bd.named
  have hnm := (name_of_methodNamed Bd.named Bd.method).1
  have X0 : Stand p l e ({ frames := 1, cells := 0, slots := 0, locals := 15 } : Room) s m #[(.ref rg), (.ref re), (.int xl)] below meth c s₁ [] 0 0 := Stand.of_body Bd
  have e0 : s₁.heap = h0 := by rw [← hh, Bd.state]; rfl
  have N0 := Fr.nil n0
  suffices hgo : own_Go p e below (fun o U' => ∃ v L, o = .returned v ∧ own_Q_own_same Z rg re xl es h0 n0 v U'.heap L ∧ FrameEnd s o U' L ({ frames := 1, cells := 0, slots := 0, locals := 15 } : Room).cells ({ frames := 1, cells := 0, slots := 0, locals := 15 } : Room).slots) (s₁.setTop (mkF m 0 #[.val (.ref rg), .val (.ref re), .val (.int xl)] [])) by
    obtain ⟨s₂, o, h1, h2, h3, h4⟩ := hgo
    exact ⟨s₂, o, castTop (own_ef40 m rg re xl) h1, h2, h3, h4⟩
  show own_Go p e below _ (s₁.setTop (mkF m 0 #[.val (.ref rg), .val (.ref re), .val (.int xl)] []))
  refine own_Go.st (fun _ kt => XS.aloadN X0.here hx rfl (hb hby own_d_method_4_0) rfl rfl kt) ?_
  show own_Go p e below _ (s₁.setTop (mkF m 1 #[.val (.ref rg), .val (.ref re), .val (.int xl)] [(.ref rg)]))
  refine own_Go.st (fun _ kt => own_alen X0 hx hZ e0 ag (z := xl) hl (g := (mkF m 1 #[.val (.ref rg), .val (.ref re), .val (.int xl)] [(.ref rg)])) rfl rfl (hb hby own_d_method_4_1) _ kt) ?_
  show own_Go p e below _ (s₁.setTop (mkF m 2 #[.val (.ref rg), .val (.ref re), .val (.int xl)] [(.int xl)]))
  refine own_Go.st (fun _ kt => XS.iloadN X0.here hx rfl (hb hby own_d_method_4_2) rfl kt) ?_
  show own_Go p e below _ (s₁.setTop (mkF m 3 #[.val (.ref rg), .val (.ref re), .val (.int xl)] [(.int xl), (.int xl)]))
  refine own_Go.st (fun _ kt => XS.icmpYes X0.here hx rfl (pc0 := 3) (pc' := 8) rfl (hb hby own_d_method_4_3) rfl (teq rfl).1 (by decide) (by decide) kt) ?_
  show own_Go p e below _ (s₁.setTop (mkF m 8 #[.val (.ref rg), .val (.ref re), .val (.int xl)] []))
  refine own_Go.st (fun _ kt => XS.aloadN X0.here hx rfl (hb hby own_d_method_4_8) rfl rfl kt) ?_
  show own_Go p e below _ (s₁.setTop (mkF m 9 #[.val (.ref rg), .val (.ref re), .val (.int xl)] [(.ref rg)]))
  refine own_Go.st (fun _ kt => XS.aloadN X0.here hx rfl (hb hby own_d_method_4_9) rfl rfl kt) ?_
  show own_Go p e below _ (s₁.setTop (mkF m 10 #[.val (.ref rg), .val (.ref re), .val (.int xl)] [(.ref re), (.ref rg)]))
  refine own_Go.st (fun _ kt => XS.iloadN X0.here hx rfl (hb hby own_d_method_4_10) rfl kt) ?_
  show own_Go p e below _ (s₁.setTop (mkF m 11 #[.val (.ref rg), .val (.ref re), .val (.int xl)] [(.int xl), (.ref re), (.ref rg)]))
  refine own_Go.st (fun _ kt => XS.iconst X0.here hx rfl (hb hby own_d_method_4_11) kt) ?_
  show own_Go p e below _ (s₁.setTop (mkF m 12 #[.val (.ref rg), .val (.ref re), .val (.int xl)] [(.int (0 : Int32)), (.int xl), (.ref re), (.ref rg)]))
  obtain ⟨_, _, ⟨T1, L1, k1, n1⟩, -, X1, ⟨Lc1, hQ1, l1, y1, z1⟩, st1⟩ := Jvm.LawKit.callS X0 hx (y := (⟨"com/example/marshal/marshal/pipelines/LogLinesLinePinLaw", "at", "([B[BII)Z"⟩ : MethodName)) hown (mvT hZ (own_w hw 173 rfl)) (mvT hZ (own_w hw 174 rfl)) (mvT hZ (own_w hw 171 rfl)) (mvT hZ (own_w hw 175 rfl)) (by decide) (backOf (W := 0) (own_at l Z a0 hw [] rg re xl (0 : Int32) es 0 h0 n0 Z0 ag ae hl (by decide) (by decide)) hZ (own_w hw 175 rfl) (own_w hw 171 rfl) (by decide) (by decide)) (g := (mkF m 12 #[.val (.ref rg), .val (.ref re), .val (.int xl)] [(.int (0 : Int32)), (.int xl), (.ref re), (.ref rg)])) rfl (by rw [hml]; rfl) (argsL := [(.ref rg), (.ref re), (.int xl), (.int (0 : Int32))]) (rest := []) (lenOf own_pd29 rfl) rfl (by show 2 * 0 + _ ≤ _; exact Nat.le_of_eq rfl) (hb hby own_d_method_4_12) (fun _ _ => ⟨rfl, e0, (by decide : 0 + 0 ≤ _), (by decide : 0 + 0 ≤ _)⟩)
  dsimp only [Pt.U, Pt.locs, Pt.cells, Pt.slots] at X1 l1 y1 z1 st1 hQ1
  subst l1 y1 z1
  obtain ⟨rfl, N1q, hh1⟩ := hQ1
  have N1 := Fr.app N0 N1q
  refine own_Go.st (fun _ kt => st1 _ kt) ?_
  show own_Go p e below _ (T1.setTop (mkF m 15 #[.val (.ref rg), .val (.ref re), .val (.int xl)] [(.int (1 : Int32))]))
  refine own_Go.st (fun _ kt => XS.ifNo X1.here hx rfl (hb hby own_d_method_4_15) rfl ((if0 _ _).trans (feq (by decide)).1) kt) ?_
  show own_Go p e below _ (T1.setTop (mkF m 18 #[.val (.ref rg), .val (.ref re), .val (.int xl)] []))
  refine own_Go.st (fun _ kt => XS.aloadN X1.here hx rfl (hb hby own_d_method_4_18) rfl rfl kt) ?_
  show own_Go p e below _ (T1.setTop (mkF m 19 #[.val (.ref rg), .val (.ref re), .val (.int xl)] [(.ref rg)]))
  refine own_Go.st (fun _ kt => XS.aloadN X1.here hx rfl (hb hby own_d_method_4_19) rfl rfl kt) ?_
  show own_Go p e below _ (T1.setTop (mkF m 20 #[.val (.ref rg), .val (.ref re), .val (.int xl)] [(.ref re), (.ref rg)]))
  refine own_Go.st (fun _ kt => XS.iloadN X1.here hx rfl (hb hby own_d_method_4_20) rfl kt) ?_
  show own_Go p e below _ (T1.setTop (mkF m 21 #[.val (.ref rg), .val (.ref re), .val (.int xl)] [(.int xl), (.ref re), (.ref rg)]))
  refine own_Go.st (fun _ kt => XS.iconst X1.here hx rfl (hb hby own_d_method_4_21) kt) ?_
  show own_Go p e below _ (T1.setTop (mkF m 22 #[.val (.ref rg), .val (.ref re), .val (.int xl)] [(.int (1 : Int32)), (.int xl), (.ref re), (.ref rg)]))
  obtain ⟨_, _, ⟨T2, L2, k2, n2⟩, -, X2, ⟨Lc2, hQ2, l2, y2, z2⟩, st2⟩ := Jvm.LawKit.callS X1 hx (y := (⟨"com/example/marshal/marshal/pipelines/LogLinesLinePinLaw", "at", "([B[BII)Z"⟩ : MethodName)) hown (mvT hZ (own_w hw 173 rfl)) (mvT hZ (own_w hw 174 rfl)) (mvT hZ (own_w hw 171 rfl)) (mvT hZ (own_w hw 175 rfl)) (by decide) (backOf (W := 0) (own_at l Z a0 hw [] rg re xl (1 : Int32) es 1 h0 n0 Z0 ag ae hl (by decide) (by decide)) hZ (own_w hw 175 rfl) (own_w hw 171 rfl) (by decide) (by decide)) (g := (mkF m 22 #[.val (.ref rg), .val (.ref re), .val (.int xl)] [(.int (1 : Int32)), (.int xl), (.ref re), (.ref rg)])) rfl (by rw [hml]; rfl) (argsL := [(.ref rg), (.ref re), (.int xl), (.int (1 : Int32))]) (rest := []) (lenOf own_pd29 rfl) rfl (by show 2 * 0 + _ ≤ _; exact Nat.le_of_eq rfl) (hb hby own_d_method_4_22) (fun _ _ => ⟨rfl, hh1, (by decide : 0 + 0 ≤ _), (by decide : 0 + 0 ≤ _)⟩)
  dsimp only [Pt.U, Pt.locs, Pt.cells, Pt.slots] at X2 l2 y2 z2 st2 hQ2
  subst l2 y2 z2
  obtain ⟨rfl, N2q, hh2⟩ := hQ2
  have N2 := Fr.app N1 N2q
  refine own_Go.st (fun _ kt => st2 _ kt) ?_
  show own_Go p e below _ (T2.setTop (mkF m 25 #[.val (.ref rg), .val (.ref re), .val (.int xl)] [(.int (1 : Int32))]))
  refine own_Go.st (fun _ kt => XS.ifNo X2.here hx rfl (hb hby own_d_method_4_25) rfl ((if0 _ _).trans (feq (by decide)).1) kt) ?_
  show own_Go p e below _ (T2.setTop (mkF m 28 #[.val (.ref rg), .val (.ref re), .val (.int xl)] []))
  refine own_Go.st (fun _ kt => XS.aloadN X2.here hx rfl (hb hby own_d_method_4_28) rfl rfl kt) ?_
  show own_Go p e below _ (T2.setTop (mkF m 29 #[.val (.ref rg), .val (.ref re), .val (.int xl)] [(.ref rg)]))
  refine own_Go.st (fun _ kt => XS.aloadN X2.here hx rfl (hb hby own_d_method_4_29) rfl rfl kt) ?_
  show own_Go p e below _ (T2.setTop (mkF m 30 #[.val (.ref rg), .val (.ref re), .val (.int xl)] [(.ref re), (.ref rg)]))
  refine own_Go.st (fun _ kt => XS.iloadN X2.here hx rfl (hb hby own_d_method_4_30) rfl kt) ?_
  show own_Go p e below _ (T2.setTop (mkF m 31 #[.val (.ref rg), .val (.ref re), .val (.int xl)] [(.int xl), (.ref re), (.ref rg)]))
  refine own_Go.st (fun _ kt => XS.iconst X2.here hx rfl (hb hby own_d_method_4_31) kt) ?_
  show own_Go p e below _ (T2.setTop (mkF m 32 #[.val (.ref rg), .val (.ref re), .val (.int xl)] [(.int (2 : Int32)), (.int xl), (.ref re), (.ref rg)]))
  obtain ⟨_, _, ⟨T3, L3, k3, n3⟩, -, X3, ⟨Lc3, hQ3, l3, y3, z3⟩, st3⟩ := Jvm.LawKit.callS X2 hx (y := (⟨"com/example/marshal/marshal/pipelines/LogLinesLinePinLaw", "at", "([B[BII)Z"⟩ : MethodName)) hown (mvT hZ (own_w hw 173 rfl)) (mvT hZ (own_w hw 174 rfl)) (mvT hZ (own_w hw 171 rfl)) (mvT hZ (own_w hw 175 rfl)) (by decide) (backOf (W := 0) (own_at l Z a0 hw [] rg re xl (2 : Int32) es 2 h0 n0 Z0 ag ae hl (by decide) (by decide)) hZ (own_w hw 175 rfl) (own_w hw 171 rfl) (by decide) (by decide)) (g := (mkF m 32 #[.val (.ref rg), .val (.ref re), .val (.int xl)] [(.int (2 : Int32)), (.int xl), (.ref re), (.ref rg)])) rfl (by rw [hml]; rfl) (argsL := [(.ref rg), (.ref re), (.int xl), (.int (2 : Int32))]) (rest := []) (lenOf own_pd29 rfl) rfl (by show 2 * 0 + _ ≤ _; exact Nat.le_of_eq rfl) (hb hby own_d_method_4_32) (fun _ _ => ⟨rfl, hh2, (by decide : 0 + 0 ≤ _), (by decide : 0 + 0 ≤ _)⟩)
  dsimp only [Pt.U, Pt.locs, Pt.cells, Pt.slots] at X3 l3 y3 z3 st3 hQ3
  subst l3 y3 z3
  obtain ⟨rfl, N3q, hh3⟩ := hQ3
  have N3 := Fr.app N2 N3q
  refine own_Go.st (fun _ kt => st3 _ kt) ?_
  show own_Go p e below _ (T3.setTop (mkF m 35 #[.val (.ref rg), .val (.ref re), .val (.int xl)] [(.int (1 : Int32))]))
  refine own_Go.st (fun _ kt => XS.ifNo X3.here hx rfl (hb hby own_d_method_4_35) rfl ((if0 _ _).trans (feq (by decide)).1) kt) ?_
  show own_Go p e below _ (T3.setTop (mkF m 38 #[.val (.ref rg), .val (.ref re), .val (.int xl)] []))
  refine own_Go.st (fun _ kt => XS.aloadN X3.here hx rfl (hb hby own_d_method_4_38) rfl rfl kt) ?_
  show own_Go p e below _ (T3.setTop (mkF m 39 #[.val (.ref rg), .val (.ref re), .val (.int xl)] [(.ref rg)]))
  refine own_Go.st (fun _ kt => XS.aloadN X3.here hx rfl (hb hby own_d_method_4_39) rfl rfl kt) ?_
  show own_Go p e below _ (T3.setTop (mkF m 40 #[.val (.ref rg), .val (.ref re), .val (.int xl)] [(.ref re), (.ref rg)]))
  refine own_Go.st (fun _ kt => XS.iloadN X3.here hx rfl (hb hby own_d_method_4_40) rfl kt) ?_
  show own_Go p e below _ (T3.setTop (mkF m 41 #[.val (.ref rg), .val (.ref re), .val (.int xl)] [(.int xl), (.ref re), (.ref rg)]))
  refine own_Go.st (fun _ kt => XS.iconst X3.here hx rfl (hb hby own_d_method_4_41) kt) ?_
  show own_Go p e below _ (T3.setTop (mkF m 42 #[.val (.ref rg), .val (.ref re), .val (.int xl)] [(.int (3 : Int32)), (.int xl), (.ref re), (.ref rg)]))
  obtain ⟨_, _, ⟨T4, L4, k4, n4⟩, -, X4, ⟨Lc4, hQ4, l4, y4, z4⟩, st4⟩ := Jvm.LawKit.callS X3 hx (y := (⟨"com/example/marshal/marshal/pipelines/LogLinesLinePinLaw", "at", "([B[BII)Z"⟩ : MethodName)) hown (mvT hZ (own_w hw 173 rfl)) (mvT hZ (own_w hw 174 rfl)) (mvT hZ (own_w hw 171 rfl)) (mvT hZ (own_w hw 175 rfl)) (by decide) (backOf (W := 0) (own_at l Z a0 hw [] rg re xl (3 : Int32) es 3 h0 n0 Z0 ag ae hl (by decide) (by decide)) hZ (own_w hw 175 rfl) (own_w hw 171 rfl) (by decide) (by decide)) (g := (mkF m 42 #[.val (.ref rg), .val (.ref re), .val (.int xl)] [(.int (3 : Int32)), (.int xl), (.ref re), (.ref rg)])) rfl (by rw [hml]; rfl) (argsL := [(.ref rg), (.ref re), (.int xl), (.int (3 : Int32))]) (rest := []) (lenOf own_pd29 rfl) rfl (by show 2 * 0 + _ ≤ _; exact Nat.le_of_eq rfl) (hb hby own_d_method_4_42) (fun _ _ => ⟨rfl, hh3, (by decide : 0 + 0 ≤ _), (by decide : 0 + 0 ≤ _)⟩)
  dsimp only [Pt.U, Pt.locs, Pt.cells, Pt.slots] at X4 l4 y4 z4 st4 hQ4
  subst l4 y4 z4
  obtain ⟨rfl, N4q, hh4⟩ := hQ4
  have N4 := Fr.app N3 N4q
  refine own_Go.st (fun _ kt => st4 _ kt) ?_
  show own_Go p e below _ (T4.setTop (mkF m 45 #[.val (.ref rg), .val (.ref re), .val (.int xl)] [(.int (1 : Int32))]))
  refine own_Go.st (fun _ kt => XS.ifNo X4.here hx rfl (hb hby own_d_method_4_45) rfl ((if0 _ _).trans (feq (by decide)).1) kt) ?_
  show own_Go p e below _ (T4.setTop (mkF m 48 #[.val (.ref rg), .val (.ref re), .val (.int xl)] []))
  refine own_Go.st (fun _ kt => XS.aloadN X4.here hx rfl (hb hby own_d_method_4_48) rfl rfl kt) ?_
  show own_Go p e below _ (T4.setTop (mkF m 49 #[.val (.ref rg), .val (.ref re), .val (.int xl)] [(.ref rg)]))
  refine own_Go.st (fun _ kt => XS.aloadN X4.here hx rfl (hb hby own_d_method_4_49) rfl rfl kt) ?_
  show own_Go p e below _ (T4.setTop (mkF m 50 #[.val (.ref rg), .val (.ref re), .val (.int xl)] [(.ref re), (.ref rg)]))
  refine own_Go.st (fun _ kt => XS.iloadN X4.here hx rfl (hb hby own_d_method_4_50) rfl kt) ?_
  show own_Go p e below _ (T4.setTop (mkF m 51 #[.val (.ref rg), .val (.ref re), .val (.int xl)] [(.int xl), (.ref re), (.ref rg)]))
  refine own_Go.st (fun _ kt => XS.iconst X4.here hx rfl (hb hby own_d_method_4_51) kt) ?_
  show own_Go p e below _ (T4.setTop (mkF m 52 #[.val (.ref rg), .val (.ref re), .val (.int xl)] [(.int (4 : Int32)), (.int xl), (.ref re), (.ref rg)]))
  obtain ⟨_, _, ⟨T5, L5, k5, n5⟩, -, X5, ⟨Lc5, hQ5, l5, y5, z5⟩, st5⟩ := Jvm.LawKit.callS X4 hx (y := (⟨"com/example/marshal/marshal/pipelines/LogLinesLinePinLaw", "at", "([B[BII)Z"⟩ : MethodName)) hown (mvT hZ (own_w hw 173 rfl)) (mvT hZ (own_w hw 174 rfl)) (mvT hZ (own_w hw 171 rfl)) (mvT hZ (own_w hw 175 rfl)) (by decide) (backOf (W := 0) (own_at l Z a0 hw [] rg re xl (4 : Int32) es 4 h0 n0 Z0 ag ae hl (by decide) (by decide)) hZ (own_w hw 175 rfl) (own_w hw 171 rfl) (by decide) (by decide)) (g := (mkF m 52 #[.val (.ref rg), .val (.ref re), .val (.int xl)] [(.int (4 : Int32)), (.int xl), (.ref re), (.ref rg)])) rfl (by rw [hml]; rfl) (argsL := [(.ref rg), (.ref re), (.int xl), (.int (4 : Int32))]) (rest := []) (lenOf own_pd29 rfl) rfl (by show 2 * 0 + _ ≤ _; exact Nat.le_of_eq rfl) (hb hby own_d_method_4_52) (fun _ _ => ⟨rfl, hh4, (by decide : 0 + 0 ≤ _), (by decide : 0 + 0 ≤ _)⟩)
  dsimp only [Pt.U, Pt.locs, Pt.cells, Pt.slots] at X5 l5 y5 z5 st5 hQ5
  subst l5 y5 z5
  obtain ⟨rfl, N5q, hh5⟩ := hQ5
  have N5 := Fr.app N4 N5q
  refine own_Go.st (fun _ kt => st5 _ kt) ?_
  show own_Go p e below _ (T5.setTop (mkF m 55 #[.val (.ref rg), .val (.ref re), .val (.int xl)] [(.int (1 : Int32))]))
  refine own_Go.st (fun _ kt => XS.ifNo X5.here hx rfl (hb hby own_d_method_4_55) rfl ((if0 _ _).trans (feq (by decide)).1) kt) ?_
  show own_Go p e below _ (T5.setTop (mkF m 58 #[.val (.ref rg), .val (.ref re), .val (.int xl)] []))
  refine own_Go.st (fun _ kt => XS.aloadN X5.here hx rfl (hb hby own_d_method_4_58) rfl rfl kt) ?_
  show own_Go p e below _ (T5.setTop (mkF m 59 #[.val (.ref rg), .val (.ref re), .val (.int xl)] [(.ref rg)]))
  refine own_Go.st (fun _ kt => XS.aloadN X5.here hx rfl (hb hby own_d_method_4_59) rfl rfl kt) ?_
  show own_Go p e below _ (T5.setTop (mkF m 60 #[.val (.ref rg), .val (.ref re), .val (.int xl)] [(.ref re), (.ref rg)]))
  refine own_Go.st (fun _ kt => XS.iloadN X5.here hx rfl (hb hby own_d_method_4_60) rfl kt) ?_
  show own_Go p e below _ (T5.setTop (mkF m 61 #[.val (.ref rg), .val (.ref re), .val (.int xl)] [(.int xl), (.ref re), (.ref rg)]))
  refine own_Go.st (fun _ kt => XS.iconst X5.here hx rfl (hb hby own_d_method_4_61) kt) ?_
  show own_Go p e below _ (T5.setTop (mkF m 62 #[.val (.ref rg), .val (.ref re), .val (.int xl)] [(.int (5 : Int32)), (.int xl), (.ref re), (.ref rg)]))
  obtain ⟨_, _, ⟨T6, L6, k6, n6⟩, -, X6, ⟨Lc6, hQ6, l6, y6, z6⟩, st6⟩ := Jvm.LawKit.callS X5 hx (y := (⟨"com/example/marshal/marshal/pipelines/LogLinesLinePinLaw", "at", "([B[BII)Z"⟩ : MethodName)) hown (mvT hZ (own_w hw 173 rfl)) (mvT hZ (own_w hw 174 rfl)) (mvT hZ (own_w hw 171 rfl)) (mvT hZ (own_w hw 175 rfl)) (by decide) (backOf (W := 0) (own_at l Z a0 hw [] rg re xl (5 : Int32) es 5 h0 n0 Z0 ag ae hl (by decide) (by decide)) hZ (own_w hw 175 rfl) (own_w hw 171 rfl) (by decide) (by decide)) (g := (mkF m 62 #[.val (.ref rg), .val (.ref re), .val (.int xl)] [(.int (5 : Int32)), (.int xl), (.ref re), (.ref rg)])) rfl (by rw [hml]; rfl) (argsL := [(.ref rg), (.ref re), (.int xl), (.int (5 : Int32))]) (rest := []) (lenOf own_pd29 rfl) rfl (by show 2 * 0 + _ ≤ _; exact Nat.le_of_eq rfl) (hb hby own_d_method_4_62) (fun _ _ => ⟨rfl, hh5, (by decide : 0 + 0 ≤ _), (by decide : 0 + 0 ≤ _)⟩)
  dsimp only [Pt.U, Pt.locs, Pt.cells, Pt.slots] at X6 l6 y6 z6 st6 hQ6
  subst l6 y6 z6
  obtain ⟨rfl, N6q, hh6⟩ := hQ6
  have N6 := Fr.app N5 N6q
  refine own_Go.st (fun _ kt => st6 _ kt) ?_
  show own_Go p e below _ (T6.setTop (mkF m 65 #[.val (.ref rg), .val (.ref re), .val (.int xl)] [(.int (1 : Int32))]))
  refine own_Go.st (fun _ kt => XS.ifNo X6.here hx rfl (hb hby own_d_method_4_65) rfl ((if0 _ _).trans (feq (by decide)).1) kt) ?_
  show own_Go p e below _ (T6.setTop (mkF m 68 #[.val (.ref rg), .val (.ref re), .val (.int xl)] []))
  refine own_Go.st (fun _ kt => XS.aloadN X6.here hx rfl (hb hby own_d_method_4_68) rfl rfl kt) ?_
  show own_Go p e below _ (T6.setTop (mkF m 69 #[.val (.ref rg), .val (.ref re), .val (.int xl)] [(.ref rg)]))
  refine own_Go.st (fun _ kt => XS.aloadN X6.here hx rfl (hb hby own_d_method_4_69) rfl rfl kt) ?_
  show own_Go p e below _ (T6.setTop (mkF m 70 #[.val (.ref rg), .val (.ref re), .val (.int xl)] [(.ref re), (.ref rg)]))
  refine own_Go.st (fun _ kt => XS.iloadN X6.here hx rfl (hb hby own_d_method_4_70) rfl kt) ?_
  show own_Go p e below _ (T6.setTop (mkF m 71 #[.val (.ref rg), .val (.ref re), .val (.int xl)] [(.int xl), (.ref re), (.ref rg)]))
  refine own_Go.st (fun _ kt => XS.bipush X6.here hx rfl (hb hby own_d_method_4_71) kt) ?_
  show own_Go p e below _ (T6.setTop (mkF m 73 #[.val (.ref rg), .val (.ref re), .val (.int xl)] [(.int (6 : Int32)), (.int xl), (.ref re), (.ref rg)]))
  obtain ⟨_, _, ⟨T7, L7, k7, n7⟩, -, X7, ⟨Lc7, hQ7, l7, y7, z7⟩, st7⟩ := Jvm.LawKit.callS X6 hx (y := (⟨"com/example/marshal/marshal/pipelines/LogLinesLinePinLaw", "at", "([B[BII)Z"⟩ : MethodName)) hown (mvT hZ (own_w hw 173 rfl)) (mvT hZ (own_w hw 174 rfl)) (mvT hZ (own_w hw 171 rfl)) (mvT hZ (own_w hw 175 rfl)) (by decide) (backOf (W := 0) (own_at l Z a0 hw [] rg re xl (6 : Int32) es 6 h0 n0 Z0 ag ae hl (by decide) (by decide)) hZ (own_w hw 175 rfl) (own_w hw 171 rfl) (by decide) (by decide)) (g := (mkF m 73 #[.val (.ref rg), .val (.ref re), .val (.int xl)] [(.int (6 : Int32)), (.int xl), (.ref re), (.ref rg)])) rfl (by rw [hml]; rfl) (argsL := [(.ref rg), (.ref re), (.int xl), (.int (6 : Int32))]) (rest := []) (lenOf own_pd29 rfl) rfl (by show 2 * 0 + _ ≤ _; exact Nat.le_of_eq rfl) (hb hby own_d_method_4_73) (fun _ _ => ⟨rfl, hh6, (by decide : 0 + 0 ≤ _), (by decide : 0 + 0 ≤ _)⟩)
  dsimp only [Pt.U, Pt.locs, Pt.cells, Pt.slots] at X7 l7 y7 z7 st7 hQ7
  subst l7 y7 z7
  obtain ⟨rfl, N7q, hh7⟩ := hQ7
  have N7 := Fr.app N6 N7q
  refine own_Go.st (fun _ kt => st7 _ kt) ?_
  show own_Go p e below _ (T7.setTop (mkF m 76 #[.val (.ref rg), .val (.ref re), .val (.int xl)] [(.int (1 : Int32))]))
  refine own_Go.st (fun _ kt => XS.ifNo X7.here hx rfl (hb hby own_d_method_4_76) rfl ((if0 _ _).trans (feq (by decide)).1) kt) ?_
  show own_Go p e below _ (T7.setTop (mkF m 79 #[.val (.ref rg), .val (.ref re), .val (.int xl)] []))
  refine own_Go.st (fun _ kt => XS.aloadN X7.here hx rfl (hb hby own_d_method_4_79) rfl rfl kt) ?_
  show own_Go p e below _ (T7.setTop (mkF m 80 #[.val (.ref rg), .val (.ref re), .val (.int xl)] [(.ref rg)]))
  refine own_Go.st (fun _ kt => XS.aloadN X7.here hx rfl (hb hby own_d_method_4_80) rfl rfl kt) ?_
  show own_Go p e below _ (T7.setTop (mkF m 81 #[.val (.ref rg), .val (.ref re), .val (.int xl)] [(.ref re), (.ref rg)]))
  refine own_Go.st (fun _ kt => XS.iloadN X7.here hx rfl (hb hby own_d_method_4_81) rfl kt) ?_
  show own_Go p e below _ (T7.setTop (mkF m 82 #[.val (.ref rg), .val (.ref re), .val (.int xl)] [(.int xl), (.ref re), (.ref rg)]))
  refine own_Go.st (fun _ kt => XS.bipush X7.here hx rfl (hb hby own_d_method_4_82) kt) ?_
  show own_Go p e below _ (T7.setTop (mkF m 84 #[.val (.ref rg), .val (.ref re), .val (.int xl)] [(.int (7 : Int32)), (.int xl), (.ref re), (.ref rg)]))
  obtain ⟨_, _, ⟨T8, L8, k8, n8⟩, -, X8, ⟨Lc8, hQ8, l8, y8, z8⟩, st8⟩ := Jvm.LawKit.callS X7 hx (y := (⟨"com/example/marshal/marshal/pipelines/LogLinesLinePinLaw", "at", "([B[BII)Z"⟩ : MethodName)) hown (mvT hZ (own_w hw 173 rfl)) (mvT hZ (own_w hw 174 rfl)) (mvT hZ (own_w hw 171 rfl)) (mvT hZ (own_w hw 175 rfl)) (by decide) (backOf (W := 0) (own_at l Z a0 hw [] rg re xl (7 : Int32) es 7 h0 n0 Z0 ag ae hl (by decide) (by decide)) hZ (own_w hw 175 rfl) (own_w hw 171 rfl) (by decide) (by decide)) (g := (mkF m 84 #[.val (.ref rg), .val (.ref re), .val (.int xl)] [(.int (7 : Int32)), (.int xl), (.ref re), (.ref rg)])) rfl (by rw [hml]; rfl) (argsL := [(.ref rg), (.ref re), (.int xl), (.int (7 : Int32))]) (rest := []) (lenOf own_pd29 rfl) rfl (by show 2 * 0 + _ ≤ _; exact Nat.le_of_eq rfl) (hb hby own_d_method_4_84) (fun _ _ => ⟨rfl, hh7, (by decide : 0 + 0 ≤ _), (by decide : 0 + 0 ≤ _)⟩)
  dsimp only [Pt.U, Pt.locs, Pt.cells, Pt.slots] at X8 l8 y8 z8 st8 hQ8
  subst l8 y8 z8
  obtain ⟨rfl, N8q, hh8⟩ := hQ8
  have N8 := Fr.app N7 N8q
  refine own_Go.st (fun _ kt => st8 _ kt) ?_
  show own_Go p e below _ (T8.setTop (mkF m 87 #[.val (.ref rg), .val (.ref re), .val (.int xl)] [(.int (1 : Int32))]))
  refine own_Go.st (fun _ kt => XS.ifNo X8.here hx rfl (hb hby own_d_method_4_87) rfl ((if0 _ _).trans (feq (by decide)).1) kt) ?_
  show own_Go p e below _ (T8.setTop (mkF m 90 #[.val (.ref rg), .val (.ref re), .val (.int xl)] []))
  refine own_Go.st (fun _ kt => XS.iconst X8.here hx rfl (hb hby own_d_method_4_90) kt) ?_
  show own_Go p e below _ (T8.setTop (mkF m 91 #[.val (.ref rg), .val (.ref re), .val (.int xl)] [(.int (1 : Int32))]))
  refine own_Go.st (fun _ kt => XS.goto X8.here hx rfl (pc0 := 91) (pc' := 95) rfl (hb hby own_d_method_4_91) (by decide) (by decide) kt) ?_
  show own_Go p e below _ (T8.setTop (mkF m 95 #[.val (.ref rg), .val (.ref re), .val (.int xl)] [(.int (1 : Int32))]))
  exact own_retZ X8 hx Bd.notSynchronized Bd.returns (Or.inr rfl) (hb hby own_d_method_4_95) (by decide) (by decide) ⟨rfl, N8, hh8⟩
theorem own_ef41 (m : MethodId) (x0 : Int32) (x1 : Int32) (x2 : Int32) (x3 : Int32) : entryFrame m #[(.int x0), (.int x1), (.int x2), (.int x3)] maxLocals = mkF m 0 #[.val (.int x0), .val (.int x1), .val (.int x2), .val (.int x3), .unset, .unset, .unset, .unset, .unset, .unset, .unset, .unset, .unset, .unset] [] := by first | (simp [entryFrame, mkF, argsToLocals, Value.category, maxLocals]; done) | rfl
theorem own_pd30 : parseMethodDescriptor "([C)V" = some ⟨[(.array .char)], none⟩ := by decide +kernel
theorem own_pd31 : parseMethodDescriptor "(Ljava/lang/String;Z)[B" = some ⟨[(.object "java/lang/String"), .boolean], some (.array .byte)⟩ := by decide +kernel
theorem own_pd32 : parseMethodDescriptor "([B[BI)Z" = some ⟨[(.array .byte), (.array .byte), .int], some .boolean⟩ := by decide +kernel
theorem own_pd33 : parseMethodDescriptor "([BIC)I" = some ⟨[(.array .byte), .int, .char], some .int⟩ := by decide +kernel
def own_Q_own_law (Z : State) (p0 p1 p2 p3 : Int32) (ru : Addr) (zc : Int32) (h0 : Heap) (n0 : Nat) (v : Option Value) (h : Heap) (L : List Loc) : Prop := v = some (.int 1) ∧ Fr n0 L
set_option maxRecDepth 65536 in
set_option maxHeartbeats 40000000 in
theorem own_law (l : Launch) (Z : State) (a0 : Array Value) (hw : ∀ d ∈ tables_1, d.before a0 Z = true) (ws : List Jvm.Cond) (p0 p1 p2 p3 : Int32) (ru : Addr) (zc : Int32) (h0 : Heap) (n0 : Nat) (Z0 : n0 ≤ h0.size) (cs : Sta Z h0 "java/lang/String" "COMPACT_STRINGS" "Z" (.int zc)) (hzc : ¬ zc = 0) (sU : Sta Z h0 "java/nio/charset/StandardCharsets" "UTF_8" "Ljava/nio/charset/Charset;" (.ref ru)) (sI : Sta Z h0 "sun/nio/cs/UTF_8" "INSTANCE" "Lsun/nio/cs/UTF_8;" (.ref ru)) (hkp : ∀ (b : Addr) (cl : Cell), Z.heap[b]? = some cl → h0[b]? = some cl) (heldS : Jvm.Lit.constHeld Z "java/lang/String" 7) (heldN : Jvm.Lit.constHeld Z "com/example/marshal/marshal/pipelines/LogLines" 20) (hcw : Jvm.Lit.compactW.before a0 Z = true) :
    MetFree l x (head1 (Jvm.Cond.code x code maxLocals ret :: ws) room_1) (fun av_ U => av_ = #[(.int p0), (.int p1), (.int p2), (.int p3)] ∧ Z.Warmed39 U.vm ∧ U.heap = h0 ∧ IB Z U.vm []) (fun _ _ _ _ _ => True) (fun _ U o U' => ∃ v L, o = .returned v ∧ own_Q_own_law Z p0 p1 p2 p3 ru zc h0 n0 v U'.heap L ∧ ReturnedEndW U o U' L room_1.cells room_1.slots) := by
  refine MetFree.of_bodySF (plainFor_of_name own_pn7) hisR ?_
  intro p e s m args below meth c s₁ Bd hml0 hP hK
  obtain ⟨rfl, hZ, hh, hIB⟩ := hP
  have hx := Bd.exec
  have hby := Bd.bytes
  have hml : c.maxLocals = 14 := hml0
  have hown : s.vm.findClass "com/example/marshal/marshal/pipelines/LogLinesLinePinLaw" = some m.cls := findClass_of_methodNamed Bd.named
  have hnm := (name_of_methodNamed Bd.named Bd.method).1
  have X0 : Stand p l e room_1 (s.setVm s.vm) m #[(.int p0), (.int p1), (.int p2), (.int p3)] below meth c s₁ [] 0 0 := Stand.of_body Bd
  have e0 : s₁.heap = h0 := by rw [← hh, Bd.state]; rfl
  have N0 := Fr.nil n0
  suffices hgo : own_Go p e below (fun o U' => ∃ v L, o = .returned v ∧ own_Q_own_law Z p0 p1 p2 p3 ru zc h0 n0 v U'.heap L ∧ ReturnedEndW s o U' L room_1.cells room_1.slots) (s₁.setTop (mkF m 0 #[.val (.int p0), .val (.int p1), .val (.int p2), .val (.int p3), .unset, .unset, .unset, .unset, .unset, .unset, .unset, .unset, .unset, .unset] [])) by
    obtain ⟨s₂, o, h1, h2, h3, h4⟩ := hgo
    exact ⟨s₂, o, castTop (own_ef41 m p0 p1 p2 p3) h1, h2, h3, h4⟩
  have hS0 : s.Since s.vm (Array.size h0) := State.WarmedH.since (State.WarmedH.refl _) _
  have kk0 : Keep h0 h0 [] := Keep.refl _ _
  show own_Go p e below _ (s₁.setTop (mkF m 0 #[.val (.int p0), .val (.int p1), .val (.int p2), .val (.int p3), .unset, .unset, .unset, .unset, .unset, .unset, .unset, .unset, .unset, .unset] []))
  refine own_Go.st (fun _ kt => XS.iloadN X0.here hx rfl (hb hby at_0) rfl kt) ?_
  show own_Go p e below _ (s₁.setTop (mkF m 1 #[.val (.int p0), .val (.int p1), .val (.int p2), .val (.int p3), .unset, .unset, .unset, .unset, .unset, .unset, .unset, .unset, .unset, .unset] [(.int p0)]))
  refine own_Go.st (fun _ kt => XS.iconst X0.here hx rfl (hb hby at_1) kt) ?_
  show own_Go p e below _ (s₁.setTop (mkF m 2 #[.val (.int p0), .val (.int p1), .val (.int p2), .val (.int p3), .unset, .unset, .unset, .unset, .unset, .unset, .unset, .unset, .unset, .unset] [(.int (3 : Int32)), (.int p0)]))
  refine own_Go.st (fun _ kt => XS.iand X0.here hx rfl (hb hby at_2) rfl kt) ?_
  show own_Go p e below _ (s₁.setTop (mkF m 3 #[.val (.int p0), .val (.int p1), .val (.int p2), .val (.int p3), .unset, .unset, .unset, .unset, .unset, .unset, .unset, .unset, .unset, .unset] [(.int (p0 &&& (3 : Int32)))]))
  refine own_Go.st (fun _ kt => XS.istore X0.here hx rfl (hb hby at_3) rfl (l' := #[.val (.int p0), .val (.int p1), .val (.int p2), .val (.int p3), .val (.int (p0 &&& (3 : Int32))), .unset, .unset, .unset, .unset, .unset, .unset, .unset, .unset, .unset]) rfl kt) ?_
  show own_Go p e below _ (s₁.setTop (mkF m 5 #[.val (.int p0), .val (.int p1), .val (.int p2), .val (.int p3), .val (.int (p0 &&& (3 : Int32))), .unset, .unset, .unset, .unset, .unset, .unset, .unset, .unset, .unset] []))
  refine own_Go.st (fun _ kt => XS.iloadN X0.here hx rfl (hb hby at_5) rfl kt) ?_
  show own_Go p e below _ (s₁.setTop (mkF m 6 #[.val (.int p0), .val (.int p1), .val (.int p2), .val (.int p3), .val (.int (p0 &&& (3 : Int32))), .unset, .unset, .unset, .unset, .unset, .unset, .unset, .unset, .unset] [(.int p0)]))
  refine own_Go.st (fun _ kt => XS.iconst X0.here hx rfl (hb hby at_6) kt) ?_
  show own_Go p e below _ (s₁.setTop (mkF m 7 #[.val (.int p0), .val (.int p1), .val (.int p2), .val (.int p3), .val (.int (p0 &&& (3 : Int32))), .unset, .unset, .unset, .unset, .unset, .unset, .unset, .unset, .unset] [(.int (2 : Int32)), (.int p0)]))
  refine own_Go.st (fun _ kt => XS.iushr X0.here hx rfl (hb hby at_7) rfl kt) ?_
  show own_Go p e below _ (s₁.setTop (mkF m 8 #[.val (.int p0), .val (.int p1), .val (.int p2), .val (.int p3), .val (.int (p0 &&& (3 : Int32))), .unset, .unset, .unset, .unset, .unset, .unset, .unset, .unset, .unset] [(.int ((p0.toUInt32 >>> ((2 : Int32) &&& 31).toUInt32).toInt32))]))
  refine own_Go.st (fun _ kt => XS.iconst X0.here hx rfl (hb hby at_8) kt) ?_
  show own_Go p e below _ (s₁.setTop (mkF m 9 #[.val (.int p0), .val (.int p1), .val (.int p2), .val (.int p3), .val (.int (p0 &&& (3 : Int32))), .unset, .unset, .unset, .unset, .unset, .unset, .unset, .unset, .unset] [(.int (1 : Int32)), (.int ((p0.toUInt32 >>> ((2 : Int32) &&& 31).toUInt32).toInt32))]))
  refine own_Go.st (fun _ kt => XS.iand X0.here hx rfl (hb hby at_9) rfl kt) ?_
  show own_Go p e below _ (s₁.setTop (mkF m 10 #[.val (.int p0), .val (.int p1), .val (.int p2), .val (.int p3), .val (.int (p0 &&& (3 : Int32))), .unset, .unset, .unset, .unset, .unset, .unset, .unset, .unset, .unset] [(.int (((p0.toUInt32 >>> ((2 : Int32) &&& 31).toUInt32).toInt32) &&& (1 : Int32)))]))
  have J18 : ∀ (T1 : State) (lc1 : List Loc) (X1 : Stand p l e room_1 (s.setVm s.vm) m #[(.int p0), (.int p1), (.int p2), (.int p3)] below meth c T1 lc1 0 0) (e1 : T1.heap = h0) (N1 : Fr n0 lc1) (xs : Int32) (hxs : xs = 1 ∨ xs = 0), own_Go p e below (fun o U' => ∃ v L, o = .returned v ∧ own_Q_own_law Z p0 p1 p2 p3 ru zc h0 n0 v U'.heap L ∧ ReturnedEndW s o U' L room_1.cells room_1.slots) (T1.setTop (mkF m 18 #[.val (.int p0), .val (.int p1), .val (.int p2), .val (.int p3), .val (.int (p0 &&& (3 : Int32))), .unset, .unset, .unset, .unset, .unset, .unset, .unset, .unset, .unset] [(.int xs)])) := by
    intro T1 lc1 X1 e1 N1 xs hxs
    show own_Go p e below _ (T1.setTop (mkF m 18 #[.val (.int p0), .val (.int p1), .val (.int p2), .val (.int p3), .val (.int (p0 &&& (3 : Int32))), .unset, .unset, .unset, .unset, .unset, .unset, .unset, .unset, .unset] [(.int xs)]))
    refine own_Go.st (fun _ kt => XS.istore X1.here hx rfl (hb hby at_18) rfl (l' := #[.val (.int p0), .val (.int p1), .val (.int p2), .val (.int p3), .val (.int (p0 &&& (3 : Int32))), .val (.int xs), .unset, .unset, .unset, .unset, .unset, .unset, .unset, .unset]) rfl kt) ?_
    show own_Go p e below _ (T1.setTop (mkF m 20 #[.val (.int p0), .val (.int p1), .val (.int p2), .val (.int p3), .val (.int (p0 &&& (3 : Int32))), .val (.int xs), .unset, .unset, .unset, .unset, .unset, .unset, .unset, .unset] []))
    refine own_Go.st (fun _ kt => XS.iloadN X1.here hx rfl (hb hby at_20) rfl kt) ?_
    show own_Go p e below _ (T1.setTop (mkF m 21 #[.val (.int p0), .val (.int p1), .val (.int p2), .val (.int p3), .val (.int (p0 &&& (3 : Int32))), .val (.int xs), .unset, .unset, .unset, .unset, .unset, .unset, .unset, .unset] [(.int p1)]))
    refine own_Go.st (fun _ kt => XS.sipush X1.here hx rfl (hb hby at_21) kt) ?_
    show own_Go p e below _ (T1.setTop (mkF m 24 #[.val (.int p0), .val (.int p1), .val (.int p2), .val (.int p3), .val (.int (p0 &&& (3 : Int32))), .val (.int xs), .unset, .unset, .unset, .unset, .unset, .unset, .unset, .unset] [(.int (255 : Int32)), (.int p1)]))
    refine own_Go.st (fun _ kt => XS.iand X1.here hx rfl (hb hby at_24) rfl kt) ?_
    show own_Go p e below _ (T1.setTop (mkF m 25 #[.val (.int p0), .val (.int p1), .val (.int p2), .val (.int p3), .val (.int (p0 &&& (3 : Int32))), .val (.int xs), .unset, .unset, .unset, .unset, .unset, .unset, .unset, .unset] [(.int (p1 &&& (255 : Int32)))]))
    refine own_Go.st (fun _ kt => XS.i2c X1.here hx rfl (hb hby at_25) rfl kt) ?_
    show own_Go p e below _ (T1.setTop (mkF m 26 #[.val (.int p0), .val (.int p1), .val (.int p2), .val (.int p3), .val (.int (p0 &&& (3 : Int32))), .val (.int xs), .unset, .unset, .unset, .unset, .unset, .unset, .unset, .unset] [(.int ((p1 &&& (255 : Int32)).toUInt32.toUInt16.toUInt32.toInt32))]))
    obtain ⟨xc0, hy0, hC0⟩ := own_c255 p1
    rw [show ((p1 &&& (255 : Int32)).toUInt32.toUInt16.toUInt32.toInt32) = xc0 from hy0]
    show own_Go p e below _ (T1.setTop (mkF m 26 #[.val (.int p0), .val (.int p1), .val (.int p2), .val (.int p3), .val (.int (p0 &&& (3 : Int32))), .val (.int xs), .unset, .unset, .unset, .unset, .unset, .unset, .unset, .unset] [(.int xc0)]))
    refine own_Go.st (fun _ kt => XS.istore X1.here hx rfl (hb hby at_26) rfl (l' := #[.val (.int p0), .val (.int p1), .val (.int p2), .val (.int p3), .val (.int (p0 &&& (3 : Int32))), .val (.int xs), .val (.int xc0), .unset, .unset, .unset, .unset, .unset, .unset, .unset]) rfl kt) ?_
    show own_Go p e below _ (T1.setTop (mkF m 28 #[.val (.int p0), .val (.int p1), .val (.int p2), .val (.int p3), .val (.int (p0 &&& (3 : Int32))), .val (.int xs), .val (.int xc0), .unset, .unset, .unset, .unset, .unset, .unset, .unset] []))
    refine own_Go.st (fun _ kt => XS.iloadN X1.here hx rfl (hb hby at_28) rfl kt) ?_
    show own_Go p e below _ (T1.setTop (mkF m 29 #[.val (.int p0), .val (.int p1), .val (.int p2), .val (.int p3), .val (.int (p0 &&& (3 : Int32))), .val (.int xs), .val (.int xc0), .unset, .unset, .unset, .unset, .unset, .unset, .unset] [(.int p2)]))
    refine own_Go.st (fun _ kt => XS.sipush X1.here hx rfl (hb hby at_29) kt) ?_
    show own_Go p e below _ (T1.setTop (mkF m 32 #[.val (.int p0), .val (.int p1), .val (.int p2), .val (.int p3), .val (.int (p0 &&& (3 : Int32))), .val (.int xs), .val (.int xc0), .unset, .unset, .unset, .unset, .unset, .unset, .unset] [(.int (255 : Int32)), (.int p2)]))
    refine own_Go.st (fun _ kt => XS.iand X1.here hx rfl (hb hby at_32) rfl kt) ?_
    show own_Go p e below _ (T1.setTop (mkF m 33 #[.val (.int p0), .val (.int p1), .val (.int p2), .val (.int p3), .val (.int (p0 &&& (3 : Int32))), .val (.int xs), .val (.int xc0), .unset, .unset, .unset, .unset, .unset, .unset, .unset] [(.int (p2 &&& (255 : Int32)))]))
    refine own_Go.st (fun _ kt => XS.i2c X1.here hx rfl (hb hby at_33) rfl kt) ?_
    show own_Go p e below _ (T1.setTop (mkF m 34 #[.val (.int p0), .val (.int p1), .val (.int p2), .val (.int p3), .val (.int (p0 &&& (3 : Int32))), .val (.int xs), .val (.int xc0), .unset, .unset, .unset, .unset, .unset, .unset, .unset] [(.int ((p2 &&& (255 : Int32)).toUInt32.toUInt16.toUInt32.toInt32))]))
    obtain ⟨xc1, hy1, hC1⟩ := own_c255 p2
    rw [show ((p2 &&& (255 : Int32)).toUInt32.toUInt16.toUInt32.toInt32) = xc1 from hy1]
    show own_Go p e below _ (T1.setTop (mkF m 34 #[.val (.int p0), .val (.int p1), .val (.int p2), .val (.int p3), .val (.int (p0 &&& (3 : Int32))), .val (.int xs), .val (.int xc0), .unset, .unset, .unset, .unset, .unset, .unset, .unset] [(.int xc1)]))
    refine own_Go.st (fun _ kt => XS.istore X1.here hx rfl (hb hby at_34) rfl (l' := #[.val (.int p0), .val (.int p1), .val (.int p2), .val (.int p3), .val (.int (p0 &&& (3 : Int32))), .val (.int xs), .val (.int xc0), .val (.int xc1), .unset, .unset, .unset, .unset, .unset, .unset]) rfl kt) ?_
    show own_Go p e below _ (T1.setTop (mkF m 36 #[.val (.int p0), .val (.int p1), .val (.int p2), .val (.int p3), .val (.int (p0 &&& (3 : Int32))), .val (.int xs), .val (.int xc0), .val (.int xc1), .unset, .unset, .unset, .unset, .unset, .unset] []))
    refine own_Go.st (fun _ kt => XS.iloadN X1.here hx rfl (hb hby at_36) rfl kt) ?_
    show own_Go p e below _ (T1.setTop (mkF m 37 #[.val (.int p0), .val (.int p1), .val (.int p2), .val (.int p3), .val (.int (p0 &&& (3 : Int32))), .val (.int xs), .val (.int xc0), .val (.int xc1), .unset, .unset, .unset, .unset, .unset, .unset] [(.int p3)]))
    refine own_Go.st (fun _ kt => XS.sipush X1.here hx rfl (hb hby at_37) kt) ?_
    show own_Go p e below _ (T1.setTop (mkF m 40 #[.val (.int p0), .val (.int p1), .val (.int p2), .val (.int p3), .val (.int (p0 &&& (3 : Int32))), .val (.int xs), .val (.int xc0), .val (.int xc1), .unset, .unset, .unset, .unset, .unset, .unset] [(.int (255 : Int32)), (.int p3)]))
    refine own_Go.st (fun _ kt => XS.iand X1.here hx rfl (hb hby at_40) rfl kt) ?_
    show own_Go p e below _ (T1.setTop (mkF m 41 #[.val (.int p0), .val (.int p1), .val (.int p2), .val (.int p3), .val (.int (p0 &&& (3 : Int32))), .val (.int xs), .val (.int xc0), .val (.int xc1), .unset, .unset, .unset, .unset, .unset, .unset] [(.int (p3 &&& (255 : Int32)))]))
    refine own_Go.st (fun _ kt => XS.i2c X1.here hx rfl (hb hby at_41) rfl kt) ?_
    show own_Go p e below _ (T1.setTop (mkF m 42 #[.val (.int p0), .val (.int p1), .val (.int p2), .val (.int p3), .val (.int (p0 &&& (3 : Int32))), .val (.int xs), .val (.int xc0), .val (.int xc1), .unset, .unset, .unset, .unset, .unset, .unset] [(.int ((p3 &&& (255 : Int32)).toUInt32.toUInt16.toUInt32.toInt32))]))
    obtain ⟨xc2, hy2, hC2⟩ := own_c255 p3
    rw [show ((p3 &&& (255 : Int32)).toUInt32.toUInt16.toUInt32.toInt32) = xc2 from hy2]
    show own_Go p e below _ (T1.setTop (mkF m 42 #[.val (.int p0), .val (.int p1), .val (.int p2), .val (.int p3), .val (.int (p0 &&& (3 : Int32))), .val (.int xs), .val (.int xc0), .val (.int xc1), .unset, .unset, .unset, .unset, .unset, .unset] [(.int xc2)]))
    refine own_Go.st (fun _ kt => XS.istore X1.here hx rfl (hb hby at_42) rfl (l' := #[.val (.int p0), .val (.int p1), .val (.int p2), .val (.int p3), .val (.int (p0 &&& (3 : Int32))), .val (.int xs), .val (.int xc0), .val (.int xc1), .val (.int xc2), .unset, .unset, .unset, .unset, .unset]) rfl kt) ?_
    show own_Go p e below _ (T1.setTop (mkF m 44 #[.val (.int p0), .val (.int p1), .val (.int p2), .val (.int p3), .val (.int (p0 &&& (3 : Int32))), .val (.int xs), .val (.int xc0), .val (.int xc1), .val (.int xc2), .unset, .unset, .unset, .unset, .unset] []))
    refine own_Go.st (fun _ kt => XS.iload X1.here hx rfl (hb hby at_44) rfl kt) ?_
    show own_Go p e below _ (T1.setTop (mkF m 46 #[.val (.int p0), .val (.int p1), .val (.int p2), .val (.int p3), .val (.int (p0 &&& (3 : Int32))), .val (.int xs), .val (.int xc0), .val (.int xc1), .val (.int xc2), .unset, .unset, .unset, .unset, .unset] [(.int (p0 &&& (3 : Int32)))]))
    have pl0 := own_p1_len xc0
    have pl1 := own_p1_len xc1
    have pl2 := own_p1_len xc2
    rcases own_and3 p0 with hm | hm | hm | hm
    · rw [show (p0 &&& (3 : Int32)) = (0 : Int32) from hm]
      show own_Go p e below _ (T1.setTop (mkF m 46 #[.val (.int p0), .val (.int p1), .val (.int p2), .val (.int p3), .val (.int (0 : Int32)), .val (.int xs), .val (.int xc0), .val (.int xc1), .val (.int xc2), .unset, .unset, .unset, .unset, .unset] [(.int (0 : Int32))]))
      obtain ⟨T2, h2, k2, X2, e2, E2, A2, st2⟩ := newP X1 hx hZ (own_w hw 0 rfl) e1 (g := (mkF m 46 #[.val (.int p0), .val (.int p1), .val (.int p2), .val (.int p3), .val (.int (0 : Int32)), .val (.int xs), .val (.int xc0), .val (.int xc1), .val (.int xc2), .unset, .unset, .unset, .unset, .unset] [(.int (0 : Int32))])) rfl (hb hby at_46) rfl (by decide) (cap := 3) (by decide) (by decide) (by decide) (by decide)
      obtain ⟨rc, g2⟩ : ∃ z, z = Array.size h0 := ⟨_, rfl⟩
      rw [← g2] at A2 st2
      refine own_Go.st st2 ?_
      have n0_rc : n0 ≤ rc := Nat.le_trans Z0 (Nat.le_of_eq g2.symm)
      have b_rc : Array.size h0 ≤ rc := Nat.le_trans kk0.1 (Nat.le_of_eq g2.symm)
      have zz3 : n0 ≤ Array.size h2 := Nat.le_trans Z0 E2.1
      have kk3 : Keep h0 h2 [] := kk0.ext E2
      have hk3 : Array.size h0 ≤ Array.size h2 := Nat.le_trans (Nat.le_refl _) E2.1
      show own_Go p e below _ (T2.setTop (mkF m 48 #[.val (.int p0), .val (.int p1), .val (.int p2), .val (.int p3), .val (.int (0 : Int32)), .val (.int xs), .val (.int xc0), .val (.int xc1), .val (.int xc2), .unset, .unset, .unset, .unset, .unset] [(.ref rc)]))
      have ac0 := own_Ar.new A2 (n := 0) (by decide)
      refine own_Go.st (fun _ kt => XS.astore X2.here hx rfl (hb hby at_48) rfl rfl (l' := #[.val (.int p0), .val (.int p1), .val (.int p2), .val (.int p3), .val (.int (0 : Int32)), .val (.int xs), .val (.int xc0), .val (.int xc1), .val (.int xc2), .val (.ref rc), .unset, .unset, .unset, .unset]) rfl kt) ?_
      show own_Go p e below _ (T2.setTop (mkF m 50 #[.val (.int p0), .val (.int p1), .val (.int p2), .val (.int p3), .val (.int (0 : Int32)), .val (.int xs), .val (.int xc0), .val (.int xc1), .val (.int xc2), .val (.ref rc), .unset, .unset, .unset, .unset] []))
      refine own_Go.st (fun _ kt => XS.iload X2.here hx rfl (hb hby at_50) rfl kt) ?_
      show own_Go p e below _ (T2.setTop (mkF m 52 #[.val (.int p0), .val (.int p1), .val (.int p2), .val (.int p3), .val (.int (0 : Int32)), .val (.int xs), .val (.int xc0), .val (.int xc1), .val (.int xc2), .val (.ref rc), .unset, .unset, .unset, .unset] [(.int (0 : Int32))]))
      refine own_Go.st (fun _ kt => XS.ifYes X2.here hx rfl (pc0 := 52) (pc' := 61) rfl (hb hby at_52) rfl ((if0 _ _).trans (flt (by decide)).2.2.2) (by decide) (by decide) kt) ?_
      show own_Go p e below _ (T2.setTop (mkF m 61 #[.val (.int p0), .val (.int p1), .val (.int p2), .val (.int p3), .val (.int (0 : Int32)), .val (.int xs), .val (.int xc0), .val (.int xc1), .val (.int xc2), .val (.ref rc), .unset, .unset, .unset, .unset] []))
      refine own_Go.st (fun _ kt => XS.iload X2.here hx rfl (hb hby at_61) rfl kt) ?_
      show own_Go p e below _ (T2.setTop (mkF m 63 #[.val (.int p0), .val (.int p1), .val (.int p2), .val (.int p3), .val (.int (0 : Int32)), .val (.int xs), .val (.int xc0), .val (.int xc1), .val (.int xc2), .val (.ref rc), .unset, .unset, .unset, .unset] [(.int (0 : Int32))]))
      refine own_Go.st (fun _ kt => XS.iconst X2.here hx rfl (hb hby at_63) kt) ?_
      show own_Go p e below _ (T2.setTop (mkF m 64 #[.val (.int p0), .val (.int p1), .val (.int p2), .val (.int p3), .val (.int (0 : Int32)), .val (.int xs), .val (.int xc0), .val (.int xc1), .val (.int xc2), .val (.ref rc), .unset, .unset, .unset, .unset] [(.int (1 : Int32)), (.int (0 : Int32))]))
      refine own_Go.st (fun _ kt => XS.icmpYes X2.here hx rfl (pc0 := 64) (pc' := 73) rfl (hb hby at_64) rfl (flt (by decide)).2.2.2 (by decide) (by decide) kt) ?_
      show own_Go p e below _ (T2.setTop (mkF m 73 #[.val (.int p0), .val (.int p1), .val (.int p2), .val (.int p3), .val (.int (0 : Int32)), .val (.int xs), .val (.int xc0), .val (.int xc1), .val (.int xc2), .val (.ref rc), .unset, .unset, .unset, .unset] []))
      refine own_Go.st (fun _ kt => XS.iload X2.here hx rfl (hb hby at_73) rfl kt) ?_
      show own_Go p e below _ (T2.setTop (mkF m 75 #[.val (.int p0), .val (.int p1), .val (.int p2), .val (.int p3), .val (.int (0 : Int32)), .val (.int xs), .val (.int xc0), .val (.int xc1), .val (.int xc2), .val (.ref rc), .unset, .unset, .unset, .unset] [(.int (0 : Int32))]))
      refine own_Go.st (fun _ kt => XS.iconst X2.here hx rfl (hb hby at_75) kt) ?_
      show own_Go p e below _ (T2.setTop (mkF m 76 #[.val (.int p0), .val (.int p1), .val (.int p2), .val (.int p3), .val (.int (0 : Int32)), .val (.int xs), .val (.int xc0), .val (.int xc1), .val (.int xc2), .val (.ref rc), .unset, .unset, .unset, .unset] [(.int (2 : Int32)), (.int (0 : Int32))]))
      refine own_Go.st (fun _ kt => XS.icmpYes X2.here hx rfl (pc0 := 76) (pc' := 85) rfl (hb hby at_76) rfl (flt (by decide)).2.2.2 (by decide) (by decide) kt) ?_
      show own_Go p e below _ (T2.setTop (mkF m 85 #[.val (.int p0), .val (.int p1), .val (.int p2), .val (.int p3), .val (.int (0 : Int32)), .val (.int xs), .val (.int xc0), .val (.int xc1), .val (.int xc2), .val (.ref rc), .unset, .unset, .unset, .unset] []))
      have ac1 : own_Ar Z h2 rc .char 0 (fun j => .int (([] : List Int32).getD j 0)) := ac0.congr fun j hj => by
        exact absurd hj (Nat.not_lt_zero j)
      obtain ⟨T4, h4, X4, e4, E4, A4, D4, U4, st4⟩ := newO X2 hx hZ hown (own_w hw 1 rfl) (own_w hw 2 rfl) (own_w hw 3 rfl) e2 (g := (mkF m 85 #[.val (.int p0), .val (.int p1), .val (.int p2), .val (.int p3), .val (.int (0 : Int32)), .val (.int xs), .val (.int xc0), .val (.int xc1), .val (.int xc2), .val (.ref rc), .unset, .unset, .unset, .unset] [])) rfl (hb hby at_85) (by decide) (by decide)
      obtain ⟨sx, g4⟩ : ∃ z, z = Array.size h2 := ⟨_, rfl⟩
      rw [← g4] at A4 D4 U4 st4
      refine own_Go.st st4 ?_
      have ne_rc_sx : rc ≠ sx := Nat.ne_of_lt (Nat.lt_of_lt_of_le (ac1).lt (Nat.le_of_eq g4.symm))
      have n0_sx : n0 ≤ sx := Nat.le_trans zz3 (Nat.le_of_eq g4.symm)
      have b_sx : Array.size h0 ≤ sx := Nat.le_trans kk3.1 (Nat.le_of_eq g4.symm)
      have zz5 : n0 ≤ Array.size h4 := Nat.le_trans zz3 E4.1
      have kk5 : Keep h0 h4 [] := kk3.ext E4
      have hk5 : Array.size h0 ≤ Array.size h4 := Nat.le_trans hk3 E4.1
      have D4_value : Fld Z h4 sx "java/lang/String" "value" "[B" .null := D4 (Or.inr (own_w hw 16 rfl)) (ty := (.array .byte)) (by decide)
      have D4_coder : Fld Z h4 sx "java/lang/String" "coder" "B" (.int 0) := D4 (Or.inr (own_w hw 17 rfl)) (ty := .byte) (by decide)
      show own_Go p e below _ (T4.setTop (mkF m 88 #[.val (.int p0), .val (.int p1), .val (.int p2), .val (.int p3), .val (.int (0 : Int32)), .val (.int xs), .val (.int xc0), .val (.int xc1), .val (.int xc2), .val (.ref rc), .unset, .unset, .unset, .unset] [(.ref sx)]))
      refine own_Go.st (fun _ kt => XS.dup X4.here hx rfl (hb hby at_88) rfl rfl kt) ?_
      show own_Go p e below _ (T4.setTop (mkF m 89 #[.val (.int p0), .val (.int p1), .val (.int p2), .val (.int p3), .val (.int (0 : Int32)), .val (.int xs), .val (.int xc0), .val (.int xc1), .val (.int xc2), .val (.ref rc), .unset, .unset, .unset, .unset] [(.ref sx), (.ref sx)]))
      refine own_Go.st (fun _ kt => XS.aload X4.here hx rfl (hb hby at_89) rfl rfl kt) ?_
      show own_Go p e below _ (T4.setTop (mkF m 91 #[.val (.int p0), .val (.int p1), .val (.int p2), .val (.int p3), .val (.int (0 : Int32)), .val (.int xs), .val (.int xc0), .val (.int xc1), .val (.int xc2), .val (.ref rc), .unset, .unset, .unset, .unset] [(.ref rc), (.ref sx), (.ref sx)]))
      have f6 := (ac1.ext E4)
      obtain ⟨_, _, ⟨T7, L7, k7, n7⟩, -, X7, hS7, hgr7, ⟨Lc7, hQ7, l7, y7, z7, ib7⟩, st7⟩ := X4.specialBackS hx (y := (⟨"java/lang/String", "<init>", "([C)V"⟩ : MethodName)) rfl hown (mvT hZ (own_w hw 4 rfl)) (mvT hZ (own_w hw 5 rfl)) (mvT hZ (own_w hw 6 rfl)) (by decide) (own_backSI (W := 1) (own_s10 l Z a0 hw [] sx rc _ h4 n0 zz5 A4 D4_value D4_coder n0_sx (fun b cl q => (kk5).2.1 b cl (hkp b cl q) List.not_mem_nil) heldS hcw f6) hZ (own_w hw 6 rfl) (own_w hw 3 rfl) (by decide) (by decide) hIB) (g := (mkF m 91 #[.val (.int p0), .val (.int p1), .val (.int p2), .val (.int p3), .val (.int (0 : Int32)), .val (.int xs), .val (.int xc0), .val (.int xc1), .val (.int xc2), .val (.ref rc), .unset, .unset, .unset, .unset] [(.ref rc), (.ref sx), (.ref sx)])) rfl (by rw [hml]; rfl) (Steps.refl _) (a := sx) (argsL := [(.ref rc)]) (rest := [(.ref sx)]) (lenOf own_pd30 rfl) rfl (by show 2 * 0 + _ ≤ _; exact Nat.le_of_eq rfl) (hb hby at_91) (fun _ _ => ⟨rfl, e4, (by decide : 2 + 2 ≤ _), (by decide : 7 + 4 ≤ _)⟩)
      dsimp only [Pt.U, Pt.locs, Pt.cells, Pt.slots] at X7 l7 y7 z7 st7 hQ7 hS7 hgr7 ib7
      subst l7 y7 z7
      obtain ⟨rb, rfl, N7q, st_7, KF7⟩ := hQ7
      have N7 := Fr.app N1 N7q
      refine own_Go.st (fun _ kt => st7.trans kt) ?_
      have hZ7 : Z.Warmed39 (s.setVm T7.vm).vm := State.Warmed39.trans (t := s.setVm s.vm) hZ hS7.1
      have ho7 : (s.setVm T7.vm).vm.findClass "com/example/marshal/marshal/pipelines/LogLinesLinePinLaw" = some m.cls := by rw [show (s.setVm T7.vm).vm = T7.vm from rfl, hS7.1.alike.findClass]; exact hown
      have hT7 : s.Since T7.vm (Array.size T7.heap) := State.Since.trans hS0 hS7 (Nat.le_trans hk5 (Nat.le_trans (Nat.le_of_eq (congrArg Array.size e4).symm) hgr7))
      have zz8 : n0 ≤ Array.size T7.heap := Nat.le_trans zz5 KF7.1
      have kk8 : Keep h0 T7.heap [] := kk5.trans KF7 (allS (P := fun x => x ∈ [] ∨ _) (Or.inr b_sx) all0)
      show own_Go p e below _ (T7.setTop (mkF m 94 #[.val (.int p0), .val (.int p1), .val (.int p2), .val (.int p3), .val (.int (0 : Int32)), .val (.int xs), .val (.int xc0), .val (.int xc1), .val (.int xc2), .val (.ref rc), .unset, .unset, .unset, .unset] [(.ref sx)]))
      have fsl : own_Sl Z T7.heap sx rb [] := own_Str.sl st_7 rfl fun j hj => absurd hj (Nat.not_lt_zero j)
      refine own_Go.st (fun _ kt => XS.astore X7.here hx rfl (hb hby at_94) rfl rfl (l' := #[.val (.int p0), .val (.int p1), .val (.int p2), .val (.int p3), .val (.int (0 : Int32)), .val (.int xs), .val (.int xc0), .val (.int xc1), .val (.int xc2), .val (.ref rc), .val (.ref sx), .unset, .unset, .unset]) rfl kt) ?_
      show own_Go p e below _ (T7.setTop (mkF m 96 #[.val (.int p0), .val (.int p1), .val (.int p2), .val (.int p3), .val (.int (0 : Int32)), .val (.int xs), .val (.int xc0), .val (.int xc1), .val (.int xc2), .val (.ref rc), .val (.ref sx), .unset, .unset, .unset] []))
      refine own_Go.st (fun _ kt => XS.bipush X7.here hx rfl (hb hby at_96) kt) ?_
      show own_Go p e below _ (T7.setTop (mkF m 98 #[.val (.int p0), .val (.int p1), .val (.int p2), .val (.int p3), .val (.int (0 : Int32)), .val (.int xs), .val (.int xc0), .val (.int xc1), .val (.int xc2), .val (.ref rc), .val (.ref sx), .unset, .unset, .unset] [(.int (8 : Int32))]))
      obtain ⟨T9, h9, X9, e9, E9, A9, B9, st9⟩ := own_newB X7 hx hZ7 (own_w hw 15 rfl) rfl (g := (mkF m 98 #[.val (.int p0), .val (.int p1), .val (.int p2), .val (.int p3), .val (.int (0 : Int32)), .val (.int xs), .val (.int xc0), .val (.int xc1), .val (.int xc2), .val (.ref rc), .val (.ref sx), .unset, .unset, .unset] [(.int (8 : Int32))])) rfl (hb hby at_98) rfl (n := 8) (by decide) (cap := 8) (by decide) (by decide) (by decide) (by decide)
      obtain ⟨re, g9⟩ : ∃ z, z = Array.size T7.heap := ⟨_, rfl⟩
      rw [← g9] at A9 B9 st9
      refine own_Go.st st9 ?_
      have ne_sx_re : sx ≠ re := Nat.ne_of_lt (Nat.lt_of_lt_of_le (fsl.1).lt (Nat.le_of_eq g9.symm))
      have ne_rb_re : rb ≠ re := Nat.ne_of_lt (Nat.lt_of_lt_of_le (fsl.2.2.2).lt (Nat.le_of_eq g9.symm))
      have n0_re : n0 ≤ re := Nat.le_trans zz8 (Nat.le_of_eq g9.symm)
      have b_re : Array.size h0 ≤ re := Nat.le_trans kk8.1 (Nat.le_of_eq g9.symm)
      have zz10 : n0 ≤ Array.size h9 := Nat.le_trans zz8 E9.1
      have kk10 : Keep h0 h9 [] := kk8.ext E9
      have hk10 : Array.size T7.heap ≤ Array.size h9 := Nat.le_trans (Nat.le_of_eq (congrArg Array.size rfl)) E9.1
      show own_Go p e below _ (T9.setTop (mkF m 100 #[.val (.int p0), .val (.int p1), .val (.int p2), .val (.int p3), .val (.int (0 : Int32)), .val (.int xs), .val (.int xc0), .val (.int xc1), .val (.int xc2), .val (.ref rc), .val (.ref sx), .unset, .unset, .unset] [(.ref re)]))
      refine own_Go.st (fun _ kt => XS.astore X9.here hx rfl (hb hby at_100) rfl rfl (l' := #[.val (.int p0), .val (.int p1), .val (.int p2), .val (.int p3), .val (.int (0 : Int32)), .val (.int xs), .val (.int xc0), .val (.int xc1), .val (.int xc2), .val (.ref rc), .val (.ref sx), .val (.ref re), .unset, .unset]) rfl kt) ?_
      show own_Go p e below _ (T9.setTop (mkF m 102 #[.val (.int p0), .val (.int p1), .val (.int p2), .val (.int p3), .val (.int (0 : Int32)), .val (.int xs), .val (.int xc0), .val (.int xc1), .val (.int xc2), .val (.ref rc), .val (.ref sx), .val (.ref re), .unset, .unset] []))
      refine own_Go.st (fun _ kt => XS.iconst X9.here hx rfl (hb hby at_102) kt) ?_
      show own_Go p e below _ (T9.setTop (mkF m 103 #[.val (.int p0), .val (.int p1), .val (.int p2), .val (.int p3), .val (.int (0 : Int32)), .val (.int xs), .val (.int xc0), .val (.int xc1), .val (.int xc2), .val (.ref rc), .val (.ref sx), .val (.ref re), .unset, .unset] [(.int (0 : Int32))]))
      refine own_Go.st (fun _ kt => XS.istore X9.here hx rfl (hb hby at_103) rfl (l' := #[.val (.int p0), .val (.int p1), .val (.int p2), .val (.int p3), .val (.int (0 : Int32)), .val (.int xs), .val (.int xc0), .val (.int xc1), .val (.int xc2), .val (.ref rc), .val (.ref sx), .val (.ref re), .val (.int (0 : Int32)), .unset]) rfl kt) ?_
      show own_Go p e below _ (T9.setTop (mkF m 105 #[.val (.int p0), .val (.int p1), .val (.int p2), .val (.int p3), .val (.int (0 : Int32)), .val (.int xs), .val (.int xc0), .val (.int xc1), .val (.int xc2), .val (.ref rc), .val (.ref sx), .val (.ref re), .val (.int (0 : Int32)), .unset] []))
      refine own_Go.st (fun _ kt => XS.iload X9.here hx rfl (hb hby at_105) rfl kt) ?_
      show own_Go p e below _ (T9.setTop (mkF m 107 #[.val (.int p0), .val (.int p1), .val (.int p2), .val (.int p3), .val (.int (0 : Int32)), .val (.int xs), .val (.int xc0), .val (.int xc1), .val (.int xc2), .val (.ref rc), .val (.ref sx), .val (.ref re), .val (.int (0 : Int32)), .unset] [(.int xs)]))
      rcases hxs with rfl | rfl
      · show own_Go p e below _ (T9.setTop (mkF m 107 #[.val (.int p0), .val (.int p1), .val (.int p2), .val (.int p3), .val (.int (0 : Int32)), .val (.int (1 : Int32)), .val (.int xc0), .val (.int xc1), .val (.int xc2), .val (.ref rc), .val (.ref sx), .val (.ref re), .val (.int (0 : Int32)), .unset] [(.int (1 : Int32))]))
        refine own_Go.st (fun _ kt => XS.ifYes X9.here hx rfl (pc0 := 107) (pc' := 123) rfl (hb hby at_107) rfl ((if0 _ _).trans (feq (by decide)).2) (by decide) (by decide) kt) ?_
        show own_Go p e below _ (T9.setTop (mkF m 123 #[.val (.int p0), .val (.int p1), .val (.int p2), .val (.int p3), .val (.int (0 : Int32)), .val (.int (1 : Int32)), .val (.int xc0), .val (.int xc1), .val (.int xc2), .val (.ref rc), .val (.ref sx), .val (.ref re), .val (.int (0 : Int32)), .unset] []))
        refine own_Go.st (fun _ kt => XS.iload X9.here hx rfl (hb hby at_123) rfl kt) ?_
        show own_Go p e below _ (T9.setTop (mkF m 125 #[.val (.int p0), .val (.int p1), .val (.int p2), .val (.int p3), .val (.int (0 : Int32)), .val (.int (1 : Int32)), .val (.int xc0), .val (.int xc1), .val (.int xc2), .val (.ref rc), .val (.ref sx), .val (.ref re), .val (.int (0 : Int32)), .unset] [(.int (0 : Int32))]))
        refine own_Go.st (fun _ kt => XS.ifYes X9.here hx rfl (pc0 := 125) (pc' := 139) rfl (hb hby at_125) rfl ((if0 _ _).trans (flt (by decide)).2.2.2) (by decide) (by decide) kt) ?_
        show own_Go p e below _ (T9.setTop (mkF m 139 #[.val (.int p0), .val (.int p1), .val (.int p2), .val (.int p3), .val (.int (0 : Int32)), .val (.int (1 : Int32)), .val (.int xc0), .val (.int xc1), .val (.int xc2), .val (.ref rc), .val (.ref sx), .val (.ref re), .val (.int (0 : Int32)), .unset] []))
        refine own_Go.st (fun _ kt => XS.iload X9.here hx rfl (hb hby at_139) rfl kt) ?_
        show own_Go p e below _ (T9.setTop (mkF m 141 #[.val (.int p0), .val (.int p1), .val (.int p2), .val (.int p3), .val (.int (0 : Int32)), .val (.int (1 : Int32)), .val (.int xc0), .val (.int xc1), .val (.int xc2), .val (.ref rc), .val (.ref sx), .val (.ref re), .val (.int (0 : Int32)), .unset] [(.int (0 : Int32))]))
        refine own_Go.st (fun _ kt => XS.iconst X9.here hx rfl (hb hby at_141) kt) ?_
        show own_Go p e below _ (T9.setTop (mkF m 142 #[.val (.int p0), .val (.int p1), .val (.int p2), .val (.int p3), .val (.int (0 : Int32)), .val (.int (1 : Int32)), .val (.int xc0), .val (.int xc1), .val (.int xc2), .val (.ref rc), .val (.ref sx), .val (.ref re), .val (.int (0 : Int32)), .unset] [(.int (1 : Int32)), (.int (0 : Int32))]))
        refine own_Go.st (fun _ kt => XS.icmpYes X9.here hx rfl (pc0 := 142) (pc' := 156) rfl (hb hby at_142) rfl (flt (by decide)).2.2.2 (by decide) (by decide) kt) ?_
        show own_Go p e below _ (T9.setTop (mkF m 156 #[.val (.int p0), .val (.int p1), .val (.int p2), .val (.int p3), .val (.int (0 : Int32)), .val (.int (1 : Int32)), .val (.int xc0), .val (.int xc1), .val (.int xc2), .val (.ref rc), .val (.ref sx), .val (.ref re), .val (.int (0 : Int32)), .unset] []))
        refine own_Go.st (fun _ kt => XS.iload X9.here hx rfl (hb hby at_156) rfl kt) ?_
        show own_Go p e below _ (T9.setTop (mkF m 158 #[.val (.int p0), .val (.int p1), .val (.int p2), .val (.int p3), .val (.int (0 : Int32)), .val (.int (1 : Int32)), .val (.int xc0), .val (.int xc1), .val (.int xc2), .val (.ref rc), .val (.ref sx), .val (.ref re), .val (.int (0 : Int32)), .unset] [(.int (0 : Int32))]))
        refine own_Go.st (fun _ kt => XS.iconst X9.here hx rfl (hb hby at_158) kt) ?_
        show own_Go p e below _ (T9.setTop (mkF m 159 #[.val (.int p0), .val (.int p1), .val (.int p2), .val (.int p3), .val (.int (0 : Int32)), .val (.int (1 : Int32)), .val (.int xc0), .val (.int xc1), .val (.int xc2), .val (.ref rc), .val (.ref sx), .val (.ref re), .val (.int (0 : Int32)), .unset] [(.int (2 : Int32)), (.int (0 : Int32))]))
        refine own_Go.st (fun _ kt => XS.icmpYes X9.here hx rfl (pc0 := 159) (pc' := 173) rfl (hb hby at_159) rfl (flt (by decide)).2.2.2 (by decide) (by decide) kt) ?_
        show own_Go p e below _ (T9.setTop (mkF m 173 #[.val (.int p0), .val (.int p1), .val (.int p2), .val (.int p3), .val (.int (0 : Int32)), .val (.int (1 : Int32)), .val (.int xc0), .val (.int xc1), .val (.int xc2), .val (.ref rc), .val (.ref sx), .val (.ref re), .val (.int (0 : Int32)), .unset] []))
        refine own_Go.st (fun _ kt => XS.aload X9.here hx rfl (hb hby at_173) rfl rfl kt) ?_
        show own_Go p e below _ (T9.setTop (mkF m 175 #[.val (.int p0), .val (.int p1), .val (.int p2), .val (.int p3), .val (.int (0 : Int32)), .val (.int (1 : Int32)), .val (.int xc0), .val (.int xc1), .val (.int xc2), .val (.ref rc), .val (.ref sx), .val (.ref re), .val (.int (0 : Int32)), .unset] [(.ref re)]))
        refine own_Go.st (fun _ kt => XS.iload X9.here hx rfl (hb hby at_175) rfl kt) ?_
        show own_Go p e below _ (T9.setTop (mkF m 177 #[.val (.int p0), .val (.int p1), .val (.int p2), .val (.int p3), .val (.int (0 : Int32)), .val (.int (1 : Int32)), .val (.int xc0), .val (.int xc1), .val (.int xc2), .val (.ref rc), .val (.ref sx), .val (.ref re), .val (.int (0 : Int32)), .unset] [(.int (0 : Int32)), (.ref re)]))
        refine own_Go.st (fun _ kt => XS.bipush X9.here hx rfl (hb hby at_177) kt) ?_
        show own_Go p e below _ (T9.setTop (mkF m 179 #[.val (.int p0), .val (.int p1), .val (.int p2), .val (.int p3), .val (.int (0 : Int32)), .val (.int (1 : Int32)), .val (.int xc0), .val (.int xc1), .val (.int xc2), .val (.ref rc), .val (.ref sx), .val (.ref re), .val (.int (0 : Int32)), .unset] [(.int (10 : Int32)), (.int (0 : Int32)), (.ref re)]))
        obtain ⟨T11, h11, X11, e11, W11, st11⟩ := own_bast X9 hx hZ7 e9 A9 (show (0 : Int32).toInt = ((([] : List Int8).length : Nat) : Int) by decide) (by first | omega | (simp only [List.length_append, List.length_cons, List.length_nil] <;> omega)) own_nar10 (g := (mkF m 179 #[.val (.int p0), .val (.int p1), .val (.int p2), .val (.int p3), .val (.int (0 : Int32)), .val (.int (1 : Int32)), .val (.int xc0), .val (.int xc1), .val (.int xc2), .val (.ref rc), .val (.ref sx), .val (.ref re), .val (.int (0 : Int32)), .unset] [(.int (10 : Int32)), (.int (0 : Int32)), (.ref re)])) rfl rfl (hb hby at_179)
        refine own_Go.st st11 ?_
        have N11 := Fr.snoc X11 N7 n0_re
        have a11 := own_Ar.set A9 W11
        have zz12 : n0 ≤ Array.size h11 := Nat.le_trans zz10 (Nat.le_of_eq (Wr.size W11).symm)
        have kk12 : Keep h0 h11 [] := kk10.wr W11 (Or.inr b_re)
        have hk12 : Array.size T7.heap ≤ Array.size h11 := Nat.le_trans hk10 (Nat.le_of_eq (Wr.size W11).symm)
        show own_Go p e below _ (T11.setTop (mkF m 180 #[.val (.int p0), .val (.int p1), .val (.int p2), .val (.int p3), .val (.int (0 : Int32)), .val (.int (1 : Int32)), .val (.int xc0), .val (.int xc1), .val (.int xc2), .val (.ref rc), .val (.ref sx), .val (.ref re), .val (.int (0 : Int32)), .unset] []))
        have afe : own_Ar Z h11 re .byte 8 (own_by ([] ++ [10])) := a11.congr fun j _ => own_by_snoc10 _ j
        have hzl : ((0 : Int32) + (1 : Int32)).toInt = ((([] ++ [10]).length : Nat) : Int) := by rw [List.length_append]; exact own_inc (show (0 : Int32).toInt = ((([] : List Int8).length : Nat) : Int) by decide) (by first | omega | (simp only [List.length_append, List.length_cons, List.length_nil] <;> omega))
        refine own_Go.st (fun _ kt => XS.iload X11.here hx rfl (hb hby at_180) rfl kt) ?_
        show own_Go p e below _ (T11.setTop (mkF m 182 #[.val (.int p0), .val (.int p1), .val (.int p2), .val (.int p3), .val (.int (0 : Int32)), .val (.int (1 : Int32)), .val (.int xc0), .val (.int xc1), .val (.int xc2), .val (.ref rc), .val (.ref sx), .val (.ref re), .val (.int (0 : Int32)), .unset] [(.int (0 : Int32))]))
        refine own_Go.st (fun _ kt => XS.iconst X11.here hx rfl (hb hby at_182) kt) ?_
        show own_Go p e below _ (T11.setTop (mkF m 183 #[.val (.int p0), .val (.int p1), .val (.int p2), .val (.int p3), .val (.int (0 : Int32)), .val (.int (1 : Int32)), .val (.int xc0), .val (.int xc1), .val (.int xc2), .val (.ref rc), .val (.ref sx), .val (.ref re), .val (.int (0 : Int32)), .unset] [(.int (1 : Int32)), (.int (0 : Int32))]))
        refine own_Go.st (fun _ kt => XS.iadd X11.here hx rfl (hb hby at_183) rfl kt) ?_
        show own_Go p e below _ (T11.setTop (mkF m 184 #[.val (.int p0), .val (.int p1), .val (.int p2), .val (.int p3), .val (.int (0 : Int32)), .val (.int (1 : Int32)), .val (.int xc0), .val (.int xc1), .val (.int xc2), .val (.ref rc), .val (.ref sx), .val (.ref re), .val (.int (0 : Int32)), .unset] [(.int ((0 : Int32) + (1 : Int32)))]))
        refine own_Go.st (fun _ kt => XS.istore X11.here hx rfl (hb hby at_184) rfl (l' := #[.val (.int p0), .val (.int p1), .val (.int p2), .val (.int p3), .val (.int (0 : Int32)), .val (.int (1 : Int32)), .val (.int xc0), .val (.int xc1), .val (.int xc2), .val (.ref rc), .val (.ref sx), .val (.ref re), .val (.int ((0 : Int32) + (1 : Int32))), .unset]) rfl kt) ?_
        show own_Go p e below _ (T11.setTop (mkF m 186 #[.val (.int p0), .val (.int p1), .val (.int p2), .val (.int p3), .val (.int (0 : Int32)), .val (.int (1 : Int32)), .val (.int xc0), .val (.int xc1), .val (.int xc2), .val (.ref rc), .val (.ref sx), .val (.ref re), .val (.int ((0 : Int32) + (1 : Int32))), .unset] []))
        refine own_Go.st (fun _ kt => XS.aload X11.here hx rfl (hb hby at_186) rfl rfl kt) ?_
        show own_Go p e below _ (T11.setTop (mkF m 188 #[.val (.int p0), .val (.int p1), .val (.int p2), .val (.int p3), .val (.int (0 : Int32)), .val (.int (1 : Int32)), .val (.int xc0), .val (.int xc1), .val (.int xc2), .val (.ref rc), .val (.ref sx), .val (.ref re), .val (.int ((0 : Int32) + (1 : Int32))), .unset] [(.ref sx)]))
        refine own_Go.st (fun _ kt => XS.iload X11.here hx rfl (hb hby at_188) rfl kt) ?_
        show own_Go p e below _ (T11.setTop (mkF m 190 #[.val (.int p0), .val (.int p1), .val (.int p2), .val (.int p3), .val (.int (0 : Int32)), .val (.int (1 : Int32)), .val (.int xc0), .val (.int xc1), .val (.int xc2), .val (.ref rc), .val (.ref sx), .val (.ref re), .val (.int ((0 : Int32) + (1 : Int32))), .unset] [(.int (1 : Int32)), (.ref sx)]))
        have f13 := ((fsl.1.ext E9).wr W11)
        have f14 := ((fsl.2.1.ext E9).other W11 (Or.inl ne_sx_re))
        have f15 := ((fsl.2.2.1.ext E9).other W11 (Or.inl ne_sx_re))
        have f16 := ((fsl.2.2.2.ext E9).other W11 ne_rb_re)
        have f17 := (((own_stakeep ((cs.ext E2).ext E4) KF7 (own_nst A4)).ext E9).wr W11)
        have f18 := (((own_stakeep ((sU.ext E2).ext E4) KF7 (own_nst A4)).ext E9).wr W11)
        have f19 := (((own_stakeep ((sI.ext E2).ext E4) KF7 (own_nst A4)).ext E9).wr W11)
        obtain ⟨_, _, ⟨T20, L20, k20, n20⟩, -, X20, hS20, hgr20, ⟨Lc20, hQ20, l20, y20, z20, ib20⟩, st20⟩ := callSS X11 hx (y := (⟨"com/example/marshal/marshal/pipelines/LogLines", "line", "(Ljava/lang/String;Z)[B"⟩ : MethodName)) ho7 (mvT hZ7 (own_w hw 22 rfl)) (mvT hZ7 (own_w hw 23 rfl)) (mvT hZ7 (own_w hw 24 rfl)) (mvT hZ7 (own_w hw 25 rfl)) (by decide) (own_backSI (W := 0) (own_line l Z a0 hw [] sx rb (1 : Int32) [] [] ru zc [""] h11 (Array.size h11) (Nat.le_refl _) ⟨f13, f14, f15, f16⟩ (Nat.le_of_ble_eq_true rfl) (Or.inl ⟨rfl, rfl⟩) f17 hzc f18 f19 (fun b cl q => (kk12).2.1 b cl (hkp b cl q) List.not_mem_nil) heldN hcw (by decide) rfl) hZ7 (own_w hw 25 rfl) (own_w hw 24 rfl) (by decide) (by decide) ib7) (g := (mkF m 190 #[.val (.int p0), .val (.int p1), .val (.int p2), .val (.int p3), .val (.int (0 : Int32)), .val (.int (1 : Int32)), .val (.int xc0), .val (.int xc1), .val (.int xc2), .val (.ref rc), .val (.ref sx), .val (.ref re), .val (.int ((0 : Int32) + (1 : Int32))), .unset] [(.int (1 : Int32)), (.ref sx)])) rfl (by rw [hml]; rfl) (argsL := [(.ref sx), (.int (1 : Int32))]) (rest := []) (lenOf own_pd31 rfl) rfl (by show 2 * 0 + _ ≤ _; exact Nat.le_of_eq rfl) (hb hby at_190) (fun _ _ => ⟨rfl, e11, (by decide : 5 + 12 ≤ _), (by decide : 19 + 120 ≤ _)⟩)
        dsimp only [Pt.U, Pt.locs, Pt.cells, Pt.slots] at X20 l20 y20 z20 st20 hQ20 hS20 hgr20 ib20
        subst l20 y20 z20
        obtain ⟨rn, rfl, N20q, an20, KF20⟩ := hQ20
        have N20 := Fr.app N11 (fun y hy => Nat.le_trans zz12 (N20q y hy))
        refine own_Go.st (fun _ kt => st20.trans kt) ?_
        have hZ20 : Z.Warmed39 (s.setVm T20.vm).vm := State.Warmed39.trans (t := s.setVm T7.vm) hZ7 hS20.1
        have ho20 : (s.setVm T20.vm).vm.findClass "com/example/marshal/marshal/pipelines/LogLinesLinePinLaw" = some m.cls := by rw [show (s.setVm T20.vm).vm = T20.vm from rfl, hS20.1.alike.findClass]; exact ho7
        have hT20 : s.Since T20.vm (Array.size T20.heap) := State.Since.trans hT7 hS20 (Nat.le_trans hk12 (Nat.le_trans (Nat.le_of_eq (congrArg Array.size e11).symm) hgr20))
        have zz21 : n0 ≤ Array.size T20.heap := Nat.le_trans zz12 KF20.1
        have kk21 : Keep h0 T20.heap [] := kk12.trans KF20 all0
        show own_Go p e below _ (T20.setTop (mkF m 193 #[.val (.int p0), .val (.int p1), .val (.int p2), .val (.int p3), .val (.int (0 : Int32)), .val (.int (1 : Int32)), .val (.int xc0), .val (.int xc1), .val (.int xc2), .val (.ref rc), .val (.ref sx), .val (.ref re), .val (.int ((0 : Int32) + (1 : Int32))), .unset] [(.ref rn)]))
        have hee : own_enc ([] ++ [] ++ [10]) = ([] ++ [10]) := by simp only [List.cons_append, List.nil_append, List.append_nil, List.append_assoc, own_enc_cons, own_enc_nil, own_e1_ten, own_e1p1 hC0, own_e1p1 hC1, own_e1p1 hC2]
        rw [hee] at an20
        refine own_Go.st (fun _ kt => XS.astore X20.here hx rfl (hb hby at_193) rfl rfl (l' := #[.val (.int p0), .val (.int p1), .val (.int p2), .val (.int p3), .val (.int (0 : Int32)), .val (.int (1 : Int32)), .val (.int xc0), .val (.int xc1), .val (.int xc2), .val (.ref rc), .val (.ref sx), .val (.ref re), .val (.int ((0 : Int32) + (1 : Int32))), .val (.ref rn)]) rfl kt) ?_
        show own_Go p e below _ (T20.setTop (mkF m 195 #[.val (.int p0), .val (.int p1), .val (.int p2), .val (.int p3), .val (.int (0 : Int32)), .val (.int (1 : Int32)), .val (.int xc0), .val (.int xc1), .val (.int xc2), .val (.ref rc), .val (.ref sx), .val (.ref re), .val (.int ((0 : Int32) + (1 : Int32))), .val (.ref rn)] []))
        refine own_Go.st (fun _ kt => XS.aload X20.here hx rfl (hb hby at_195) rfl rfl kt) ?_
        show own_Go p e below _ (T20.setTop (mkF m 197 #[.val (.int p0), .val (.int p1), .val (.int p2), .val (.int p3), .val (.int (0 : Int32)), .val (.int (1 : Int32)), .val (.int xc0), .val (.int xc1), .val (.int xc2), .val (.ref rc), .val (.ref sx), .val (.ref re), .val (.int ((0 : Int32) + (1 : Int32))), .val (.ref rn)] [(.ref rn)]))
        refine own_Go.st (fun _ kt => XS.aload X20.here hx rfl (hb hby at_197) rfl rfl kt) ?_
        show own_Go p e below _ (T20.setTop (mkF m 199 #[.val (.int p0), .val (.int p1), .val (.int p2), .val (.int p3), .val (.int (0 : Int32)), .val (.int (1 : Int32)), .val (.int xc0), .val (.int xc1), .val (.int xc2), .val (.ref rc), .val (.ref sx), .val (.ref re), .val (.int ((0 : Int32) + (1 : Int32))), .val (.ref rn)] [(.ref re), (.ref rn)]))
        refine own_Go.st (fun _ kt => XS.iload X20.here hx rfl (hb hby at_199) rfl kt) ?_
        show own_Go p e below _ (T20.setTop (mkF m 201 #[.val (.int p0), .val (.int p1), .val (.int p2), .val (.int p3), .val (.int (0 : Int32)), .val (.int (1 : Int32)), .val (.int xc0), .val (.int xc1), .val (.int xc2), .val (.ref rc), .val (.ref sx), .val (.ref re), .val (.int ((0 : Int32) + (1 : Int32))), .val (.ref rn)] [(.int ((0 : Int32) + (1 : Int32))), (.ref re), (.ref rn)]))
        have f22 := (afe.keep KF20 nin0)
        obtain ⟨_, _, ⟨T23, L23, k23, n23⟩, -, X23, ⟨Lc23, hQ23, l23, y23, z23⟩, st23⟩ := Jvm.LawKit.callS X20 hx (y := (⟨"com/example/marshal/marshal/pipelines/LogLinesLinePinLaw", "same", "([B[BI)Z"⟩ : MethodName)) ho20 (mvT hZ20 (own_w hw 169 rfl)) (mvT hZ20 (own_w hw 170 rfl)) (mvT hZ20 (own_w hw 171 rfl)) (mvT hZ20 (own_w hw 172 rfl)) (by decide) (backOf (W := 0) (own_same l Z a0 hw [] rn re ((0 : Int32) + (1 : Int32)) ([] ++ [10]) T20.heap n0 zz21 an20 f22 hzl) hZ20 (own_w hw 172 rfl) (own_w hw 171 rfl) (by decide) (by decide)) (g := (mkF m 201 #[.val (.int p0), .val (.int p1), .val (.int p2), .val (.int p3), .val (.int (0 : Int32)), .val (.int (1 : Int32)), .val (.int xc0), .val (.int xc1), .val (.int xc2), .val (.ref rc), .val (.ref sx), .val (.ref re), .val (.int ((0 : Int32) + (1 : Int32))), .val (.ref rn)] [(.int ((0 : Int32) + (1 : Int32))), (.ref re), (.ref rn)])) rfl (by rw [hml]; rfl) (argsL := [(.ref rn), (.ref re), (.int ((0 : Int32) + (1 : Int32)))]) (rest := []) (lenOf own_pd32 rfl) rfl (by show 2 * 0 + _ ≤ _; exact Nat.le_of_eq rfl) (hb hby at_201) (fun _ _ => ⟨rfl, rfl, (by decide : 17 + 0 ≤ _), (by decide : 139 + 0 ≤ _)⟩)
        dsimp only [Pt.U, Pt.locs, Pt.cells, Pt.slots] at X23 l23 y23 z23 st23 hQ23
        subst l23 y23 z23
        obtain ⟨rfl, N23q, hh23⟩ := hQ23
        have N23 := Fr.app N20 N23q
        refine own_Go.st (fun _ kt => st23 _ kt) ?_
        show own_Go p e below _ (T23.setTop (mkF m 204 #[.val (.int p0), .val (.int p1), .val (.int p2), .val (.int p3), .val (.int (0 : Int32)), .val (.int (1 : Int32)), .val (.int xc0), .val (.int xc1), .val (.int xc2), .val (.ref rc), .val (.ref sx), .val (.ref re), .val (.int ((0 : Int32) + (1 : Int32))), .val (.ref rn)] [(.int (1 : Int32))]))
        exact own_retWZ X23 hx Bd.notSynchronized Bd.returns hT20 (Nat.le_trans (Nat.le_of_eq (congrArg Array.size rfl)) (Nat.le_of_eq (congrArg Array.size hh23).symm)) (Or.inr rfl) (hb hby at_204) (by decide) (by decide) ⟨rfl, N23⟩
      · show own_Go p e below _ (T9.setTop (mkF m 107 #[.val (.int p0), .val (.int p1), .val (.int p2), .val (.int p3), .val (.int (0 : Int32)), .val (.int (0 : Int32)), .val (.int xc0), .val (.int xc1), .val (.int xc2), .val (.ref rc), .val (.ref sx), .val (.ref re), .val (.int (0 : Int32)), .unset] [(.int (0 : Int32))]))
        refine own_Go.st (fun _ kt => XS.ifNo X9.here hx rfl (hb hby at_107) rfl ((if0 _ _).trans (teq (by decide)).2) kt) ?_
        show own_Go p e below _ (T9.setTop (mkF m 110 #[.val (.int p0), .val (.int p1), .val (.int p2), .val (.int p3), .val (.int (0 : Int32)), .val (.int (0 : Int32)), .val (.int xc0), .val (.int xc1), .val (.int xc2), .val (.ref rc), .val (.ref sx), .val (.ref re), .val (.int (0 : Int32)), .unset] []))
        refine own_Go.st (fun _ kt => XS.aload X9.here hx rfl (hb hby at_110) rfl rfl kt) ?_
        show own_Go p e below _ (T9.setTop (mkF m 112 #[.val (.int p0), .val (.int p1), .val (.int p2), .val (.int p3), .val (.int (0 : Int32)), .val (.int (0 : Int32)), .val (.int xc0), .val (.int xc1), .val (.int xc2), .val (.ref rc), .val (.ref sx), .val (.ref re), .val (.int (0 : Int32)), .unset] [(.ref re)]))
        refine own_Go.st (fun _ kt => XS.iload X9.here hx rfl (hb hby at_112) rfl kt) ?_
        show own_Go p e below _ (T9.setTop (mkF m 114 #[.val (.int p0), .val (.int p1), .val (.int p2), .val (.int p3), .val (.int (0 : Int32)), .val (.int (0 : Int32)), .val (.int xc0), .val (.int xc1), .val (.int xc2), .val (.ref rc), .val (.ref sx), .val (.ref re), .val (.int (0 : Int32)), .unset] [(.int (0 : Int32)), (.ref re)]))
        refine own_Go.st (fun _ kt => XS.bipush X9.here hx rfl (hb hby at_114) kt) ?_
        show own_Go p e below _ (T9.setTop (mkF m 116 #[.val (.int p0), .val (.int p1), .val (.int p2), .val (.int p3), .val (.int (0 : Int32)), .val (.int (0 : Int32)), .val (.int xc0), .val (.int xc1), .val (.int xc2), .val (.ref rc), .val (.ref sx), .val (.ref re), .val (.int (0 : Int32)), .unset] [(.int (10 : Int32)), (.int (0 : Int32)), (.ref re)]))
        obtain ⟨T24, h24, X24, e24, W24, st24⟩ := own_bast X9 hx hZ7 e9 A9 (i := 0) (by decide) (by decide) own_nar10 (g := (mkF m 116 #[.val (.int p0), .val (.int p1), .val (.int p2), .val (.int p3), .val (.int (0 : Int32)), .val (.int (0 : Int32)), .val (.int xc0), .val (.int xc1), .val (.int xc2), .val (.ref rc), .val (.ref sx), .val (.ref re), .val (.int (0 : Int32)), .unset] [(.int (10 : Int32)), (.int (0 : Int32)), (.ref re)])) rfl rfl (hb hby at_116)
        refine own_Go.st st24 ?_
        have N24 := Fr.snoc X24 N7 n0_re
        have a24 := own_Ar.set A9 W24
        have zz25 : n0 ≤ Array.size h24 := Nat.le_trans zz10 (Nat.le_of_eq (Wr.size W24).symm)
        have kk25 : Keep h0 h24 [] := kk10.wr W24 (Or.inr b_re)
        have hk25 : Array.size T7.heap ≤ Array.size h24 := Nat.le_trans hk10 (Nat.le_of_eq (Wr.size W24).symm)
        show own_Go p e below _ (T24.setTop (mkF m 117 #[.val (.int p0), .val (.int p1), .val (.int p2), .val (.int p3), .val (.int (0 : Int32)), .val (.int (0 : Int32)), .val (.int xc0), .val (.int xc1), .val (.int xc2), .val (.ref rc), .val (.ref sx), .val (.ref re), .val (.int (0 : Int32)), .unset] []))
        have ae0 : own_Ar Z h24 re .byte 8 (own_by [10]) := a24.congr fun j _ => own_by_snoc10 [] j
        refine own_Go.st (fun _ kt => XS.iload X24.here hx rfl (hb hby at_117) rfl kt) ?_
        show own_Go p e below _ (T24.setTop (mkF m 119 #[.val (.int p0), .val (.int p1), .val (.int p2), .val (.int p3), .val (.int (0 : Int32)), .val (.int (0 : Int32)), .val (.int xc0), .val (.int xc1), .val (.int xc2), .val (.ref rc), .val (.ref sx), .val (.ref re), .val (.int (0 : Int32)), .unset] [(.int (0 : Int32))]))
        refine own_Go.st (fun _ kt => XS.iconst X24.here hx rfl (hb hby at_119) kt) ?_
        show own_Go p e below _ (T24.setTop (mkF m 120 #[.val (.int p0), .val (.int p1), .val (.int p2), .val (.int p3), .val (.int (0 : Int32)), .val (.int (0 : Int32)), .val (.int xc0), .val (.int xc1), .val (.int xc2), .val (.ref rc), .val (.ref sx), .val (.ref re), .val (.int (0 : Int32)), .unset] [(.int (1 : Int32)), (.int (0 : Int32))]))
        refine own_Go.st (fun _ kt => XS.iadd X24.here hx rfl (hb hby at_120) rfl kt) ?_
        show own_Go p e below _ (T24.setTop (mkF m 121 #[.val (.int p0), .val (.int p1), .val (.int p2), .val (.int p3), .val (.int (0 : Int32)), .val (.int (0 : Int32)), .val (.int xc0), .val (.int xc1), .val (.int xc2), .val (.ref rc), .val (.ref sx), .val (.ref re), .val (.int (0 : Int32)), .unset] [(.int ((0 : Int32) + (1 : Int32)))]))
        refine own_Go.st (fun _ kt => XS.istore X24.here hx rfl (hb hby at_121) rfl (l' := #[.val (.int p0), .val (.int p1), .val (.int p2), .val (.int p3), .val (.int (0 : Int32)), .val (.int (0 : Int32)), .val (.int xc0), .val (.int xc1), .val (.int xc2), .val (.ref rc), .val (.ref sx), .val (.ref re), .val (.int ((0 : Int32) + (1 : Int32))), .unset]) rfl kt) ?_
        show own_Go p e below _ (T24.setTop (mkF m 123 #[.val (.int p0), .val (.int p1), .val (.int p2), .val (.int p3), .val (.int (0 : Int32)), .val (.int (0 : Int32)), .val (.int xc0), .val (.int xc1), .val (.int xc2), .val (.ref rc), .val (.ref sx), .val (.ref re), .val (.int ((0 : Int32) + (1 : Int32))), .unset] []))
        rw [show ((0 : Int32) + (1 : Int32)) = (1 : Int32) from (by decide)]
        show own_Go p e below _ (T24.setTop (mkF m 123 #[.val (.int p0), .val (.int p1), .val (.int p2), .val (.int p3), .val (.int (0 : Int32)), .val (.int (0 : Int32)), .val (.int xc0), .val (.int xc1), .val (.int xc2), .val (.ref rc), .val (.ref sx), .val (.ref re), .val (.int (1 : Int32)), .unset] []))
        refine own_Go.st (fun _ kt => XS.iload X24.here hx rfl (hb hby at_123) rfl kt) ?_
        show own_Go p e below _ (T24.setTop (mkF m 125 #[.val (.int p0), .val (.int p1), .val (.int p2), .val (.int p3), .val (.int (0 : Int32)), .val (.int (0 : Int32)), .val (.int xc0), .val (.int xc1), .val (.int xc2), .val (.ref rc), .val (.ref sx), .val (.ref re), .val (.int (1 : Int32)), .unset] [(.int (0 : Int32))]))
        refine own_Go.st (fun _ kt => XS.ifYes X24.here hx rfl (pc0 := 125) (pc' := 139) rfl (hb hby at_125) rfl ((if0 _ _).trans (flt (by decide)).2.2.2) (by decide) (by decide) kt) ?_
        show own_Go p e below _ (T24.setTop (mkF m 139 #[.val (.int p0), .val (.int p1), .val (.int p2), .val (.int p3), .val (.int (0 : Int32)), .val (.int (0 : Int32)), .val (.int xc0), .val (.int xc1), .val (.int xc2), .val (.ref rc), .val (.ref sx), .val (.ref re), .val (.int (1 : Int32)), .unset] []))
        refine own_Go.st (fun _ kt => XS.iload X24.here hx rfl (hb hby at_139) rfl kt) ?_
        show own_Go p e below _ (T24.setTop (mkF m 141 #[.val (.int p0), .val (.int p1), .val (.int p2), .val (.int p3), .val (.int (0 : Int32)), .val (.int (0 : Int32)), .val (.int xc0), .val (.int xc1), .val (.int xc2), .val (.ref rc), .val (.ref sx), .val (.ref re), .val (.int (1 : Int32)), .unset] [(.int (0 : Int32))]))
        refine own_Go.st (fun _ kt => XS.iconst X24.here hx rfl (hb hby at_141) kt) ?_
        show own_Go p e below _ (T24.setTop (mkF m 142 #[.val (.int p0), .val (.int p1), .val (.int p2), .val (.int p3), .val (.int (0 : Int32)), .val (.int (0 : Int32)), .val (.int xc0), .val (.int xc1), .val (.int xc2), .val (.ref rc), .val (.ref sx), .val (.ref re), .val (.int (1 : Int32)), .unset] [(.int (1 : Int32)), (.int (0 : Int32))]))
        refine own_Go.st (fun _ kt => XS.icmpYes X24.here hx rfl (pc0 := 142) (pc' := 156) rfl (hb hby at_142) rfl (flt (by decide)).2.2.2 (by decide) (by decide) kt) ?_
        show own_Go p e below _ (T24.setTop (mkF m 156 #[.val (.int p0), .val (.int p1), .val (.int p2), .val (.int p3), .val (.int (0 : Int32)), .val (.int (0 : Int32)), .val (.int xc0), .val (.int xc1), .val (.int xc2), .val (.ref rc), .val (.ref sx), .val (.ref re), .val (.int (1 : Int32)), .unset] []))
        refine own_Go.st (fun _ kt => XS.iload X24.here hx rfl (hb hby at_156) rfl kt) ?_
        show own_Go p e below _ (T24.setTop (mkF m 158 #[.val (.int p0), .val (.int p1), .val (.int p2), .val (.int p3), .val (.int (0 : Int32)), .val (.int (0 : Int32)), .val (.int xc0), .val (.int xc1), .val (.int xc2), .val (.ref rc), .val (.ref sx), .val (.ref re), .val (.int (1 : Int32)), .unset] [(.int (0 : Int32))]))
        refine own_Go.st (fun _ kt => XS.iconst X24.here hx rfl (hb hby at_158) kt) ?_
        show own_Go p e below _ (T24.setTop (mkF m 159 #[.val (.int p0), .val (.int p1), .val (.int p2), .val (.int p3), .val (.int (0 : Int32)), .val (.int (0 : Int32)), .val (.int xc0), .val (.int xc1), .val (.int xc2), .val (.ref rc), .val (.ref sx), .val (.ref re), .val (.int (1 : Int32)), .unset] [(.int (2 : Int32)), (.int (0 : Int32))]))
        refine own_Go.st (fun _ kt => XS.icmpYes X24.here hx rfl (pc0 := 159) (pc' := 173) rfl (hb hby at_159) rfl (flt (by decide)).2.2.2 (by decide) (by decide) kt) ?_
        show own_Go p e below _ (T24.setTop (mkF m 173 #[.val (.int p0), .val (.int p1), .val (.int p2), .val (.int p3), .val (.int (0 : Int32)), .val (.int (0 : Int32)), .val (.int xc0), .val (.int xc1), .val (.int xc2), .val (.ref rc), .val (.ref sx), .val (.ref re), .val (.int (1 : Int32)), .unset] []))
        refine own_Go.st (fun _ kt => XS.aload X24.here hx rfl (hb hby at_173) rfl rfl kt) ?_
        show own_Go p e below _ (T24.setTop (mkF m 175 #[.val (.int p0), .val (.int p1), .val (.int p2), .val (.int p3), .val (.int (0 : Int32)), .val (.int (0 : Int32)), .val (.int xc0), .val (.int xc1), .val (.int xc2), .val (.ref rc), .val (.ref sx), .val (.ref re), .val (.int (1 : Int32)), .unset] [(.ref re)]))
        refine own_Go.st (fun _ kt => XS.iload X24.here hx rfl (hb hby at_175) rfl kt) ?_
        show own_Go p e below _ (T24.setTop (mkF m 177 #[.val (.int p0), .val (.int p1), .val (.int p2), .val (.int p3), .val (.int (0 : Int32)), .val (.int (0 : Int32)), .val (.int xc0), .val (.int xc1), .val (.int xc2), .val (.ref rc), .val (.ref sx), .val (.ref re), .val (.int (1 : Int32)), .unset] [(.int (1 : Int32)), (.ref re)]))
        refine own_Go.st (fun _ kt => XS.bipush X24.here hx rfl (hb hby at_177) kt) ?_
        show own_Go p e below _ (T24.setTop (mkF m 179 #[.val (.int p0), .val (.int p1), .val (.int p2), .val (.int p3), .val (.int (0 : Int32)), .val (.int (0 : Int32)), .val (.int xc0), .val (.int xc1), .val (.int xc2), .val (.ref rc), .val (.ref sx), .val (.ref re), .val (.int (1 : Int32)), .unset] [(.int (10 : Int32)), (.int (1 : Int32)), (.ref re)]))
        obtain ⟨T26, h26, X26, e26, W26, st26⟩ := own_bast X24 hx hZ7 e24 ae0 (show (1 : Int32).toInt = ((([10] : List Int8).length : Nat) : Int) by decide) (by first | omega | (simp only [List.length_append, List.length_cons, List.length_nil] <;> omega)) own_nar10 (g := (mkF m 179 #[.val (.int p0), .val (.int p1), .val (.int p2), .val (.int p3), .val (.int (0 : Int32)), .val (.int (0 : Int32)), .val (.int xc0), .val (.int xc1), .val (.int xc2), .val (.ref rc), .val (.ref sx), .val (.ref re), .val (.int (1 : Int32)), .unset] [(.int (10 : Int32)), (.int (1 : Int32)), (.ref re)])) rfl rfl (hb hby at_179)
        refine own_Go.st st26 ?_
        have N26 := Fr.snoc X26 N24 n0_re
        have a26 := own_Ar.set ae0 W26
        have zz27 : n0 ≤ Array.size h26 := Nat.le_trans zz25 (Nat.le_of_eq (Wr.size W26).symm)
        have kk27 : Keep h0 h26 [] := kk25.wr W26 (Or.inr b_re)
        have hk27 : Array.size T7.heap ≤ Array.size h26 := Nat.le_trans hk25 (Nat.le_of_eq (Wr.size W26).symm)
        show own_Go p e below _ (T26.setTop (mkF m 180 #[.val (.int p0), .val (.int p1), .val (.int p2), .val (.int p3), .val (.int (0 : Int32)), .val (.int (0 : Int32)), .val (.int xc0), .val (.int xc1), .val (.int xc2), .val (.ref rc), .val (.ref sx), .val (.ref re), .val (.int (1 : Int32)), .unset] []))
        have afe : own_Ar Z h26 re .byte 8 (own_by ([10] ++ [10])) := a26.congr fun j _ => own_by_snoc10 _ j
        have hzl : ((1 : Int32) + (1 : Int32)).toInt = ((([10] ++ [10]).length : Nat) : Int) := by rw [List.length_append]; exact own_inc (show (1 : Int32).toInt = ((([10] : List Int8).length : Nat) : Int) by decide) (by first | omega | (simp only [List.length_append, List.length_cons, List.length_nil] <;> omega))
        refine own_Go.st (fun _ kt => XS.iload X26.here hx rfl (hb hby at_180) rfl kt) ?_
        show own_Go p e below _ (T26.setTop (mkF m 182 #[.val (.int p0), .val (.int p1), .val (.int p2), .val (.int p3), .val (.int (0 : Int32)), .val (.int (0 : Int32)), .val (.int xc0), .val (.int xc1), .val (.int xc2), .val (.ref rc), .val (.ref sx), .val (.ref re), .val (.int (1 : Int32)), .unset] [(.int (1 : Int32))]))
        refine own_Go.st (fun _ kt => XS.iconst X26.here hx rfl (hb hby at_182) kt) ?_
        show own_Go p e below _ (T26.setTop (mkF m 183 #[.val (.int p0), .val (.int p1), .val (.int p2), .val (.int p3), .val (.int (0 : Int32)), .val (.int (0 : Int32)), .val (.int xc0), .val (.int xc1), .val (.int xc2), .val (.ref rc), .val (.ref sx), .val (.ref re), .val (.int (1 : Int32)), .unset] [(.int (1 : Int32)), (.int (1 : Int32))]))
        refine own_Go.st (fun _ kt => XS.iadd X26.here hx rfl (hb hby at_183) rfl kt) ?_
        show own_Go p e below _ (T26.setTop (mkF m 184 #[.val (.int p0), .val (.int p1), .val (.int p2), .val (.int p3), .val (.int (0 : Int32)), .val (.int (0 : Int32)), .val (.int xc0), .val (.int xc1), .val (.int xc2), .val (.ref rc), .val (.ref sx), .val (.ref re), .val (.int (1 : Int32)), .unset] [(.int ((1 : Int32) + (1 : Int32)))]))
        refine own_Go.st (fun _ kt => XS.istore X26.here hx rfl (hb hby at_184) rfl (l' := #[.val (.int p0), .val (.int p1), .val (.int p2), .val (.int p3), .val (.int (0 : Int32)), .val (.int (0 : Int32)), .val (.int xc0), .val (.int xc1), .val (.int xc2), .val (.ref rc), .val (.ref sx), .val (.ref re), .val (.int ((1 : Int32) + (1 : Int32))), .unset]) rfl kt) ?_
        show own_Go p e below _ (T26.setTop (mkF m 186 #[.val (.int p0), .val (.int p1), .val (.int p2), .val (.int p3), .val (.int (0 : Int32)), .val (.int (0 : Int32)), .val (.int xc0), .val (.int xc1), .val (.int xc2), .val (.ref rc), .val (.ref sx), .val (.ref re), .val (.int ((1 : Int32) + (1 : Int32))), .unset] []))
        refine own_Go.st (fun _ kt => XS.aload X26.here hx rfl (hb hby at_186) rfl rfl kt) ?_
        show own_Go p e below _ (T26.setTop (mkF m 188 #[.val (.int p0), .val (.int p1), .val (.int p2), .val (.int p3), .val (.int (0 : Int32)), .val (.int (0 : Int32)), .val (.int xc0), .val (.int xc1), .val (.int xc2), .val (.ref rc), .val (.ref sx), .val (.ref re), .val (.int ((1 : Int32) + (1 : Int32))), .unset] [(.ref sx)]))
        refine own_Go.st (fun _ kt => XS.iload X26.here hx rfl (hb hby at_188) rfl kt) ?_
        show own_Go p e below _ (T26.setTop (mkF m 190 #[.val (.int p0), .val (.int p1), .val (.int p2), .val (.int p3), .val (.int (0 : Int32)), .val (.int (0 : Int32)), .val (.int xc0), .val (.int xc1), .val (.int xc2), .val (.ref rc), .val (.ref sx), .val (.ref re), .val (.int ((1 : Int32) + (1 : Int32))), .unset] [(.int (0 : Int32)), (.ref sx)]))
        have f28 := (((fsl.1.ext E9).wr W24).wr W26)
        have f29 := (((fsl.2.1.ext E9).other W24 (Or.inl ne_sx_re)).other W26 (Or.inl ne_sx_re))
        have f30 := (((fsl.2.2.1.ext E9).other W24 (Or.inl ne_sx_re)).other W26 (Or.inl ne_sx_re))
        have f31 := (((fsl.2.2.2.ext E9).other W24 ne_rb_re).other W26 ne_rb_re)
        have f32 := ((((own_stakeep ((cs.ext E2).ext E4) KF7 (own_nst A4)).ext E9).wr W24).wr W26)
        have f33 := ((((own_stakeep ((sU.ext E2).ext E4) KF7 (own_nst A4)).ext E9).wr W24).wr W26)
        have f34 := ((((own_stakeep ((sI.ext E2).ext E4) KF7 (own_nst A4)).ext E9).wr W24).wr W26)
        obtain ⟨_, _, ⟨T35, L35, k35, n35⟩, -, X35, hS35, hgr35, ⟨Lc35, hQ35, l35, y35, z35, ib35⟩, st35⟩ := callSS X26 hx (y := (⟨"com/example/marshal/marshal/pipelines/LogLines", "line", "(Ljava/lang/String;Z)[B"⟩ : MethodName)) ho7 (mvT hZ7 (own_w hw 22 rfl)) (mvT hZ7 (own_w hw 23 rfl)) (mvT hZ7 (own_w hw 24 rfl)) (mvT hZ7 (own_w hw 25 rfl)) (by decide) (own_backSI (W := 0) (own_line l Z a0 hw [] sx rb (0 : Int32) [10] [] ru zc [""] h26 (Array.size h26) (Nat.le_refl _) ⟨f28, f29, f30, f31⟩ (Nat.le_of_ble_eq_true rfl) (Or.inr ⟨rfl, rfl⟩) f32 hzc f33 f34 (fun b cl q => (kk27).2.1 b cl (hkp b cl q) List.not_mem_nil) heldN hcw (by decide) rfl) hZ7 (own_w hw 25 rfl) (own_w hw 24 rfl) (by decide) (by decide) ib7) (g := (mkF m 190 #[.val (.int p0), .val (.int p1), .val (.int p2), .val (.int p3), .val (.int (0 : Int32)), .val (.int (0 : Int32)), .val (.int xc0), .val (.int xc1), .val (.int xc2), .val (.ref rc), .val (.ref sx), .val (.ref re), .val (.int ((1 : Int32) + (1 : Int32))), .unset] [(.int (0 : Int32)), (.ref sx)])) rfl (by rw [hml]; rfl) (argsL := [(.ref sx), (.int (0 : Int32))]) (rest := []) (lenOf own_pd31 rfl) rfl (by show 2 * 0 + _ ≤ _; exact Nat.le_of_eq rfl) (hb hby at_190) (fun _ _ => ⟨rfl, e26, (by decide : 5 + 12 ≤ _), (by decide : 19 + 120 ≤ _)⟩)
        dsimp only [Pt.U, Pt.locs, Pt.cells, Pt.slots] at X35 l35 y35 z35 st35 hQ35 hS35 hgr35 ib35
        subst l35 y35 z35
        obtain ⟨rn, rfl, N35q, an35, KF35⟩ := hQ35
        have N35 := Fr.app N26 (fun y hy => Nat.le_trans zz27 (N35q y hy))
        refine own_Go.st (fun _ kt => st35.trans kt) ?_
        have hZ35 : Z.Warmed39 (s.setVm T35.vm).vm := State.Warmed39.trans (t := s.setVm T7.vm) hZ7 hS35.1
        have ho35 : (s.setVm T35.vm).vm.findClass "com/example/marshal/marshal/pipelines/LogLinesLinePinLaw" = some m.cls := by rw [show (s.setVm T35.vm).vm = T35.vm from rfl, hS35.1.alike.findClass]; exact ho7
        have hT35 : s.Since T35.vm (Array.size T35.heap) := State.Since.trans hT7 hS35 (Nat.le_trans hk27 (Nat.le_trans (Nat.le_of_eq (congrArg Array.size e26).symm) hgr35))
        have zz36 : n0 ≤ Array.size T35.heap := Nat.le_trans zz27 KF35.1
        have kk36 : Keep h0 T35.heap [] := kk27.trans KF35 all0
        show own_Go p e below _ (T35.setTop (mkF m 193 #[.val (.int p0), .val (.int p1), .val (.int p2), .val (.int p3), .val (.int (0 : Int32)), .val (.int (0 : Int32)), .val (.int xc0), .val (.int xc1), .val (.int xc2), .val (.ref rc), .val (.ref sx), .val (.ref re), .val (.int ((1 : Int32) + (1 : Int32))), .unset] [(.ref rn)]))
        have hee : own_enc ([10] ++ [] ++ [10]) = ([10] ++ [10]) := by simp only [List.cons_append, List.nil_append, List.append_nil, List.append_assoc, own_enc_cons, own_enc_nil, own_e1_ten, own_e1p1 hC0, own_e1p1 hC1, own_e1p1 hC2]
        rw [hee] at an35
        refine own_Go.st (fun _ kt => XS.astore X35.here hx rfl (hb hby at_193) rfl rfl (l' := #[.val (.int p0), .val (.int p1), .val (.int p2), .val (.int p3), .val (.int (0 : Int32)), .val (.int (0 : Int32)), .val (.int xc0), .val (.int xc1), .val (.int xc2), .val (.ref rc), .val (.ref sx), .val (.ref re), .val (.int ((1 : Int32) + (1 : Int32))), .val (.ref rn)]) rfl kt) ?_
        show own_Go p e below _ (T35.setTop (mkF m 195 #[.val (.int p0), .val (.int p1), .val (.int p2), .val (.int p3), .val (.int (0 : Int32)), .val (.int (0 : Int32)), .val (.int xc0), .val (.int xc1), .val (.int xc2), .val (.ref rc), .val (.ref sx), .val (.ref re), .val (.int ((1 : Int32) + (1 : Int32))), .val (.ref rn)] []))
        refine own_Go.st (fun _ kt => XS.aload X35.here hx rfl (hb hby at_195) rfl rfl kt) ?_
        show own_Go p e below _ (T35.setTop (mkF m 197 #[.val (.int p0), .val (.int p1), .val (.int p2), .val (.int p3), .val (.int (0 : Int32)), .val (.int (0 : Int32)), .val (.int xc0), .val (.int xc1), .val (.int xc2), .val (.ref rc), .val (.ref sx), .val (.ref re), .val (.int ((1 : Int32) + (1 : Int32))), .val (.ref rn)] [(.ref rn)]))
        refine own_Go.st (fun _ kt => XS.aload X35.here hx rfl (hb hby at_197) rfl rfl kt) ?_
        show own_Go p e below _ (T35.setTop (mkF m 199 #[.val (.int p0), .val (.int p1), .val (.int p2), .val (.int p3), .val (.int (0 : Int32)), .val (.int (0 : Int32)), .val (.int xc0), .val (.int xc1), .val (.int xc2), .val (.ref rc), .val (.ref sx), .val (.ref re), .val (.int ((1 : Int32) + (1 : Int32))), .val (.ref rn)] [(.ref re), (.ref rn)]))
        refine own_Go.st (fun _ kt => XS.iload X35.here hx rfl (hb hby at_199) rfl kt) ?_
        show own_Go p e below _ (T35.setTop (mkF m 201 #[.val (.int p0), .val (.int p1), .val (.int p2), .val (.int p3), .val (.int (0 : Int32)), .val (.int (0 : Int32)), .val (.int xc0), .val (.int xc1), .val (.int xc2), .val (.ref rc), .val (.ref sx), .val (.ref re), .val (.int ((1 : Int32) + (1 : Int32))), .val (.ref rn)] [(.int ((1 : Int32) + (1 : Int32))), (.ref re), (.ref rn)]))
        have f37 := (afe.keep KF35 nin0)
        obtain ⟨_, _, ⟨T38, L38, k38, n38⟩, -, X38, ⟨Lc38, hQ38, l38, y38, z38⟩, st38⟩ := Jvm.LawKit.callS X35 hx (y := (⟨"com/example/marshal/marshal/pipelines/LogLinesLinePinLaw", "same", "([B[BI)Z"⟩ : MethodName)) ho35 (mvT hZ35 (own_w hw 169 rfl)) (mvT hZ35 (own_w hw 170 rfl)) (mvT hZ35 (own_w hw 171 rfl)) (mvT hZ35 (own_w hw 172 rfl)) (by decide) (backOf (W := 0) (own_same l Z a0 hw [] rn re ((1 : Int32) + (1 : Int32)) ([10] ++ [10]) T35.heap n0 zz36 an35 f37 hzl) hZ35 (own_w hw 172 rfl) (own_w hw 171 rfl) (by decide) (by decide)) (g := (mkF m 201 #[.val (.int p0), .val (.int p1), .val (.int p2), .val (.int p3), .val (.int (0 : Int32)), .val (.int (0 : Int32)), .val (.int xc0), .val (.int xc1), .val (.int xc2), .val (.ref rc), .val (.ref sx), .val (.ref re), .val (.int ((1 : Int32) + (1 : Int32))), .val (.ref rn)] [(.int ((1 : Int32) + (1 : Int32))), (.ref re), (.ref rn)])) rfl (by rw [hml]; rfl) (argsL := [(.ref rn), (.ref re), (.int ((1 : Int32) + (1 : Int32)))]) (rest := []) (lenOf own_pd32 rfl) rfl (by show 2 * 0 + _ ≤ _; exact Nat.le_of_eq rfl) (hb hby at_201) (fun _ _ => ⟨rfl, rfl, (by decide : 17 + 0 ≤ _), (by decide : 139 + 0 ≤ _)⟩)
        dsimp only [Pt.U, Pt.locs, Pt.cells, Pt.slots] at X38 l38 y38 z38 st38 hQ38
        subst l38 y38 z38
        obtain ⟨rfl, N38q, hh38⟩ := hQ38
        have N38 := Fr.app N35 N38q
        refine own_Go.st (fun _ kt => st38 _ kt) ?_
        show own_Go p e below _ (T38.setTop (mkF m 204 #[.val (.int p0), .val (.int p1), .val (.int p2), .val (.int p3), .val (.int (0 : Int32)), .val (.int (0 : Int32)), .val (.int xc0), .val (.int xc1), .val (.int xc2), .val (.ref rc), .val (.ref sx), .val (.ref re), .val (.int ((1 : Int32) + (1 : Int32))), .val (.ref rn)] [(.int (1 : Int32))]))
        exact own_retWZ X38 hx Bd.notSynchronized Bd.returns hT35 (Nat.le_trans (Nat.le_of_eq (congrArg Array.size rfl)) (Nat.le_of_eq (congrArg Array.size hh38).symm)) (Or.inr rfl) (hb hby at_204) (by decide) (by decide) ⟨rfl, N38⟩
    · rw [show (p0 &&& (3 : Int32)) = (1 : Int32) from hm]
      show own_Go p e below _ (T1.setTop (mkF m 46 #[.val (.int p0), .val (.int p1), .val (.int p2), .val (.int p3), .val (.int (1 : Int32)), .val (.int xs), .val (.int xc0), .val (.int xc1), .val (.int xc2), .unset, .unset, .unset, .unset, .unset] [(.int (1 : Int32))]))
      obtain ⟨T39, h39, k39, X39, e39, E39, A39, st39⟩ := newP X1 hx hZ (own_w hw 0 rfl) e1 (g := (mkF m 46 #[.val (.int p0), .val (.int p1), .val (.int p2), .val (.int p3), .val (.int (1 : Int32)), .val (.int xs), .val (.int xc0), .val (.int xc1), .val (.int xc2), .unset, .unset, .unset, .unset, .unset] [(.int (1 : Int32))])) rfl (hb hby at_46) rfl (by decide) (cap := 3) (by decide) (by decide) (by decide) (by decide)
      obtain ⟨rc, g39⟩ : ∃ z, z = Array.size h0 := ⟨_, rfl⟩
      rw [← g39] at A39 st39
      refine own_Go.st st39 ?_
      have n0_rc : n0 ≤ rc := Nat.le_trans Z0 (Nat.le_of_eq g39.symm)
      have b_rc : Array.size h0 ≤ rc := Nat.le_trans kk0.1 (Nat.le_of_eq g39.symm)
      have zz40 : n0 ≤ Array.size h39 := Nat.le_trans Z0 E39.1
      have kk40 : Keep h0 h39 [] := kk0.ext E39
      have hk40 : Array.size h0 ≤ Array.size h39 := Nat.le_trans (Nat.le_refl _) E39.1
      show own_Go p e below _ (T39.setTop (mkF m 48 #[.val (.int p0), .val (.int p1), .val (.int p2), .val (.int p3), .val (.int (1 : Int32)), .val (.int xs), .val (.int xc0), .val (.int xc1), .val (.int xc2), .unset, .unset, .unset, .unset, .unset] [(.ref rc)]))
      have ac0 := own_Ar.new A39 (n := 1) (by decide)
      refine own_Go.st (fun _ kt => XS.astore X39.here hx rfl (hb hby at_48) rfl rfl (l' := #[.val (.int p0), .val (.int p1), .val (.int p2), .val (.int p3), .val (.int (1 : Int32)), .val (.int xs), .val (.int xc0), .val (.int xc1), .val (.int xc2), .val (.ref rc), .unset, .unset, .unset, .unset]) rfl kt) ?_
      show own_Go p e below _ (T39.setTop (mkF m 50 #[.val (.int p0), .val (.int p1), .val (.int p2), .val (.int p3), .val (.int (1 : Int32)), .val (.int xs), .val (.int xc0), .val (.int xc1), .val (.int xc2), .val (.ref rc), .unset, .unset, .unset, .unset] []))
      refine own_Go.st (fun _ kt => XS.iload X39.here hx rfl (hb hby at_50) rfl kt) ?_
      show own_Go p e below _ (T39.setTop (mkF m 52 #[.val (.int p0), .val (.int p1), .val (.int p2), .val (.int p3), .val (.int (1 : Int32)), .val (.int xs), .val (.int xc0), .val (.int xc1), .val (.int xc2), .val (.ref rc), .unset, .unset, .unset, .unset] [(.int (1 : Int32))]))
      refine own_Go.st (fun _ kt => XS.ifNo X39.here hx rfl (hb hby at_52) rfl ((if0 _ _).trans (tlt (by decide)).2.2.2) kt) ?_
      show own_Go p e below _ (T39.setTop (mkF m 55 #[.val (.int p0), .val (.int p1), .val (.int p2), .val (.int p3), .val (.int (1 : Int32)), .val (.int xs), .val (.int xc0), .val (.int xc1), .val (.int xc2), .val (.ref rc), .unset, .unset, .unset, .unset] []))
      refine own_Go.st (fun _ kt => XS.aload X39.here hx rfl (hb hby at_55) rfl rfl kt) ?_
      show own_Go p e below _ (T39.setTop (mkF m 57 #[.val (.int p0), .val (.int p1), .val (.int p2), .val (.int p3), .val (.int (1 : Int32)), .val (.int xs), .val (.int xc0), .val (.int xc1), .val (.int xc2), .val (.ref rc), .unset, .unset, .unset, .unset] [(.ref rc)]))
      refine own_Go.st (fun _ kt => XS.iconst X39.here hx rfl (hb hby at_57) kt) ?_
      show own_Go p e below _ (T39.setTop (mkF m 58 #[.val (.int p0), .val (.int p1), .val (.int p2), .val (.int p3), .val (.int (1 : Int32)), .val (.int xs), .val (.int xc0), .val (.int xc1), .val (.int xc2), .val (.ref rc), .unset, .unset, .unset, .unset] [(.int (0 : Int32)), (.ref rc)]))
      refine own_Go.st (fun _ kt => XS.iload X39.here hx rfl (hb hby at_58) rfl kt) ?_
      show own_Go p e below _ (T39.setTop (mkF m 60 #[.val (.int p0), .val (.int p1), .val (.int p2), .val (.int p3), .val (.int (1 : Int32)), .val (.int xs), .val (.int xc0), .val (.int xc1), .val (.int xc2), .val (.ref rc), .unset, .unset, .unset, .unset] [(.int xc0), (.int (0 : Int32)), (.ref rc)]))
      obtain ⟨T41, h41, X41, e41, W41, st41⟩ := own_cast X39 hx hZ e39 ac0 (i := 0) (by decide) (by decide) (own_nar_char hC0) (g := (mkF m 60 #[.val (.int p0), .val (.int p1), .val (.int p2), .val (.int p3), .val (.int (1 : Int32)), .val (.int xs), .val (.int xc0), .val (.int xc1), .val (.int xc2), .val (.ref rc), .unset, .unset, .unset, .unset] [(.int xc0), (.int (0 : Int32)), (.ref rc)])) rfl rfl (hb hby at_60)
      refine own_Go.st st41 ?_
      have N41 := Fr.snoc X41 N1 n0_rc
      have a41 := own_Ar.set ac0 W41
      have zz42 : n0 ≤ Array.size h41 := Nat.le_trans zz40 (Nat.le_of_eq (Wr.size W41).symm)
      have kk42 : Keep h0 h41 [] := kk40.wr W41 (Or.inr b_rc)
      have hk42 : Array.size h0 ≤ Array.size h41 := Nat.le_trans hk40 (Nat.le_of_eq (Wr.size W41).symm)
      show own_Go p e below _ (T41.setTop (mkF m 61 #[.val (.int p0), .val (.int p1), .val (.int p2), .val (.int p3), .val (.int (1 : Int32)), .val (.int xs), .val (.int xc0), .val (.int xc1), .val (.int xc2), .val (.ref rc), .unset, .unset, .unset, .unset] []))
      refine own_Go.st (fun _ kt => XS.iload X41.here hx rfl (hb hby at_61) rfl kt) ?_
      show own_Go p e below _ (T41.setTop (mkF m 63 #[.val (.int p0), .val (.int p1), .val (.int p2), .val (.int p3), .val (.int (1 : Int32)), .val (.int xs), .val (.int xc0), .val (.int xc1), .val (.int xc2), .val (.ref rc), .unset, .unset, .unset, .unset] [(.int (1 : Int32))]))
      refine own_Go.st (fun _ kt => XS.iconst X41.here hx rfl (hb hby at_63) kt) ?_
      show own_Go p e below _ (T41.setTop (mkF m 64 #[.val (.int p0), .val (.int p1), .val (.int p2), .val (.int p3), .val (.int (1 : Int32)), .val (.int xs), .val (.int xc0), .val (.int xc1), .val (.int xc2), .val (.ref rc), .unset, .unset, .unset, .unset] [(.int (1 : Int32)), (.int (1 : Int32))]))
      refine own_Go.st (fun _ kt => XS.icmpYes X41.here hx rfl (pc0 := 64) (pc' := 73) rfl (hb hby at_64) rfl (flt (by decide)).2.2.2 (by decide) (by decide) kt) ?_
      show own_Go p e below _ (T41.setTop (mkF m 73 #[.val (.int p0), .val (.int p1), .val (.int p2), .val (.int p3), .val (.int (1 : Int32)), .val (.int xs), .val (.int xc0), .val (.int xc1), .val (.int xc2), .val (.ref rc), .unset, .unset, .unset, .unset] []))
      refine own_Go.st (fun _ kt => XS.iload X41.here hx rfl (hb hby at_73) rfl kt) ?_
      show own_Go p e below _ (T41.setTop (mkF m 75 #[.val (.int p0), .val (.int p1), .val (.int p2), .val (.int p3), .val (.int (1 : Int32)), .val (.int xs), .val (.int xc0), .val (.int xc1), .val (.int xc2), .val (.ref rc), .unset, .unset, .unset, .unset] [(.int (1 : Int32))]))
      refine own_Go.st (fun _ kt => XS.iconst X41.here hx rfl (hb hby at_75) kt) ?_
      show own_Go p e below _ (T41.setTop (mkF m 76 #[.val (.int p0), .val (.int p1), .val (.int p2), .val (.int p3), .val (.int (1 : Int32)), .val (.int xs), .val (.int xc0), .val (.int xc1), .val (.int xc2), .val (.ref rc), .unset, .unset, .unset, .unset] [(.int (2 : Int32)), (.int (1 : Int32))]))
      refine own_Go.st (fun _ kt => XS.icmpYes X41.here hx rfl (pc0 := 76) (pc' := 85) rfl (hb hby at_76) rfl (flt (by decide)).2.2.2 (by decide) (by decide) kt) ?_
      show own_Go p e below _ (T41.setTop (mkF m 85 #[.val (.int p0), .val (.int p1), .val (.int p2), .val (.int p3), .val (.int (1 : Int32)), .val (.int xs), .val (.int xc0), .val (.int xc1), .val (.int xc2), .val (.ref rc), .unset, .unset, .unset, .unset] []))
      have ac1 : own_Ar Z h41 rc .char 1 (fun j => .int (([xc0] : List Int32).getD j 0)) := a41.congr fun j hj => by
        obtain rfl : j = 0 := by omega
        rfl
      obtain ⟨T43, h43, X43, e43, E43, A43, D43, U43, st43⟩ := newO X41 hx hZ hown (own_w hw 1 rfl) (own_w hw 2 rfl) (own_w hw 3 rfl) e41 (g := (mkF m 85 #[.val (.int p0), .val (.int p1), .val (.int p2), .val (.int p3), .val (.int (1 : Int32)), .val (.int xs), .val (.int xc0), .val (.int xc1), .val (.int xc2), .val (.ref rc), .unset, .unset, .unset, .unset] [])) rfl (hb hby at_85) (by decide) (by decide)
      obtain ⟨sx, g43⟩ : ∃ z, z = Array.size h41 := ⟨_, rfl⟩
      rw [← g43] at A43 D43 U43 st43
      refine own_Go.st st43 ?_
      have ne_rc_sx : rc ≠ sx := Nat.ne_of_lt (Nat.lt_of_lt_of_le (ac1).lt (Nat.le_of_eq g43.symm))
      have n0_sx : n0 ≤ sx := Nat.le_trans zz42 (Nat.le_of_eq g43.symm)
      have b_sx : Array.size h0 ≤ sx := Nat.le_trans kk42.1 (Nat.le_of_eq g43.symm)
      have zz44 : n0 ≤ Array.size h43 := Nat.le_trans zz42 E43.1
      have kk44 : Keep h0 h43 [] := kk42.ext E43
      have hk44 : Array.size h0 ≤ Array.size h43 := Nat.le_trans hk42 E43.1
      have D43_value : Fld Z h43 sx "java/lang/String" "value" "[B" .null := D43 (Or.inr (own_w hw 16 rfl)) (ty := (.array .byte)) (by decide)
      have D43_coder : Fld Z h43 sx "java/lang/String" "coder" "B" (.int 0) := D43 (Or.inr (own_w hw 17 rfl)) (ty := .byte) (by decide)
      show own_Go p e below _ (T43.setTop (mkF m 88 #[.val (.int p0), .val (.int p1), .val (.int p2), .val (.int p3), .val (.int (1 : Int32)), .val (.int xs), .val (.int xc0), .val (.int xc1), .val (.int xc2), .val (.ref rc), .unset, .unset, .unset, .unset] [(.ref sx)]))
      refine own_Go.st (fun _ kt => XS.dup X43.here hx rfl (hb hby at_88) rfl rfl kt) ?_
      show own_Go p e below _ (T43.setTop (mkF m 89 #[.val (.int p0), .val (.int p1), .val (.int p2), .val (.int p3), .val (.int (1 : Int32)), .val (.int xs), .val (.int xc0), .val (.int xc1), .val (.int xc2), .val (.ref rc), .unset, .unset, .unset, .unset] [(.ref sx), (.ref sx)]))
      refine own_Go.st (fun _ kt => XS.aload X43.here hx rfl (hb hby at_89) rfl rfl kt) ?_
      show own_Go p e below _ (T43.setTop (mkF m 91 #[.val (.int p0), .val (.int p1), .val (.int p2), .val (.int p3), .val (.int (1 : Int32)), .val (.int xs), .val (.int xc0), .val (.int xc1), .val (.int xc2), .val (.ref rc), .unset, .unset, .unset, .unset] [(.ref rc), (.ref sx), (.ref sx)]))
      have f45 := (ac1.ext E43)
      have f46 := (((cs.ext E39).wr W41).ext E43)
      obtain ⟨_, _, ⟨T47, L47, k47, n47⟩, -, X47, ⟨Lc47, hQ47, l47, y47, z47⟩, st47⟩ := X43.specialBack hx (y := (⟨"java/lang/String", "<init>", "([C)V"⟩ : MethodName)) rfl hown (mvT hZ (own_w hw 4 rfl)) (mvT hZ (own_w hw 5 rfl)) (mvT hZ (own_w hw 6 rfl)) (by decide) (backOf (W := 1) (own_s1 l Z a0 hw [] sx rc (1 : Int32) 1 (fun j => ([xc0] : List Int32).getD j 0) zc h43 n0 zz44 A43 D43_value D43_coder n0_sx f45 (by decide) (by decide) (by decide) (fun j hj => by
        obtain rfl : j = 0 := by omega
        first | exact hC0 | exact hC1 | exact hC2) f46 hzc) hZ (own_w hw 6 rfl) (own_w hw 3 rfl) (by decide) (by decide)) (g := (mkF m 91 #[.val (.int p0), .val (.int p1), .val (.int p2), .val (.int p3), .val (.int (1 : Int32)), .val (.int xs), .val (.int xc0), .val (.int xc1), .val (.int xc2), .val (.ref rc), .unset, .unset, .unset, .unset] [(.ref rc), (.ref sx), (.ref sx)])) rfl (by rw [hml]; rfl) (Steps.refl _) (a := sx) (argsL := [(.ref rc)]) (rest := [(.ref sx)]) (lenOf own_pd30 rfl) rfl (by show 2 * 0 + _ ≤ _; exact Nat.le_of_eq rfl) (hb hby at_91) (fun _ _ => ⟨rfl, e43, (by decide : 2 + 1 ≤ _), (by decide : 7 + 8 ≤ _)⟩)
      dsimp only [Pt.U, Pt.locs, Pt.cells, Pt.slots] at X47 l47 y47 z47 st47 hQ47
      subst l47 y47 z47
      obtain ⟨rb, rfl, N47q, st_47, bb47, KF47⟩ := hQ47
      have N47 := Fr.app N41 N47q
      refine own_Go.st (fun _ kt => st47.trans kt) ?_
      have zz48 : n0 ≤ Array.size T47.heap := Nat.le_trans zz44 KF47.1
      have kk48 : Keep h0 T47.heap [] := kk44.trans KF47 (allS (P := fun x => x ∈ [] ∨ _) (Or.inr b_sx) all0)
      have hk48 : Array.size h0 ≤ Array.size T47.heap := Nat.le_trans hk44 KF47.1
      show own_Go p e below _ (T47.setTop (mkF m 94 #[.val (.int p0), .val (.int p1), .val (.int p2), .val (.int p3), .val (.int (1 : Int32)), .val (.int xs), .val (.int xc0), .val (.int xc1), .val (.int xc2), .val (.ref rc), .unset, .unset, .unset, .unset] [(.ref sx)]))
      have fsl : own_Sl Z T47.heap sx rb [xc0.toInt8] := own_Str.sl st_47 rfl fun j hj => by
        obtain rfl : j = 0 := by omega
        rfl
      refine own_Go.st (fun _ kt => XS.astore X47.here hx rfl (hb hby at_94) rfl rfl (l' := #[.val (.int p0), .val (.int p1), .val (.int p2), .val (.int p3), .val (.int (1 : Int32)), .val (.int xs), .val (.int xc0), .val (.int xc1), .val (.int xc2), .val (.ref rc), .val (.ref sx), .unset, .unset, .unset]) rfl kt) ?_
      show own_Go p e below _ (T47.setTop (mkF m 96 #[.val (.int p0), .val (.int p1), .val (.int p2), .val (.int p3), .val (.int (1 : Int32)), .val (.int xs), .val (.int xc0), .val (.int xc1), .val (.int xc2), .val (.ref rc), .val (.ref sx), .unset, .unset, .unset] []))
      refine own_Go.st (fun _ kt => XS.bipush X47.here hx rfl (hb hby at_96) kt) ?_
      show own_Go p e below _ (T47.setTop (mkF m 98 #[.val (.int p0), .val (.int p1), .val (.int p2), .val (.int p3), .val (.int (1 : Int32)), .val (.int xs), .val (.int xc0), .val (.int xc1), .val (.int xc2), .val (.ref rc), .val (.ref sx), .unset, .unset, .unset] [(.int (8 : Int32))]))
      obtain ⟨T49, h49, X49, e49, E49, A49, B49, st49⟩ := own_newB X47 hx hZ (own_w hw 15 rfl) rfl (g := (mkF m 98 #[.val (.int p0), .val (.int p1), .val (.int p2), .val (.int p3), .val (.int (1 : Int32)), .val (.int xs), .val (.int xc0), .val (.int xc1), .val (.int xc2), .val (.ref rc), .val (.ref sx), .unset, .unset, .unset] [(.int (8 : Int32))])) rfl (hb hby at_98) rfl (n := 8) (by decide) (cap := 8) (by decide) (by decide) (by decide) (by decide)
      obtain ⟨re, g49⟩ : ∃ z, z = Array.size T47.heap := ⟨_, rfl⟩
      rw [← g49] at A49 B49 st49
      refine own_Go.st st49 ?_
      have ne_sx_re : sx ≠ re := Nat.ne_of_lt (Nat.lt_of_lt_of_le (fsl.1).lt (Nat.le_of_eq g49.symm))
      have ne_rb_re : rb ≠ re := Nat.ne_of_lt (Nat.lt_of_lt_of_le (fsl.2.2.2).lt (Nat.le_of_eq g49.symm))
      have n0_re : n0 ≤ re := Nat.le_trans zz48 (Nat.le_of_eq g49.symm)
      have b_re : Array.size h0 ≤ re := Nat.le_trans kk48.1 (Nat.le_of_eq g49.symm)
      have zz50 : n0 ≤ Array.size h49 := Nat.le_trans zz48 E49.1
      have kk50 : Keep h0 h49 [] := kk48.ext E49
      have hk50 : Array.size h0 ≤ Array.size h49 := Nat.le_trans hk48 E49.1
      show own_Go p e below _ (T49.setTop (mkF m 100 #[.val (.int p0), .val (.int p1), .val (.int p2), .val (.int p3), .val (.int (1 : Int32)), .val (.int xs), .val (.int xc0), .val (.int xc1), .val (.int xc2), .val (.ref rc), .val (.ref sx), .unset, .unset, .unset] [(.ref re)]))
      refine own_Go.st (fun _ kt => XS.astore X49.here hx rfl (hb hby at_100) rfl rfl (l' := #[.val (.int p0), .val (.int p1), .val (.int p2), .val (.int p3), .val (.int (1 : Int32)), .val (.int xs), .val (.int xc0), .val (.int xc1), .val (.int xc2), .val (.ref rc), .val (.ref sx), .val (.ref re), .unset, .unset]) rfl kt) ?_
      show own_Go p e below _ (T49.setTop (mkF m 102 #[.val (.int p0), .val (.int p1), .val (.int p2), .val (.int p3), .val (.int (1 : Int32)), .val (.int xs), .val (.int xc0), .val (.int xc1), .val (.int xc2), .val (.ref rc), .val (.ref sx), .val (.ref re), .unset, .unset] []))
      refine own_Go.st (fun _ kt => XS.iconst X49.here hx rfl (hb hby at_102) kt) ?_
      show own_Go p e below _ (T49.setTop (mkF m 103 #[.val (.int p0), .val (.int p1), .val (.int p2), .val (.int p3), .val (.int (1 : Int32)), .val (.int xs), .val (.int xc0), .val (.int xc1), .val (.int xc2), .val (.ref rc), .val (.ref sx), .val (.ref re), .unset, .unset] [(.int (0 : Int32))]))
      refine own_Go.st (fun _ kt => XS.istore X49.here hx rfl (hb hby at_103) rfl (l' := #[.val (.int p0), .val (.int p1), .val (.int p2), .val (.int p3), .val (.int (1 : Int32)), .val (.int xs), .val (.int xc0), .val (.int xc1), .val (.int xc2), .val (.ref rc), .val (.ref sx), .val (.ref re), .val (.int (0 : Int32)), .unset]) rfl kt) ?_
      show own_Go p e below _ (T49.setTop (mkF m 105 #[.val (.int p0), .val (.int p1), .val (.int p2), .val (.int p3), .val (.int (1 : Int32)), .val (.int xs), .val (.int xc0), .val (.int xc1), .val (.int xc2), .val (.ref rc), .val (.ref sx), .val (.ref re), .val (.int (0 : Int32)), .unset] []))
      refine own_Go.st (fun _ kt => XS.iload X49.here hx rfl (hb hby at_105) rfl kt) ?_
      show own_Go p e below _ (T49.setTop (mkF m 107 #[.val (.int p0), .val (.int p1), .val (.int p2), .val (.int p3), .val (.int (1 : Int32)), .val (.int xs), .val (.int xc0), .val (.int xc1), .val (.int xc2), .val (.ref rc), .val (.ref sx), .val (.ref re), .val (.int (0 : Int32)), .unset] [(.int xs)]))
      rcases hxs with rfl | rfl
      · show own_Go p e below _ (T49.setTop (mkF m 107 #[.val (.int p0), .val (.int p1), .val (.int p2), .val (.int p3), .val (.int (1 : Int32)), .val (.int (1 : Int32)), .val (.int xc0), .val (.int xc1), .val (.int xc2), .val (.ref rc), .val (.ref sx), .val (.ref re), .val (.int (0 : Int32)), .unset] [(.int (1 : Int32))]))
        refine own_Go.st (fun _ kt => XS.ifYes X49.here hx rfl (pc0 := 107) (pc' := 123) rfl (hb hby at_107) rfl ((if0 _ _).trans (feq (by decide)).2) (by decide) (by decide) kt) ?_
        show own_Go p e below _ (T49.setTop (mkF m 123 #[.val (.int p0), .val (.int p1), .val (.int p2), .val (.int p3), .val (.int (1 : Int32)), .val (.int (1 : Int32)), .val (.int xc0), .val (.int xc1), .val (.int xc2), .val (.ref rc), .val (.ref sx), .val (.ref re), .val (.int (0 : Int32)), .unset] []))
        refine own_Go.st (fun _ kt => XS.iload X49.here hx rfl (hb hby at_123) rfl kt) ?_
        show own_Go p e below _ (T49.setTop (mkF m 125 #[.val (.int p0), .val (.int p1), .val (.int p2), .val (.int p3), .val (.int (1 : Int32)), .val (.int (1 : Int32)), .val (.int xc0), .val (.int xc1), .val (.int xc2), .val (.ref rc), .val (.ref sx), .val (.ref re), .val (.int (0 : Int32)), .unset] [(.int (1 : Int32))]))
        refine own_Go.st (fun _ kt => XS.ifNo X49.here hx rfl (hb hby at_125) rfl ((if0 _ _).trans (tlt (by decide)).2.2.2) kt) ?_
        show own_Go p e below _ (T49.setTop (mkF m 128 #[.val (.int p0), .val (.int p1), .val (.int p2), .val (.int p3), .val (.int (1 : Int32)), .val (.int (1 : Int32)), .val (.int xc0), .val (.int xc1), .val (.int xc2), .val (.ref rc), .val (.ref sx), .val (.ref re), .val (.int (0 : Int32)), .unset] []))
        refine own_Go.st (fun _ kt => XS.aload X49.here hx rfl (hb hby at_128) rfl rfl kt) ?_
        show own_Go p e below _ (T49.setTop (mkF m 130 #[.val (.int p0), .val (.int p1), .val (.int p2), .val (.int p3), .val (.int (1 : Int32)), .val (.int (1 : Int32)), .val (.int xc0), .val (.int xc1), .val (.int xc2), .val (.ref rc), .val (.ref sx), .val (.ref re), .val (.int (0 : Int32)), .unset] [(.ref re)]))
        refine own_Go.st (fun _ kt => XS.iload X49.here hx rfl (hb hby at_130) rfl kt) ?_
        show own_Go p e below _ (T49.setTop (mkF m 132 #[.val (.int p0), .val (.int p1), .val (.int p2), .val (.int p3), .val (.int (1 : Int32)), .val (.int (1 : Int32)), .val (.int xc0), .val (.int xc1), .val (.int xc2), .val (.ref rc), .val (.ref sx), .val (.ref re), .val (.int (0 : Int32)), .unset] [(.int (0 : Int32)), (.ref re)]))
        refine own_Go.st (fun _ kt => XS.iload X49.here hx rfl (hb hby at_132) rfl kt) ?_
        show own_Go p e below _ (T49.setTop (mkF m 134 #[.val (.int p0), .val (.int p1), .val (.int p2), .val (.int p3), .val (.int (1 : Int32)), .val (.int (1 : Int32)), .val (.int xc0), .val (.int xc1), .val (.int xc2), .val (.ref rc), .val (.ref sx), .val (.ref re), .val (.int (0 : Int32)), .unset] [(.int xc0), (.int (0 : Int32)), (.ref re)]))
        obtain ⟨_, _, ⟨T51, L51, k51, n51⟩, -, X51, ⟨Lc51, hQ51, l51, y51, z51⟩, st51⟩ := Jvm.LawKit.callS X49 hx (y := (⟨"com/example/marshal/marshal/pipelines/LogLinesLinePinLaw", "put", "([BIC)I"⟩ : MethodName)) hown (mvT hZ (own_w hw 186 rfl)) (mvT hZ (own_w hw 187 rfl)) (mvT hZ (own_w hw 171 rfl)) (mvT hZ (own_w hw 188 rfl)) (by decide) (backOf (W := 0) (own_put l Z a0 hw [] re (0 : Int32) xc0 [] h49 n0 zz50 A49 (show (0 : Int32).toInt = ((([] : List Int8).length : Nat) : Int) by decide) (by first | omega | (simp only [List.length_append, List.length_cons, List.length_nil] <;> omega)) n0_re) hZ (own_w hw 188 rfl) (own_w hw 171 rfl) (by decide) (by decide)) (g := (mkF m 134 #[.val (.int p0), .val (.int p1), .val (.int p2), .val (.int p3), .val (.int (1 : Int32)), .val (.int (1 : Int32)), .val (.int xc0), .val (.int xc1), .val (.int xc2), .val (.ref rc), .val (.ref sx), .val (.ref re), .val (.int (0 : Int32)), .unset] [(.int xc0), (.int (0 : Int32)), (.ref re)])) rfl (by rw [hml]; rfl) (argsL := [(.ref re), (.int (0 : Int32)), (.int xc0)]) (rest := []) (lenOf own_pd33 rfl) rfl (by show 2 * 0 + _ ≤ _; exact Nat.le_of_eq rfl) (hb hby at_134) (fun _ _ => ⟨rfl, e49, (by decide : 4 + 0 ≤ _), (by decide : 23 + 0 ≤ _)⟩)
        dsimp only [Pt.U, Pt.locs, Pt.cells, Pt.slots] at X51 l51 y51 z51 st51 hQ51
        subst l51 y51 z51
        obtain ⟨zp0, rfl, N51q, ap51, lp51, KF51⟩ := hQ51
        have N51 := Fr.app N47 N51q
        refine own_Go.st (fun _ kt => st51 _ kt) ?_
        have zz52 : n0 ≤ Array.size T51.heap := Nat.le_trans zz50 KF51.1
        have kk52 : Keep h0 T51.heap [] := kk50.trans KF51 (allS (P := fun x => x ∈ [] ∨ _) (Or.inr b_re) all0)
        have hk52 : Array.size h0 ≤ Array.size T51.heap := Nat.le_trans hk50 KF51.1
        show own_Go p e below _ (T51.setTop (mkF m 137 #[.val (.int p0), .val (.int p1), .val (.int p2), .val (.int p3), .val (.int (1 : Int32)), .val (.int (1 : Int32)), .val (.int xc0), .val (.int xc1), .val (.int xc2), .val (.ref rc), .val (.ref sx), .val (.ref re), .val (.int (0 : Int32)), .unset] [(.int zp0)]))
        refine own_Go.st (fun _ kt => XS.istore X51.here hx rfl (hb hby at_137) rfl (l' := #[.val (.int p0), .val (.int p1), .val (.int p2), .val (.int p3), .val (.int (1 : Int32)), .val (.int (1 : Int32)), .val (.int xc0), .val (.int xc1), .val (.int xc2), .val (.ref rc), .val (.ref sx), .val (.ref re), .val (.int zp0), .unset]) rfl kt) ?_
        show own_Go p e below _ (T51.setTop (mkF m 139 #[.val (.int p0), .val (.int p1), .val (.int p2), .val (.int p3), .val (.int (1 : Int32)), .val (.int (1 : Int32)), .val (.int xc0), .val (.int xc1), .val (.int xc2), .val (.ref rc), .val (.ref sx), .val (.ref re), .val (.int zp0), .unset] []))
        refine own_Go.st (fun _ kt => XS.iload X51.here hx rfl (hb hby at_139) rfl kt) ?_
        show own_Go p e below _ (T51.setTop (mkF m 141 #[.val (.int p0), .val (.int p1), .val (.int p2), .val (.int p3), .val (.int (1 : Int32)), .val (.int (1 : Int32)), .val (.int xc0), .val (.int xc1), .val (.int xc2), .val (.ref rc), .val (.ref sx), .val (.ref re), .val (.int zp0), .unset] [(.int (1 : Int32))]))
        refine own_Go.st (fun _ kt => XS.iconst X51.here hx rfl (hb hby at_141) kt) ?_
        show own_Go p e below _ (T51.setTop (mkF m 142 #[.val (.int p0), .val (.int p1), .val (.int p2), .val (.int p3), .val (.int (1 : Int32)), .val (.int (1 : Int32)), .val (.int xc0), .val (.int xc1), .val (.int xc2), .val (.ref rc), .val (.ref sx), .val (.ref re), .val (.int zp0), .unset] [(.int (1 : Int32)), (.int (1 : Int32))]))
        refine own_Go.st (fun _ kt => XS.icmpYes X51.here hx rfl (pc0 := 142) (pc' := 156) rfl (hb hby at_142) rfl (flt (by decide)).2.2.2 (by decide) (by decide) kt) ?_
        show own_Go p e below _ (T51.setTop (mkF m 156 #[.val (.int p0), .val (.int p1), .val (.int p2), .val (.int p3), .val (.int (1 : Int32)), .val (.int (1 : Int32)), .val (.int xc0), .val (.int xc1), .val (.int xc2), .val (.ref rc), .val (.ref sx), .val (.ref re), .val (.int zp0), .unset] []))
        refine own_Go.st (fun _ kt => XS.iload X51.here hx rfl (hb hby at_156) rfl kt) ?_
        show own_Go p e below _ (T51.setTop (mkF m 158 #[.val (.int p0), .val (.int p1), .val (.int p2), .val (.int p3), .val (.int (1 : Int32)), .val (.int (1 : Int32)), .val (.int xc0), .val (.int xc1), .val (.int xc2), .val (.ref rc), .val (.ref sx), .val (.ref re), .val (.int zp0), .unset] [(.int (1 : Int32))]))
        refine own_Go.st (fun _ kt => XS.iconst X51.here hx rfl (hb hby at_158) kt) ?_
        show own_Go p e below _ (T51.setTop (mkF m 159 #[.val (.int p0), .val (.int p1), .val (.int p2), .val (.int p3), .val (.int (1 : Int32)), .val (.int (1 : Int32)), .val (.int xc0), .val (.int xc1), .val (.int xc2), .val (.ref rc), .val (.ref sx), .val (.ref re), .val (.int zp0), .unset] [(.int (2 : Int32)), (.int (1 : Int32))]))
        refine own_Go.st (fun _ kt => XS.icmpYes X51.here hx rfl (pc0 := 159) (pc' := 173) rfl (hb hby at_159) rfl (flt (by decide)).2.2.2 (by decide) (by decide) kt) ?_
        show own_Go p e below _ (T51.setTop (mkF m 173 #[.val (.int p0), .val (.int p1), .val (.int p2), .val (.int p3), .val (.int (1 : Int32)), .val (.int (1 : Int32)), .val (.int xc0), .val (.int xc1), .val (.int xc2), .val (.ref rc), .val (.ref sx), .val (.ref re), .val (.int zp0), .unset] []))
        refine own_Go.st (fun _ kt => XS.aload X51.here hx rfl (hb hby at_173) rfl rfl kt) ?_
        show own_Go p e below _ (T51.setTop (mkF m 175 #[.val (.int p0), .val (.int p1), .val (.int p2), .val (.int p3), .val (.int (1 : Int32)), .val (.int (1 : Int32)), .val (.int xc0), .val (.int xc1), .val (.int xc2), .val (.ref rc), .val (.ref sx), .val (.ref re), .val (.int zp0), .unset] [(.ref re)]))
        refine own_Go.st (fun _ kt => XS.iload X51.here hx rfl (hb hby at_175) rfl kt) ?_
        show own_Go p e below _ (T51.setTop (mkF m 177 #[.val (.int p0), .val (.int p1), .val (.int p2), .val (.int p3), .val (.int (1 : Int32)), .val (.int (1 : Int32)), .val (.int xc0), .val (.int xc1), .val (.int xc2), .val (.ref rc), .val (.ref sx), .val (.ref re), .val (.int zp0), .unset] [(.int zp0), (.ref re)]))
        refine own_Go.st (fun _ kt => XS.bipush X51.here hx rfl (hb hby at_177) kt) ?_
        show own_Go p e below _ (T51.setTop (mkF m 179 #[.val (.int p0), .val (.int p1), .val (.int p2), .val (.int p3), .val (.int (1 : Int32)), .val (.int (1 : Int32)), .val (.int xc0), .val (.int xc1), .val (.int xc2), .val (.ref rc), .val (.ref sx), .val (.ref re), .val (.int zp0), .unset] [(.int (10 : Int32)), (.int zp0), (.ref re)]))
        obtain ⟨T53, h53, X53, e53, W53, st53⟩ := own_bast X51 hx hZ rfl ap51 lp51 (by first | omega | (simp only [List.length_append, List.length_cons, List.length_nil] <;> omega)) own_nar10 (g := (mkF m 179 #[.val (.int p0), .val (.int p1), .val (.int p2), .val (.int p3), .val (.int (1 : Int32)), .val (.int (1 : Int32)), .val (.int xc0), .val (.int xc1), .val (.int xc2), .val (.ref rc), .val (.ref sx), .val (.ref re), .val (.int zp0), .unset] [(.int (10 : Int32)), (.int zp0), (.ref re)])) rfl rfl (hb hby at_179)
        refine own_Go.st st53 ?_
        have N53 := Fr.snoc X53 N51 n0_re
        have a53 := own_Ar.set ap51 W53
        have zz54 : n0 ≤ Array.size h53 := Nat.le_trans zz52 (Nat.le_of_eq (Wr.size W53).symm)
        have kk54 : Keep h0 h53 [] := kk52.wr W53 (Or.inr b_re)
        have hk54 : Array.size h0 ≤ Array.size h53 := Nat.le_trans hk52 (Nat.le_of_eq (Wr.size W53).symm)
        show own_Go p e below _ (T53.setTop (mkF m 180 #[.val (.int p0), .val (.int p1), .val (.int p2), .val (.int p3), .val (.int (1 : Int32)), .val (.int (1 : Int32)), .val (.int xc0), .val (.int xc1), .val (.int xc2), .val (.ref rc), .val (.ref sx), .val (.ref re), .val (.int zp0), .unset] []))
        have afe : own_Ar Z h53 re .byte 8 (own_by (([] ++ own_p1 xc0) ++ [10])) := a53.congr fun j _ => own_by_snoc10 _ j
        have hzl : (zp0 + (1 : Int32)).toInt = (((([] ++ own_p1 xc0) ++ [10]).length : Nat) : Int) := by rw [List.length_append]; exact own_inc lp51 (by first | omega | (simp only [List.length_append, List.length_cons, List.length_nil] <;> omega))
        refine own_Go.st (fun _ kt => XS.iload X53.here hx rfl (hb hby at_180) rfl kt) ?_
        show own_Go p e below _ (T53.setTop (mkF m 182 #[.val (.int p0), .val (.int p1), .val (.int p2), .val (.int p3), .val (.int (1 : Int32)), .val (.int (1 : Int32)), .val (.int xc0), .val (.int xc1), .val (.int xc2), .val (.ref rc), .val (.ref sx), .val (.ref re), .val (.int zp0), .unset] [(.int zp0)]))
        refine own_Go.st (fun _ kt => XS.iconst X53.here hx rfl (hb hby at_182) kt) ?_
        show own_Go p e below _ (T53.setTop (mkF m 183 #[.val (.int p0), .val (.int p1), .val (.int p2), .val (.int p3), .val (.int (1 : Int32)), .val (.int (1 : Int32)), .val (.int xc0), .val (.int xc1), .val (.int xc2), .val (.ref rc), .val (.ref sx), .val (.ref re), .val (.int zp0), .unset] [(.int (1 : Int32)), (.int zp0)]))
        refine own_Go.st (fun _ kt => XS.iadd X53.here hx rfl (hb hby at_183) rfl kt) ?_
        show own_Go p e below _ (T53.setTop (mkF m 184 #[.val (.int p0), .val (.int p1), .val (.int p2), .val (.int p3), .val (.int (1 : Int32)), .val (.int (1 : Int32)), .val (.int xc0), .val (.int xc1), .val (.int xc2), .val (.ref rc), .val (.ref sx), .val (.ref re), .val (.int zp0), .unset] [(.int (zp0 + (1 : Int32)))]))
        refine own_Go.st (fun _ kt => XS.istore X53.here hx rfl (hb hby at_184) rfl (l' := #[.val (.int p0), .val (.int p1), .val (.int p2), .val (.int p3), .val (.int (1 : Int32)), .val (.int (1 : Int32)), .val (.int xc0), .val (.int xc1), .val (.int xc2), .val (.ref rc), .val (.ref sx), .val (.ref re), .val (.int (zp0 + (1 : Int32))), .unset]) rfl kt) ?_
        show own_Go p e below _ (T53.setTop (mkF m 186 #[.val (.int p0), .val (.int p1), .val (.int p2), .val (.int p3), .val (.int (1 : Int32)), .val (.int (1 : Int32)), .val (.int xc0), .val (.int xc1), .val (.int xc2), .val (.ref rc), .val (.ref sx), .val (.ref re), .val (.int (zp0 + (1 : Int32))), .unset] []))
        refine own_Go.st (fun _ kt => XS.aload X53.here hx rfl (hb hby at_186) rfl rfl kt) ?_
        show own_Go p e below _ (T53.setTop (mkF m 188 #[.val (.int p0), .val (.int p1), .val (.int p2), .val (.int p3), .val (.int (1 : Int32)), .val (.int (1 : Int32)), .val (.int xc0), .val (.int xc1), .val (.int xc2), .val (.ref rc), .val (.ref sx), .val (.ref re), .val (.int (zp0 + (1 : Int32))), .unset] [(.ref sx)]))
        refine own_Go.st (fun _ kt => XS.iload X53.here hx rfl (hb hby at_188) rfl kt) ?_
        show own_Go p e below _ (T53.setTop (mkF m 190 #[.val (.int p0), .val (.int p1), .val (.int p2), .val (.int p3), .val (.int (1 : Int32)), .val (.int (1 : Int32)), .val (.int xc0), .val (.int xc1), .val (.int xc2), .val (.ref rc), .val (.ref sx), .val (.ref re), .val (.int (zp0 + (1 : Int32))), .unset] [(.int (1 : Int32)), (.ref sx)]))
        have f55 := (((fsl.1.ext E49).keep KF51).wr W53)
        have f56 := (((fsl.2.1.ext E49).keep KF51 (ninS ne_sx_re nin0)).other W53 (Or.inl ne_sx_re))
        have f57 := (((fsl.2.2.1.ext E49).keep KF51 (ninS ne_sx_re nin0)).other W53 (Or.inl ne_sx_re))
        have f58 := (((fsl.2.2.2.ext E49).keep KF51 (ninS ne_rb_re nin0)).other W53 ne_rb_re)
        have f59 := ((own_stakeep ((own_stakeep f46 KF47 (own_nst A43)).ext E49) KF51 (own_nstA A49)).wr W53)
        have f60 := ((own_stakeep ((own_stakeep (((sU.ext E39).wr W41).ext E43) KF47 (own_nst A43)).ext E49) KF51 (own_nstA A49)).wr W53)
        have f61 := ((own_stakeep ((own_stakeep (((sI.ext E39).wr W41).ext E43) KF47 (own_nst A43)).ext E49) KF51 (own_nstA A49)).wr W53)
        obtain ⟨_, _, ⟨T62, L62, k62, n62⟩, -, X62, hS62, hgr62, ⟨Lc62, hQ62, l62, y62, z62, ib62⟩, st62⟩ := callSS X53 hx (y := (⟨"com/example/marshal/marshal/pipelines/LogLines", "line", "(Ljava/lang/String;Z)[B"⟩ : MethodName)) hown (mvT hZ (own_w hw 22 rfl)) (mvT hZ (own_w hw 23 rfl)) (mvT hZ (own_w hw 24 rfl)) (mvT hZ (own_w hw 25 rfl)) (by decide) (own_backSI (W := 0) (own_line l Z a0 hw [] sx rb (1 : Int32) [] [xc0.toInt8] ru zc [] h53 (Array.size h53) (Nat.le_refl _) ⟨f55, f56, f57, f58⟩ (Nat.le_of_ble_eq_true rfl) (Or.inl ⟨rfl, rfl⟩) f59 hzc f60 f61 (fun b cl q => (kk54).2.1 b cl (hkp b cl q) List.not_mem_nil) heldN hcw (by decide) rfl) hZ (own_w hw 25 rfl) (own_w hw 24 rfl) (by decide) (by decide) hIB) (g := (mkF m 190 #[.val (.int p0), .val (.int p1), .val (.int p2), .val (.int p3), .val (.int (1 : Int32)), .val (.int (1 : Int32)), .val (.int xc0), .val (.int xc1), .val (.int xc2), .val (.ref rc), .val (.ref sx), .val (.ref re), .val (.int (zp0 + (1 : Int32))), .unset] [(.int (1 : Int32)), (.ref sx)])) rfl (by rw [hml]; rfl) (argsL := [(.ref sx), (.int (1 : Int32))]) (rest := []) (lenOf own_pd31 rfl) rfl (by show 2 * 0 + _ ≤ _; exact Nat.le_of_eq rfl) (hb hby at_190) (fun _ _ => ⟨rfl, e53, (by decide : 4 + 12 ≤ _), (by decide : 23 + 120 ≤ _)⟩)
        dsimp only [Pt.U, Pt.locs, Pt.cells, Pt.slots] at X62 l62 y62 z62 st62 hQ62 hS62 hgr62 ib62
        subst l62 y62 z62
        obtain ⟨rn, rfl, N62q, an62, KF62⟩ := hQ62
        have N62 := Fr.app N53 (fun y hy => Nat.le_trans zz54 (N62q y hy))
        refine own_Go.st (fun _ kt => st62.trans kt) ?_
        have hZ62 : Z.Warmed39 (s.setVm T62.vm).vm := State.Warmed39.trans (t := s.setVm s.vm) hZ hS62.1
        have ho62 : (s.setVm T62.vm).vm.findClass "com/example/marshal/marshal/pipelines/LogLinesLinePinLaw" = some m.cls := by rw [show (s.setVm T62.vm).vm = T62.vm from rfl, hS62.1.alike.findClass]; exact hown
        have hT62 : s.Since T62.vm (Array.size T62.heap) := State.Since.trans hS0 hS62 (Nat.le_trans hk54 (Nat.le_trans (Nat.le_of_eq (congrArg Array.size e53).symm) hgr62))
        have zz63 : n0 ≤ Array.size T62.heap := Nat.le_trans zz54 KF62.1
        have kk63 : Keep h0 T62.heap [] := kk54.trans KF62 all0
        show own_Go p e below _ (T62.setTop (mkF m 193 #[.val (.int p0), .val (.int p1), .val (.int p2), .val (.int p3), .val (.int (1 : Int32)), .val (.int (1 : Int32)), .val (.int xc0), .val (.int xc1), .val (.int xc2), .val (.ref rc), .val (.ref sx), .val (.ref re), .val (.int (zp0 + (1 : Int32))), .unset] [(.ref rn)]))
        have hee : own_enc ([] ++ [xc0.toInt8] ++ [10]) = (([] ++ own_p1 xc0) ++ [10]) := by simp only [List.cons_append, List.nil_append, List.append_nil, List.append_assoc, own_enc_cons, own_enc_nil, own_e1_ten, own_e1p1 hC0, own_e1p1 hC1, own_e1p1 hC2]
        rw [hee] at an62
        refine own_Go.st (fun _ kt => XS.astore X62.here hx rfl (hb hby at_193) rfl rfl (l' := #[.val (.int p0), .val (.int p1), .val (.int p2), .val (.int p3), .val (.int (1 : Int32)), .val (.int (1 : Int32)), .val (.int xc0), .val (.int xc1), .val (.int xc2), .val (.ref rc), .val (.ref sx), .val (.ref re), .val (.int (zp0 + (1 : Int32))), .val (.ref rn)]) rfl kt) ?_
        show own_Go p e below _ (T62.setTop (mkF m 195 #[.val (.int p0), .val (.int p1), .val (.int p2), .val (.int p3), .val (.int (1 : Int32)), .val (.int (1 : Int32)), .val (.int xc0), .val (.int xc1), .val (.int xc2), .val (.ref rc), .val (.ref sx), .val (.ref re), .val (.int (zp0 + (1 : Int32))), .val (.ref rn)] []))
        refine own_Go.st (fun _ kt => XS.aload X62.here hx rfl (hb hby at_195) rfl rfl kt) ?_
        show own_Go p e below _ (T62.setTop (mkF m 197 #[.val (.int p0), .val (.int p1), .val (.int p2), .val (.int p3), .val (.int (1 : Int32)), .val (.int (1 : Int32)), .val (.int xc0), .val (.int xc1), .val (.int xc2), .val (.ref rc), .val (.ref sx), .val (.ref re), .val (.int (zp0 + (1 : Int32))), .val (.ref rn)] [(.ref rn)]))
        refine own_Go.st (fun _ kt => XS.aload X62.here hx rfl (hb hby at_197) rfl rfl kt) ?_
        show own_Go p e below _ (T62.setTop (mkF m 199 #[.val (.int p0), .val (.int p1), .val (.int p2), .val (.int p3), .val (.int (1 : Int32)), .val (.int (1 : Int32)), .val (.int xc0), .val (.int xc1), .val (.int xc2), .val (.ref rc), .val (.ref sx), .val (.ref re), .val (.int (zp0 + (1 : Int32))), .val (.ref rn)] [(.ref re), (.ref rn)]))
        refine own_Go.st (fun _ kt => XS.iload X62.here hx rfl (hb hby at_199) rfl kt) ?_
        show own_Go p e below _ (T62.setTop (mkF m 201 #[.val (.int p0), .val (.int p1), .val (.int p2), .val (.int p3), .val (.int (1 : Int32)), .val (.int (1 : Int32)), .val (.int xc0), .val (.int xc1), .val (.int xc2), .val (.ref rc), .val (.ref sx), .val (.ref re), .val (.int (zp0 + (1 : Int32))), .val (.ref rn)] [(.int (zp0 + (1 : Int32))), (.ref re), (.ref rn)]))
        have f64 := (afe.keep KF62 nin0)
        obtain ⟨_, _, ⟨T65, L65, k65, n65⟩, -, X65, ⟨Lc65, hQ65, l65, y65, z65⟩, st65⟩ := Jvm.LawKit.callS X62 hx (y := (⟨"com/example/marshal/marshal/pipelines/LogLinesLinePinLaw", "same", "([B[BI)Z"⟩ : MethodName)) ho62 (mvT hZ62 (own_w hw 169 rfl)) (mvT hZ62 (own_w hw 170 rfl)) (mvT hZ62 (own_w hw 171 rfl)) (mvT hZ62 (own_w hw 172 rfl)) (by decide) (backOf (W := 0) (own_same l Z a0 hw [] rn re (zp0 + (1 : Int32)) (([] ++ own_p1 xc0) ++ [10]) T62.heap n0 zz63 an62 f64 hzl) hZ62 (own_w hw 172 rfl) (own_w hw 171 rfl) (by decide) (by decide)) (g := (mkF m 201 #[.val (.int p0), .val (.int p1), .val (.int p2), .val (.int p3), .val (.int (1 : Int32)), .val (.int (1 : Int32)), .val (.int xc0), .val (.int xc1), .val (.int xc2), .val (.ref rc), .val (.ref sx), .val (.ref re), .val (.int (zp0 + (1 : Int32))), .val (.ref rn)] [(.int (zp0 + (1 : Int32))), (.ref re), (.ref rn)])) rfl (by rw [hml]; rfl) (argsL := [(.ref rn), (.ref re), (.int (zp0 + (1 : Int32)))]) (rest := []) (lenOf own_pd32 rfl) rfl (by show 2 * 0 + _ ≤ _; exact Nat.le_of_eq rfl) (hb hby at_201) (fun _ _ => ⟨rfl, rfl, (by decide : 16 + 0 ≤ _), (by decide : 143 + 0 ≤ _)⟩)
        dsimp only [Pt.U, Pt.locs, Pt.cells, Pt.slots] at X65 l65 y65 z65 st65 hQ65
        subst l65 y65 z65
        obtain ⟨rfl, N65q, hh65⟩ := hQ65
        have N65 := Fr.app N62 N65q
        refine own_Go.st (fun _ kt => st65 _ kt) ?_
        show own_Go p e below _ (T65.setTop (mkF m 204 #[.val (.int p0), .val (.int p1), .val (.int p2), .val (.int p3), .val (.int (1 : Int32)), .val (.int (1 : Int32)), .val (.int xc0), .val (.int xc1), .val (.int xc2), .val (.ref rc), .val (.ref sx), .val (.ref re), .val (.int (zp0 + (1 : Int32))), .val (.ref rn)] [(.int (1 : Int32))]))
        exact own_retWZ X65 hx Bd.notSynchronized Bd.returns hT62 (Nat.le_trans (Nat.le_of_eq (congrArg Array.size rfl)) (Nat.le_of_eq (congrArg Array.size hh65).symm)) (Or.inr rfl) (hb hby at_204) (by decide) (by decide) ⟨rfl, N65⟩
      · show own_Go p e below _ (T49.setTop (mkF m 107 #[.val (.int p0), .val (.int p1), .val (.int p2), .val (.int p3), .val (.int (1 : Int32)), .val (.int (0 : Int32)), .val (.int xc0), .val (.int xc1), .val (.int xc2), .val (.ref rc), .val (.ref sx), .val (.ref re), .val (.int (0 : Int32)), .unset] [(.int (0 : Int32))]))
        refine own_Go.st (fun _ kt => XS.ifNo X49.here hx rfl (hb hby at_107) rfl ((if0 _ _).trans (teq (by decide)).2) kt) ?_
        show own_Go p e below _ (T49.setTop (mkF m 110 #[.val (.int p0), .val (.int p1), .val (.int p2), .val (.int p3), .val (.int (1 : Int32)), .val (.int (0 : Int32)), .val (.int xc0), .val (.int xc1), .val (.int xc2), .val (.ref rc), .val (.ref sx), .val (.ref re), .val (.int (0 : Int32)), .unset] []))
        refine own_Go.st (fun _ kt => XS.aload X49.here hx rfl (hb hby at_110) rfl rfl kt) ?_
        show own_Go p e below _ (T49.setTop (mkF m 112 #[.val (.int p0), .val (.int p1), .val (.int p2), .val (.int p3), .val (.int (1 : Int32)), .val (.int (0 : Int32)), .val (.int xc0), .val (.int xc1), .val (.int xc2), .val (.ref rc), .val (.ref sx), .val (.ref re), .val (.int (0 : Int32)), .unset] [(.ref re)]))
        refine own_Go.st (fun _ kt => XS.iload X49.here hx rfl (hb hby at_112) rfl kt) ?_
        show own_Go p e below _ (T49.setTop (mkF m 114 #[.val (.int p0), .val (.int p1), .val (.int p2), .val (.int p3), .val (.int (1 : Int32)), .val (.int (0 : Int32)), .val (.int xc0), .val (.int xc1), .val (.int xc2), .val (.ref rc), .val (.ref sx), .val (.ref re), .val (.int (0 : Int32)), .unset] [(.int (0 : Int32)), (.ref re)]))
        refine own_Go.st (fun _ kt => XS.bipush X49.here hx rfl (hb hby at_114) kt) ?_
        show own_Go p e below _ (T49.setTop (mkF m 116 #[.val (.int p0), .val (.int p1), .val (.int p2), .val (.int p3), .val (.int (1 : Int32)), .val (.int (0 : Int32)), .val (.int xc0), .val (.int xc1), .val (.int xc2), .val (.ref rc), .val (.ref sx), .val (.ref re), .val (.int (0 : Int32)), .unset] [(.int (10 : Int32)), (.int (0 : Int32)), (.ref re)]))
        obtain ⟨T66, h66, X66, e66, W66, st66⟩ := own_bast X49 hx hZ e49 A49 (i := 0) (by decide) (by decide) own_nar10 (g := (mkF m 116 #[.val (.int p0), .val (.int p1), .val (.int p2), .val (.int p3), .val (.int (1 : Int32)), .val (.int (0 : Int32)), .val (.int xc0), .val (.int xc1), .val (.int xc2), .val (.ref rc), .val (.ref sx), .val (.ref re), .val (.int (0 : Int32)), .unset] [(.int (10 : Int32)), (.int (0 : Int32)), (.ref re)])) rfl rfl (hb hby at_116)
        refine own_Go.st st66 ?_
        have N66 := Fr.snoc X66 N47 n0_re
        have a66 := own_Ar.set A49 W66
        have zz67 : n0 ≤ Array.size h66 := Nat.le_trans zz50 (Nat.le_of_eq (Wr.size W66).symm)
        have kk67 : Keep h0 h66 [] := kk50.wr W66 (Or.inr b_re)
        have hk67 : Array.size h0 ≤ Array.size h66 := Nat.le_trans hk50 (Nat.le_of_eq (Wr.size W66).symm)
        show own_Go p e below _ (T66.setTop (mkF m 117 #[.val (.int p0), .val (.int p1), .val (.int p2), .val (.int p3), .val (.int (1 : Int32)), .val (.int (0 : Int32)), .val (.int xc0), .val (.int xc1), .val (.int xc2), .val (.ref rc), .val (.ref sx), .val (.ref re), .val (.int (0 : Int32)), .unset] []))
        have ae0 : own_Ar Z h66 re .byte 8 (own_by [10]) := a66.congr fun j _ => own_by_snoc10 [] j
        refine own_Go.st (fun _ kt => XS.iload X66.here hx rfl (hb hby at_117) rfl kt) ?_
        show own_Go p e below _ (T66.setTop (mkF m 119 #[.val (.int p0), .val (.int p1), .val (.int p2), .val (.int p3), .val (.int (1 : Int32)), .val (.int (0 : Int32)), .val (.int xc0), .val (.int xc1), .val (.int xc2), .val (.ref rc), .val (.ref sx), .val (.ref re), .val (.int (0 : Int32)), .unset] [(.int (0 : Int32))]))
        refine own_Go.st (fun _ kt => XS.iconst X66.here hx rfl (hb hby at_119) kt) ?_
        show own_Go p e below _ (T66.setTop (mkF m 120 #[.val (.int p0), .val (.int p1), .val (.int p2), .val (.int p3), .val (.int (1 : Int32)), .val (.int (0 : Int32)), .val (.int xc0), .val (.int xc1), .val (.int xc2), .val (.ref rc), .val (.ref sx), .val (.ref re), .val (.int (0 : Int32)), .unset] [(.int (1 : Int32)), (.int (0 : Int32))]))
        refine own_Go.st (fun _ kt => XS.iadd X66.here hx rfl (hb hby at_120) rfl kt) ?_
        show own_Go p e below _ (T66.setTop (mkF m 121 #[.val (.int p0), .val (.int p1), .val (.int p2), .val (.int p3), .val (.int (1 : Int32)), .val (.int (0 : Int32)), .val (.int xc0), .val (.int xc1), .val (.int xc2), .val (.ref rc), .val (.ref sx), .val (.ref re), .val (.int (0 : Int32)), .unset] [(.int ((0 : Int32) + (1 : Int32)))]))
        refine own_Go.st (fun _ kt => XS.istore X66.here hx rfl (hb hby at_121) rfl (l' := #[.val (.int p0), .val (.int p1), .val (.int p2), .val (.int p3), .val (.int (1 : Int32)), .val (.int (0 : Int32)), .val (.int xc0), .val (.int xc1), .val (.int xc2), .val (.ref rc), .val (.ref sx), .val (.ref re), .val (.int ((0 : Int32) + (1 : Int32))), .unset]) rfl kt) ?_
        show own_Go p e below _ (T66.setTop (mkF m 123 #[.val (.int p0), .val (.int p1), .val (.int p2), .val (.int p3), .val (.int (1 : Int32)), .val (.int (0 : Int32)), .val (.int xc0), .val (.int xc1), .val (.int xc2), .val (.ref rc), .val (.ref sx), .val (.ref re), .val (.int ((0 : Int32) + (1 : Int32))), .unset] []))
        rw [show ((0 : Int32) + (1 : Int32)) = (1 : Int32) from (by decide)]
        show own_Go p e below _ (T66.setTop (mkF m 123 #[.val (.int p0), .val (.int p1), .val (.int p2), .val (.int p3), .val (.int (1 : Int32)), .val (.int (0 : Int32)), .val (.int xc0), .val (.int xc1), .val (.int xc2), .val (.ref rc), .val (.ref sx), .val (.ref re), .val (.int (1 : Int32)), .unset] []))
        refine own_Go.st (fun _ kt => XS.iload X66.here hx rfl (hb hby at_123) rfl kt) ?_
        show own_Go p e below _ (T66.setTop (mkF m 125 #[.val (.int p0), .val (.int p1), .val (.int p2), .val (.int p3), .val (.int (1 : Int32)), .val (.int (0 : Int32)), .val (.int xc0), .val (.int xc1), .val (.int xc2), .val (.ref rc), .val (.ref sx), .val (.ref re), .val (.int (1 : Int32)), .unset] [(.int (1 : Int32))]))
        refine own_Go.st (fun _ kt => XS.ifNo X66.here hx rfl (hb hby at_125) rfl ((if0 _ _).trans (tlt (by decide)).2.2.2) kt) ?_
        show own_Go p e below _ (T66.setTop (mkF m 128 #[.val (.int p0), .val (.int p1), .val (.int p2), .val (.int p3), .val (.int (1 : Int32)), .val (.int (0 : Int32)), .val (.int xc0), .val (.int xc1), .val (.int xc2), .val (.ref rc), .val (.ref sx), .val (.ref re), .val (.int (1 : Int32)), .unset] []))
        refine own_Go.st (fun _ kt => XS.aload X66.here hx rfl (hb hby at_128) rfl rfl kt) ?_
        show own_Go p e below _ (T66.setTop (mkF m 130 #[.val (.int p0), .val (.int p1), .val (.int p2), .val (.int p3), .val (.int (1 : Int32)), .val (.int (0 : Int32)), .val (.int xc0), .val (.int xc1), .val (.int xc2), .val (.ref rc), .val (.ref sx), .val (.ref re), .val (.int (1 : Int32)), .unset] [(.ref re)]))
        refine own_Go.st (fun _ kt => XS.iload X66.here hx rfl (hb hby at_130) rfl kt) ?_
        show own_Go p e below _ (T66.setTop (mkF m 132 #[.val (.int p0), .val (.int p1), .val (.int p2), .val (.int p3), .val (.int (1 : Int32)), .val (.int (0 : Int32)), .val (.int xc0), .val (.int xc1), .val (.int xc2), .val (.ref rc), .val (.ref sx), .val (.ref re), .val (.int (1 : Int32)), .unset] [(.int (1 : Int32)), (.ref re)]))
        refine own_Go.st (fun _ kt => XS.iload X66.here hx rfl (hb hby at_132) rfl kt) ?_
        show own_Go p e below _ (T66.setTop (mkF m 134 #[.val (.int p0), .val (.int p1), .val (.int p2), .val (.int p3), .val (.int (1 : Int32)), .val (.int (0 : Int32)), .val (.int xc0), .val (.int xc1), .val (.int xc2), .val (.ref rc), .val (.ref sx), .val (.ref re), .val (.int (1 : Int32)), .unset] [(.int xc0), (.int (1 : Int32)), (.ref re)]))
        obtain ⟨_, _, ⟨T68, L68, k68, n68⟩, -, X68, ⟨Lc68, hQ68, l68, y68, z68⟩, st68⟩ := Jvm.LawKit.callS X66 hx (y := (⟨"com/example/marshal/marshal/pipelines/LogLinesLinePinLaw", "put", "([BIC)I"⟩ : MethodName)) hown (mvT hZ (own_w hw 186 rfl)) (mvT hZ (own_w hw 187 rfl)) (mvT hZ (own_w hw 171 rfl)) (mvT hZ (own_w hw 188 rfl)) (by decide) (backOf (W := 0) (own_put l Z a0 hw [] re (1 : Int32) xc0 [10] h66 n0 zz67 ae0 (show (1 : Int32).toInt = ((([10] : List Int8).length : Nat) : Int) by decide) (by first | omega | (simp only [List.length_append, List.length_cons, List.length_nil] <;> omega)) n0_re) hZ (own_w hw 188 rfl) (own_w hw 171 rfl) (by decide) (by decide)) (g := (mkF m 134 #[.val (.int p0), .val (.int p1), .val (.int p2), .val (.int p3), .val (.int (1 : Int32)), .val (.int (0 : Int32)), .val (.int xc0), .val (.int xc1), .val (.int xc2), .val (.ref rc), .val (.ref sx), .val (.ref re), .val (.int (1 : Int32)), .unset] [(.int xc0), (.int (1 : Int32)), (.ref re)])) rfl (by rw [hml]; rfl) (argsL := [(.ref re), (.int (1 : Int32)), (.int xc0)]) (rest := []) (lenOf own_pd33 rfl) rfl (by show 2 * 0 + _ ≤ _; exact Nat.le_of_eq rfl) (hb hby at_134) (fun _ _ => ⟨rfl, e66, (by decide : 4 + 0 ≤ _), (by decide : 23 + 0 ≤ _)⟩)
        dsimp only [Pt.U, Pt.locs, Pt.cells, Pt.slots] at X68 l68 y68 z68 st68 hQ68
        subst l68 y68 z68
        obtain ⟨zp0, rfl, N68q, ap68, lp68, KF68⟩ := hQ68
        have N68 := Fr.app N66 N68q
        refine own_Go.st (fun _ kt => st68 _ kt) ?_
        have zz69 : n0 ≤ Array.size T68.heap := Nat.le_trans zz67 KF68.1
        have kk69 : Keep h0 T68.heap [] := kk67.trans KF68 (allS (P := fun x => x ∈ [] ∨ _) (Or.inr b_re) all0)
        have hk69 : Array.size h0 ≤ Array.size T68.heap := Nat.le_trans hk67 KF68.1
        show own_Go p e below _ (T68.setTop (mkF m 137 #[.val (.int p0), .val (.int p1), .val (.int p2), .val (.int p3), .val (.int (1 : Int32)), .val (.int (0 : Int32)), .val (.int xc0), .val (.int xc1), .val (.int xc2), .val (.ref rc), .val (.ref sx), .val (.ref re), .val (.int (1 : Int32)), .unset] [(.int zp0)]))
        refine own_Go.st (fun _ kt => XS.istore X68.here hx rfl (hb hby at_137) rfl (l' := #[.val (.int p0), .val (.int p1), .val (.int p2), .val (.int p3), .val (.int (1 : Int32)), .val (.int (0 : Int32)), .val (.int xc0), .val (.int xc1), .val (.int xc2), .val (.ref rc), .val (.ref sx), .val (.ref re), .val (.int zp0), .unset]) rfl kt) ?_
        show own_Go p e below _ (T68.setTop (mkF m 139 #[.val (.int p0), .val (.int p1), .val (.int p2), .val (.int p3), .val (.int (1 : Int32)), .val (.int (0 : Int32)), .val (.int xc0), .val (.int xc1), .val (.int xc2), .val (.ref rc), .val (.ref sx), .val (.ref re), .val (.int zp0), .unset] []))
        refine own_Go.st (fun _ kt => XS.iload X68.here hx rfl (hb hby at_139) rfl kt) ?_
        show own_Go p e below _ (T68.setTop (mkF m 141 #[.val (.int p0), .val (.int p1), .val (.int p2), .val (.int p3), .val (.int (1 : Int32)), .val (.int (0 : Int32)), .val (.int xc0), .val (.int xc1), .val (.int xc2), .val (.ref rc), .val (.ref sx), .val (.ref re), .val (.int zp0), .unset] [(.int (1 : Int32))]))
        refine own_Go.st (fun _ kt => XS.iconst X68.here hx rfl (hb hby at_141) kt) ?_
        show own_Go p e below _ (T68.setTop (mkF m 142 #[.val (.int p0), .val (.int p1), .val (.int p2), .val (.int p3), .val (.int (1 : Int32)), .val (.int (0 : Int32)), .val (.int xc0), .val (.int xc1), .val (.int xc2), .val (.ref rc), .val (.ref sx), .val (.ref re), .val (.int zp0), .unset] [(.int (1 : Int32)), (.int (1 : Int32))]))
        refine own_Go.st (fun _ kt => XS.icmpYes X68.here hx rfl (pc0 := 142) (pc' := 156) rfl (hb hby at_142) rfl (flt (by decide)).2.2.2 (by decide) (by decide) kt) ?_
        show own_Go p e below _ (T68.setTop (mkF m 156 #[.val (.int p0), .val (.int p1), .val (.int p2), .val (.int p3), .val (.int (1 : Int32)), .val (.int (0 : Int32)), .val (.int xc0), .val (.int xc1), .val (.int xc2), .val (.ref rc), .val (.ref sx), .val (.ref re), .val (.int zp0), .unset] []))
        refine own_Go.st (fun _ kt => XS.iload X68.here hx rfl (hb hby at_156) rfl kt) ?_
        show own_Go p e below _ (T68.setTop (mkF m 158 #[.val (.int p0), .val (.int p1), .val (.int p2), .val (.int p3), .val (.int (1 : Int32)), .val (.int (0 : Int32)), .val (.int xc0), .val (.int xc1), .val (.int xc2), .val (.ref rc), .val (.ref sx), .val (.ref re), .val (.int zp0), .unset] [(.int (1 : Int32))]))
        refine own_Go.st (fun _ kt => XS.iconst X68.here hx rfl (hb hby at_158) kt) ?_
        show own_Go p e below _ (T68.setTop (mkF m 159 #[.val (.int p0), .val (.int p1), .val (.int p2), .val (.int p3), .val (.int (1 : Int32)), .val (.int (0 : Int32)), .val (.int xc0), .val (.int xc1), .val (.int xc2), .val (.ref rc), .val (.ref sx), .val (.ref re), .val (.int zp0), .unset] [(.int (2 : Int32)), (.int (1 : Int32))]))
        refine own_Go.st (fun _ kt => XS.icmpYes X68.here hx rfl (pc0 := 159) (pc' := 173) rfl (hb hby at_159) rfl (flt (by decide)).2.2.2 (by decide) (by decide) kt) ?_
        show own_Go p e below _ (T68.setTop (mkF m 173 #[.val (.int p0), .val (.int p1), .val (.int p2), .val (.int p3), .val (.int (1 : Int32)), .val (.int (0 : Int32)), .val (.int xc0), .val (.int xc1), .val (.int xc2), .val (.ref rc), .val (.ref sx), .val (.ref re), .val (.int zp0), .unset] []))
        refine own_Go.st (fun _ kt => XS.aload X68.here hx rfl (hb hby at_173) rfl rfl kt) ?_
        show own_Go p e below _ (T68.setTop (mkF m 175 #[.val (.int p0), .val (.int p1), .val (.int p2), .val (.int p3), .val (.int (1 : Int32)), .val (.int (0 : Int32)), .val (.int xc0), .val (.int xc1), .val (.int xc2), .val (.ref rc), .val (.ref sx), .val (.ref re), .val (.int zp0), .unset] [(.ref re)]))
        refine own_Go.st (fun _ kt => XS.iload X68.here hx rfl (hb hby at_175) rfl kt) ?_
        show own_Go p e below _ (T68.setTop (mkF m 177 #[.val (.int p0), .val (.int p1), .val (.int p2), .val (.int p3), .val (.int (1 : Int32)), .val (.int (0 : Int32)), .val (.int xc0), .val (.int xc1), .val (.int xc2), .val (.ref rc), .val (.ref sx), .val (.ref re), .val (.int zp0), .unset] [(.int zp0), (.ref re)]))
        refine own_Go.st (fun _ kt => XS.bipush X68.here hx rfl (hb hby at_177) kt) ?_
        show own_Go p e below _ (T68.setTop (mkF m 179 #[.val (.int p0), .val (.int p1), .val (.int p2), .val (.int p3), .val (.int (1 : Int32)), .val (.int (0 : Int32)), .val (.int xc0), .val (.int xc1), .val (.int xc2), .val (.ref rc), .val (.ref sx), .val (.ref re), .val (.int zp0), .unset] [(.int (10 : Int32)), (.int zp0), (.ref re)]))
        obtain ⟨T70, h70, X70, e70, W70, st70⟩ := own_bast X68 hx hZ rfl ap68 lp68 (by first | omega | (simp only [List.length_append, List.length_cons, List.length_nil] <;> omega)) own_nar10 (g := (mkF m 179 #[.val (.int p0), .val (.int p1), .val (.int p2), .val (.int p3), .val (.int (1 : Int32)), .val (.int (0 : Int32)), .val (.int xc0), .val (.int xc1), .val (.int xc2), .val (.ref rc), .val (.ref sx), .val (.ref re), .val (.int zp0), .unset] [(.int (10 : Int32)), (.int zp0), (.ref re)])) rfl rfl (hb hby at_179)
        refine own_Go.st st70 ?_
        have N70 := Fr.snoc X70 N68 n0_re
        have a70 := own_Ar.set ap68 W70
        have zz71 : n0 ≤ Array.size h70 := Nat.le_trans zz69 (Nat.le_of_eq (Wr.size W70).symm)
        have kk71 : Keep h0 h70 [] := kk69.wr W70 (Or.inr b_re)
        have hk71 : Array.size h0 ≤ Array.size h70 := Nat.le_trans hk69 (Nat.le_of_eq (Wr.size W70).symm)
        show own_Go p e below _ (T70.setTop (mkF m 180 #[.val (.int p0), .val (.int p1), .val (.int p2), .val (.int p3), .val (.int (1 : Int32)), .val (.int (0 : Int32)), .val (.int xc0), .val (.int xc1), .val (.int xc2), .val (.ref rc), .val (.ref sx), .val (.ref re), .val (.int zp0), .unset] []))
        have afe : own_Ar Z h70 re .byte 8 (own_by (([10] ++ own_p1 xc0) ++ [10])) := a70.congr fun j _ => own_by_snoc10 _ j
        have hzl : (zp0 + (1 : Int32)).toInt = (((([10] ++ own_p1 xc0) ++ [10]).length : Nat) : Int) := by rw [List.length_append]; exact own_inc lp68 (by first | omega | (simp only [List.length_append, List.length_cons, List.length_nil] <;> omega))
        refine own_Go.st (fun _ kt => XS.iload X70.here hx rfl (hb hby at_180) rfl kt) ?_
        show own_Go p e below _ (T70.setTop (mkF m 182 #[.val (.int p0), .val (.int p1), .val (.int p2), .val (.int p3), .val (.int (1 : Int32)), .val (.int (0 : Int32)), .val (.int xc0), .val (.int xc1), .val (.int xc2), .val (.ref rc), .val (.ref sx), .val (.ref re), .val (.int zp0), .unset] [(.int zp0)]))
        refine own_Go.st (fun _ kt => XS.iconst X70.here hx rfl (hb hby at_182) kt) ?_
        show own_Go p e below _ (T70.setTop (mkF m 183 #[.val (.int p0), .val (.int p1), .val (.int p2), .val (.int p3), .val (.int (1 : Int32)), .val (.int (0 : Int32)), .val (.int xc0), .val (.int xc1), .val (.int xc2), .val (.ref rc), .val (.ref sx), .val (.ref re), .val (.int zp0), .unset] [(.int (1 : Int32)), (.int zp0)]))
        refine own_Go.st (fun _ kt => XS.iadd X70.here hx rfl (hb hby at_183) rfl kt) ?_
        show own_Go p e below _ (T70.setTop (mkF m 184 #[.val (.int p0), .val (.int p1), .val (.int p2), .val (.int p3), .val (.int (1 : Int32)), .val (.int (0 : Int32)), .val (.int xc0), .val (.int xc1), .val (.int xc2), .val (.ref rc), .val (.ref sx), .val (.ref re), .val (.int zp0), .unset] [(.int (zp0 + (1 : Int32)))]))
        refine own_Go.st (fun _ kt => XS.istore X70.here hx rfl (hb hby at_184) rfl (l' := #[.val (.int p0), .val (.int p1), .val (.int p2), .val (.int p3), .val (.int (1 : Int32)), .val (.int (0 : Int32)), .val (.int xc0), .val (.int xc1), .val (.int xc2), .val (.ref rc), .val (.ref sx), .val (.ref re), .val (.int (zp0 + (1 : Int32))), .unset]) rfl kt) ?_
        show own_Go p e below _ (T70.setTop (mkF m 186 #[.val (.int p0), .val (.int p1), .val (.int p2), .val (.int p3), .val (.int (1 : Int32)), .val (.int (0 : Int32)), .val (.int xc0), .val (.int xc1), .val (.int xc2), .val (.ref rc), .val (.ref sx), .val (.ref re), .val (.int (zp0 + (1 : Int32))), .unset] []))
        refine own_Go.st (fun _ kt => XS.aload X70.here hx rfl (hb hby at_186) rfl rfl kt) ?_
        show own_Go p e below _ (T70.setTop (mkF m 188 #[.val (.int p0), .val (.int p1), .val (.int p2), .val (.int p3), .val (.int (1 : Int32)), .val (.int (0 : Int32)), .val (.int xc0), .val (.int xc1), .val (.int xc2), .val (.ref rc), .val (.ref sx), .val (.ref re), .val (.int (zp0 + (1 : Int32))), .unset] [(.ref sx)]))
        refine own_Go.st (fun _ kt => XS.iload X70.here hx rfl (hb hby at_188) rfl kt) ?_
        show own_Go p e below _ (T70.setTop (mkF m 190 #[.val (.int p0), .val (.int p1), .val (.int p2), .val (.int p3), .val (.int (1 : Int32)), .val (.int (0 : Int32)), .val (.int xc0), .val (.int xc1), .val (.int xc2), .val (.ref rc), .val (.ref sx), .val (.ref re), .val (.int (zp0 + (1 : Int32))), .unset] [(.int (0 : Int32)), (.ref sx)]))
        have f72 := ((((fsl.1.ext E49).wr W66).keep KF68).wr W70)
        have f73 := ((((fsl.2.1.ext E49).other W66 (Or.inl ne_sx_re)).keep KF68 (ninS ne_sx_re nin0)).other W70 (Or.inl ne_sx_re))
        have f74 := ((((fsl.2.2.1.ext E49).other W66 (Or.inl ne_sx_re)).keep KF68 (ninS ne_sx_re nin0)).other W70 (Or.inl ne_sx_re))
        have f75 := ((((fsl.2.2.2.ext E49).other W66 ne_rb_re).keep KF68 (ninS ne_rb_re nin0)).other W70 ne_rb_re)
        have f76 := ((own_stakeep (((own_stakeep f46 KF47 (own_nst A43)).ext E49).wr W66) KF68 (own_nstA ae0)).wr W70)
        have f77 := ((own_stakeep (((own_stakeep (((sU.ext E39).wr W41).ext E43) KF47 (own_nst A43)).ext E49).wr W66) KF68 (own_nstA ae0)).wr W70)
        have f78 := ((own_stakeep (((own_stakeep (((sI.ext E39).wr W41).ext E43) KF47 (own_nst A43)).ext E49).wr W66) KF68 (own_nstA ae0)).wr W70)
        obtain ⟨_, _, ⟨T79, L79, k79, n79⟩, -, X79, hS79, hgr79, ⟨Lc79, hQ79, l79, y79, z79, ib79⟩, st79⟩ := callSS X70 hx (y := (⟨"com/example/marshal/marshal/pipelines/LogLines", "line", "(Ljava/lang/String;Z)[B"⟩ : MethodName)) hown (mvT hZ (own_w hw 22 rfl)) (mvT hZ (own_w hw 23 rfl)) (mvT hZ (own_w hw 24 rfl)) (mvT hZ (own_w hw 25 rfl)) (by decide) (own_backSI (W := 0) (own_line l Z a0 hw [] sx rb (0 : Int32) [10] [xc0.toInt8] ru zc [] h70 (Array.size h70) (Nat.le_refl _) ⟨f72, f73, f74, f75⟩ (Nat.le_of_ble_eq_true rfl) (Or.inr ⟨rfl, rfl⟩) f76 hzc f77 f78 (fun b cl q => (kk71).2.1 b cl (hkp b cl q) List.not_mem_nil) heldN hcw (by decide) rfl) hZ (own_w hw 25 rfl) (own_w hw 24 rfl) (by decide) (by decide) hIB) (g := (mkF m 190 #[.val (.int p0), .val (.int p1), .val (.int p2), .val (.int p3), .val (.int (1 : Int32)), .val (.int (0 : Int32)), .val (.int xc0), .val (.int xc1), .val (.int xc2), .val (.ref rc), .val (.ref sx), .val (.ref re), .val (.int (zp0 + (1 : Int32))), .unset] [(.int (0 : Int32)), (.ref sx)])) rfl (by rw [hml]; rfl) (argsL := [(.ref sx), (.int (0 : Int32))]) (rest := []) (lenOf own_pd31 rfl) rfl (by show 2 * 0 + _ ≤ _; exact Nat.le_of_eq rfl) (hb hby at_190) (fun _ _ => ⟨rfl, e70, (by decide : 4 + 12 ≤ _), (by decide : 23 + 120 ≤ _)⟩)
        dsimp only [Pt.U, Pt.locs, Pt.cells, Pt.slots] at X79 l79 y79 z79 st79 hQ79 hS79 hgr79 ib79
        subst l79 y79 z79
        obtain ⟨rn, rfl, N79q, an79, KF79⟩ := hQ79
        have N79 := Fr.app N70 (fun y hy => Nat.le_trans zz71 (N79q y hy))
        refine own_Go.st (fun _ kt => st79.trans kt) ?_
        have hZ79 : Z.Warmed39 (s.setVm T79.vm).vm := State.Warmed39.trans (t := s.setVm s.vm) hZ hS79.1
        have ho79 : (s.setVm T79.vm).vm.findClass "com/example/marshal/marshal/pipelines/LogLinesLinePinLaw" = some m.cls := by rw [show (s.setVm T79.vm).vm = T79.vm from rfl, hS79.1.alike.findClass]; exact hown
        have hT79 : s.Since T79.vm (Array.size T79.heap) := State.Since.trans hS0 hS79 (Nat.le_trans hk71 (Nat.le_trans (Nat.le_of_eq (congrArg Array.size e70).symm) hgr79))
        have zz80 : n0 ≤ Array.size T79.heap := Nat.le_trans zz71 KF79.1
        have kk80 : Keep h0 T79.heap [] := kk71.trans KF79 all0
        show own_Go p e below _ (T79.setTop (mkF m 193 #[.val (.int p0), .val (.int p1), .val (.int p2), .val (.int p3), .val (.int (1 : Int32)), .val (.int (0 : Int32)), .val (.int xc0), .val (.int xc1), .val (.int xc2), .val (.ref rc), .val (.ref sx), .val (.ref re), .val (.int (zp0 + (1 : Int32))), .unset] [(.ref rn)]))
        have hee : own_enc ([10] ++ [xc0.toInt8] ++ [10]) = (([10] ++ own_p1 xc0) ++ [10]) := by simp only [List.cons_append, List.nil_append, List.append_nil, List.append_assoc, own_enc_cons, own_enc_nil, own_e1_ten, own_e1p1 hC0, own_e1p1 hC1, own_e1p1 hC2]
        rw [hee] at an79
        refine own_Go.st (fun _ kt => XS.astore X79.here hx rfl (hb hby at_193) rfl rfl (l' := #[.val (.int p0), .val (.int p1), .val (.int p2), .val (.int p3), .val (.int (1 : Int32)), .val (.int (0 : Int32)), .val (.int xc0), .val (.int xc1), .val (.int xc2), .val (.ref rc), .val (.ref sx), .val (.ref re), .val (.int (zp0 + (1 : Int32))), .val (.ref rn)]) rfl kt) ?_
        show own_Go p e below _ (T79.setTop (mkF m 195 #[.val (.int p0), .val (.int p1), .val (.int p2), .val (.int p3), .val (.int (1 : Int32)), .val (.int (0 : Int32)), .val (.int xc0), .val (.int xc1), .val (.int xc2), .val (.ref rc), .val (.ref sx), .val (.ref re), .val (.int (zp0 + (1 : Int32))), .val (.ref rn)] []))
        refine own_Go.st (fun _ kt => XS.aload X79.here hx rfl (hb hby at_195) rfl rfl kt) ?_
        show own_Go p e below _ (T79.setTop (mkF m 197 #[.val (.int p0), .val (.int p1), .val (.int p2), .val (.int p3), .val (.int (1 : Int32)), .val (.int (0 : Int32)), .val (.int xc0), .val (.int xc1), .val (.int xc2), .val (.ref rc), .val (.ref sx), .val (.ref re), .val (.int (zp0 + (1 : Int32))), .val (.ref rn)] [(.ref rn)]))
        refine own_Go.st (fun _ kt => XS.aload X79.here hx rfl (hb hby at_197) rfl rfl kt) ?_
        show own_Go p e below _ (T79.setTop (mkF m 199 #[.val (.int p0), .val (.int p1), .val (.int p2), .val (.int p3), .val (.int (1 : Int32)), .val (.int (0 : Int32)), .val (.int xc0), .val (.int xc1), .val (.int xc2), .val (.ref rc), .val (.ref sx), .val (.ref re), .val (.int (zp0 + (1 : Int32))), .val (.ref rn)] [(.ref re), (.ref rn)]))
        refine own_Go.st (fun _ kt => XS.iload X79.here hx rfl (hb hby at_199) rfl kt) ?_
        show own_Go p e below _ (T79.setTop (mkF m 201 #[.val (.int p0), .val (.int p1), .val (.int p2), .val (.int p3), .val (.int (1 : Int32)), .val (.int (0 : Int32)), .val (.int xc0), .val (.int xc1), .val (.int xc2), .val (.ref rc), .val (.ref sx), .val (.ref re), .val (.int (zp0 + (1 : Int32))), .val (.ref rn)] [(.int (zp0 + (1 : Int32))), (.ref re), (.ref rn)]))
        have f81 := (afe.keep KF79 nin0)
        obtain ⟨_, _, ⟨T82, L82, k82, n82⟩, -, X82, ⟨Lc82, hQ82, l82, y82, z82⟩, st82⟩ := Jvm.LawKit.callS X79 hx (y := (⟨"com/example/marshal/marshal/pipelines/LogLinesLinePinLaw", "same", "([B[BI)Z"⟩ : MethodName)) ho79 (mvT hZ79 (own_w hw 169 rfl)) (mvT hZ79 (own_w hw 170 rfl)) (mvT hZ79 (own_w hw 171 rfl)) (mvT hZ79 (own_w hw 172 rfl)) (by decide) (backOf (W := 0) (own_same l Z a0 hw [] rn re (zp0 + (1 : Int32)) (([10] ++ own_p1 xc0) ++ [10]) T79.heap n0 zz80 an79 f81 hzl) hZ79 (own_w hw 172 rfl) (own_w hw 171 rfl) (by decide) (by decide)) (g := (mkF m 201 #[.val (.int p0), .val (.int p1), .val (.int p2), .val (.int p3), .val (.int (1 : Int32)), .val (.int (0 : Int32)), .val (.int xc0), .val (.int xc1), .val (.int xc2), .val (.ref rc), .val (.ref sx), .val (.ref re), .val (.int (zp0 + (1 : Int32))), .val (.ref rn)] [(.int (zp0 + (1 : Int32))), (.ref re), (.ref rn)])) rfl (by rw [hml]; rfl) (argsL := [(.ref rn), (.ref re), (.int (zp0 + (1 : Int32)))]) (rest := []) (lenOf own_pd32 rfl) rfl (by show 2 * 0 + _ ≤ _; exact Nat.le_of_eq rfl) (hb hby at_201) (fun _ _ => ⟨rfl, rfl, (by decide : 16 + 0 ≤ _), (by decide : 143 + 0 ≤ _)⟩)
        dsimp only [Pt.U, Pt.locs, Pt.cells, Pt.slots] at X82 l82 y82 z82 st82 hQ82
        subst l82 y82 z82
        obtain ⟨rfl, N82q, hh82⟩ := hQ82
        have N82 := Fr.app N79 N82q
        refine own_Go.st (fun _ kt => st82 _ kt) ?_
        show own_Go p e below _ (T82.setTop (mkF m 204 #[.val (.int p0), .val (.int p1), .val (.int p2), .val (.int p3), .val (.int (1 : Int32)), .val (.int (0 : Int32)), .val (.int xc0), .val (.int xc1), .val (.int xc2), .val (.ref rc), .val (.ref sx), .val (.ref re), .val (.int (zp0 + (1 : Int32))), .val (.ref rn)] [(.int (1 : Int32))]))
        exact own_retWZ X82 hx Bd.notSynchronized Bd.returns hT79 (Nat.le_trans (Nat.le_of_eq (congrArg Array.size rfl)) (Nat.le_of_eq (congrArg Array.size hh82).symm)) (Or.inr rfl) (hb hby at_204) (by decide) (by decide) ⟨rfl, N82⟩
    · rw [show (p0 &&& (3 : Int32)) = (2 : Int32) from hm]
      show own_Go p e below _ (T1.setTop (mkF m 46 #[.val (.int p0), .val (.int p1), .val (.int p2), .val (.int p3), .val (.int (2 : Int32)), .val (.int xs), .val (.int xc0), .val (.int xc1), .val (.int xc2), .unset, .unset, .unset, .unset, .unset] [(.int (2 : Int32))]))
      obtain ⟨T83, h83, k83, X83, e83, E83, A83, st83⟩ := newP X1 hx hZ (own_w hw 0 rfl) e1 (g := (mkF m 46 #[.val (.int p0), .val (.int p1), .val (.int p2), .val (.int p3), .val (.int (2 : Int32)), .val (.int xs), .val (.int xc0), .val (.int xc1), .val (.int xc2), .unset, .unset, .unset, .unset, .unset] [(.int (2 : Int32))])) rfl (hb hby at_46) rfl (by decide) (cap := 3) (by decide) (by decide) (by decide) (by decide)
      obtain ⟨rc, g83⟩ : ∃ z, z = Array.size h0 := ⟨_, rfl⟩
      rw [← g83] at A83 st83
      refine own_Go.st st83 ?_
      have n0_rc : n0 ≤ rc := Nat.le_trans Z0 (Nat.le_of_eq g83.symm)
      have b_rc : Array.size h0 ≤ rc := Nat.le_trans kk0.1 (Nat.le_of_eq g83.symm)
      have zz84 : n0 ≤ Array.size h83 := Nat.le_trans Z0 E83.1
      have kk84 : Keep h0 h83 [] := kk0.ext E83
      have hk84 : Array.size h0 ≤ Array.size h83 := Nat.le_trans (Nat.le_refl _) E83.1
      show own_Go p e below _ (T83.setTop (mkF m 48 #[.val (.int p0), .val (.int p1), .val (.int p2), .val (.int p3), .val (.int (2 : Int32)), .val (.int xs), .val (.int xc0), .val (.int xc1), .val (.int xc2), .unset, .unset, .unset, .unset, .unset] [(.ref rc)]))
      have ac0 := own_Ar.new A83 (n := 2) (by decide)
      refine own_Go.st (fun _ kt => XS.astore X83.here hx rfl (hb hby at_48) rfl rfl (l' := #[.val (.int p0), .val (.int p1), .val (.int p2), .val (.int p3), .val (.int (2 : Int32)), .val (.int xs), .val (.int xc0), .val (.int xc1), .val (.int xc2), .val (.ref rc), .unset, .unset, .unset, .unset]) rfl kt) ?_
      show own_Go p e below _ (T83.setTop (mkF m 50 #[.val (.int p0), .val (.int p1), .val (.int p2), .val (.int p3), .val (.int (2 : Int32)), .val (.int xs), .val (.int xc0), .val (.int xc1), .val (.int xc2), .val (.ref rc), .unset, .unset, .unset, .unset] []))
      refine own_Go.st (fun _ kt => XS.iload X83.here hx rfl (hb hby at_50) rfl kt) ?_
      show own_Go p e below _ (T83.setTop (mkF m 52 #[.val (.int p0), .val (.int p1), .val (.int p2), .val (.int p3), .val (.int (2 : Int32)), .val (.int xs), .val (.int xc0), .val (.int xc1), .val (.int xc2), .val (.ref rc), .unset, .unset, .unset, .unset] [(.int (2 : Int32))]))
      refine own_Go.st (fun _ kt => XS.ifNo X83.here hx rfl (hb hby at_52) rfl ((if0 _ _).trans (tlt (by decide)).2.2.2) kt) ?_
      show own_Go p e below _ (T83.setTop (mkF m 55 #[.val (.int p0), .val (.int p1), .val (.int p2), .val (.int p3), .val (.int (2 : Int32)), .val (.int xs), .val (.int xc0), .val (.int xc1), .val (.int xc2), .val (.ref rc), .unset, .unset, .unset, .unset] []))
      refine own_Go.st (fun _ kt => XS.aload X83.here hx rfl (hb hby at_55) rfl rfl kt) ?_
      show own_Go p e below _ (T83.setTop (mkF m 57 #[.val (.int p0), .val (.int p1), .val (.int p2), .val (.int p3), .val (.int (2 : Int32)), .val (.int xs), .val (.int xc0), .val (.int xc1), .val (.int xc2), .val (.ref rc), .unset, .unset, .unset, .unset] [(.ref rc)]))
      refine own_Go.st (fun _ kt => XS.iconst X83.here hx rfl (hb hby at_57) kt) ?_
      show own_Go p e below _ (T83.setTop (mkF m 58 #[.val (.int p0), .val (.int p1), .val (.int p2), .val (.int p3), .val (.int (2 : Int32)), .val (.int xs), .val (.int xc0), .val (.int xc1), .val (.int xc2), .val (.ref rc), .unset, .unset, .unset, .unset] [(.int (0 : Int32)), (.ref rc)]))
      refine own_Go.st (fun _ kt => XS.iload X83.here hx rfl (hb hby at_58) rfl kt) ?_
      show own_Go p e below _ (T83.setTop (mkF m 60 #[.val (.int p0), .val (.int p1), .val (.int p2), .val (.int p3), .val (.int (2 : Int32)), .val (.int xs), .val (.int xc0), .val (.int xc1), .val (.int xc2), .val (.ref rc), .unset, .unset, .unset, .unset] [(.int xc0), (.int (0 : Int32)), (.ref rc)]))
      obtain ⟨T85, h85, X85, e85, W85, st85⟩ := own_cast X83 hx hZ e83 ac0 (i := 0) (by decide) (by decide) (own_nar_char hC0) (g := (mkF m 60 #[.val (.int p0), .val (.int p1), .val (.int p2), .val (.int p3), .val (.int (2 : Int32)), .val (.int xs), .val (.int xc0), .val (.int xc1), .val (.int xc2), .val (.ref rc), .unset, .unset, .unset, .unset] [(.int xc0), (.int (0 : Int32)), (.ref rc)])) rfl rfl (hb hby at_60)
      refine own_Go.st st85 ?_
      have N85 := Fr.snoc X85 N1 n0_rc
      have a85 := own_Ar.set ac0 W85
      have zz86 : n0 ≤ Array.size h85 := Nat.le_trans zz84 (Nat.le_of_eq (Wr.size W85).symm)
      have kk86 : Keep h0 h85 [] := kk84.wr W85 (Or.inr b_rc)
      have hk86 : Array.size h0 ≤ Array.size h85 := Nat.le_trans hk84 (Nat.le_of_eq (Wr.size W85).symm)
      show own_Go p e below _ (T85.setTop (mkF m 61 #[.val (.int p0), .val (.int p1), .val (.int p2), .val (.int p3), .val (.int (2 : Int32)), .val (.int xs), .val (.int xc0), .val (.int xc1), .val (.int xc2), .val (.ref rc), .unset, .unset, .unset, .unset] []))
      refine own_Go.st (fun _ kt => XS.iload X85.here hx rfl (hb hby at_61) rfl kt) ?_
      show own_Go p e below _ (T85.setTop (mkF m 63 #[.val (.int p0), .val (.int p1), .val (.int p2), .val (.int p3), .val (.int (2 : Int32)), .val (.int xs), .val (.int xc0), .val (.int xc1), .val (.int xc2), .val (.ref rc), .unset, .unset, .unset, .unset] [(.int (2 : Int32))]))
      refine own_Go.st (fun _ kt => XS.iconst X85.here hx rfl (hb hby at_63) kt) ?_
      show own_Go p e below _ (T85.setTop (mkF m 64 #[.val (.int p0), .val (.int p1), .val (.int p2), .val (.int p3), .val (.int (2 : Int32)), .val (.int xs), .val (.int xc0), .val (.int xc1), .val (.int xc2), .val (.ref rc), .unset, .unset, .unset, .unset] [(.int (1 : Int32)), (.int (2 : Int32))]))
      refine own_Go.st (fun _ kt => XS.icmpNo X85.here hx rfl (hb hby at_64) rfl (tlt (by decide)).2.2.2 kt) ?_
      show own_Go p e below _ (T85.setTop (mkF m 67 #[.val (.int p0), .val (.int p1), .val (.int p2), .val (.int p3), .val (.int (2 : Int32)), .val (.int xs), .val (.int xc0), .val (.int xc1), .val (.int xc2), .val (.ref rc), .unset, .unset, .unset, .unset] []))
      refine own_Go.st (fun _ kt => XS.aload X85.here hx rfl (hb hby at_67) rfl rfl kt) ?_
      show own_Go p e below _ (T85.setTop (mkF m 69 #[.val (.int p0), .val (.int p1), .val (.int p2), .val (.int p3), .val (.int (2 : Int32)), .val (.int xs), .val (.int xc0), .val (.int xc1), .val (.int xc2), .val (.ref rc), .unset, .unset, .unset, .unset] [(.ref rc)]))
      refine own_Go.st (fun _ kt => XS.iconst X85.here hx rfl (hb hby at_69) kt) ?_
      show own_Go p e below _ (T85.setTop (mkF m 70 #[.val (.int p0), .val (.int p1), .val (.int p2), .val (.int p3), .val (.int (2 : Int32)), .val (.int xs), .val (.int xc0), .val (.int xc1), .val (.int xc2), .val (.ref rc), .unset, .unset, .unset, .unset] [(.int (1 : Int32)), (.ref rc)]))
      refine own_Go.st (fun _ kt => XS.iload X85.here hx rfl (hb hby at_70) rfl kt) ?_
      show own_Go p e below _ (T85.setTop (mkF m 72 #[.val (.int p0), .val (.int p1), .val (.int p2), .val (.int p3), .val (.int (2 : Int32)), .val (.int xs), .val (.int xc0), .val (.int xc1), .val (.int xc2), .val (.ref rc), .unset, .unset, .unset, .unset] [(.int xc1), (.int (1 : Int32)), (.ref rc)]))
      obtain ⟨T87, h87, X87, e87, W87, st87⟩ := own_cast X85 hx hZ e85 a85 (i := 1) (by decide) (by decide) (own_nar_char hC1) (g := (mkF m 72 #[.val (.int p0), .val (.int p1), .val (.int p2), .val (.int p3), .val (.int (2 : Int32)), .val (.int xs), .val (.int xc0), .val (.int xc1), .val (.int xc2), .val (.ref rc), .unset, .unset, .unset, .unset] [(.int xc1), (.int (1 : Int32)), (.ref rc)])) rfl rfl (hb hby at_72)
      refine own_Go.st st87 ?_
      have N87 := Fr.snoc X87 N85 n0_rc
      have a87 := own_Ar.set a85 W87
      have zz88 : n0 ≤ Array.size h87 := Nat.le_trans zz86 (Nat.le_of_eq (Wr.size W87).symm)
      have kk88 : Keep h0 h87 [] := kk86.wr W87 (Or.inr b_rc)
      have hk88 : Array.size h0 ≤ Array.size h87 := Nat.le_trans hk86 (Nat.le_of_eq (Wr.size W87).symm)
      show own_Go p e below _ (T87.setTop (mkF m 73 #[.val (.int p0), .val (.int p1), .val (.int p2), .val (.int p3), .val (.int (2 : Int32)), .val (.int xs), .val (.int xc0), .val (.int xc1), .val (.int xc2), .val (.ref rc), .unset, .unset, .unset, .unset] []))
      refine own_Go.st (fun _ kt => XS.iload X87.here hx rfl (hb hby at_73) rfl kt) ?_
      show own_Go p e below _ (T87.setTop (mkF m 75 #[.val (.int p0), .val (.int p1), .val (.int p2), .val (.int p3), .val (.int (2 : Int32)), .val (.int xs), .val (.int xc0), .val (.int xc1), .val (.int xc2), .val (.ref rc), .unset, .unset, .unset, .unset] [(.int (2 : Int32))]))
      refine own_Go.st (fun _ kt => XS.iconst X87.here hx rfl (hb hby at_75) kt) ?_
      show own_Go p e below _ (T87.setTop (mkF m 76 #[.val (.int p0), .val (.int p1), .val (.int p2), .val (.int p3), .val (.int (2 : Int32)), .val (.int xs), .val (.int xc0), .val (.int xc1), .val (.int xc2), .val (.ref rc), .unset, .unset, .unset, .unset] [(.int (2 : Int32)), (.int (2 : Int32))]))
      refine own_Go.st (fun _ kt => XS.icmpYes X87.here hx rfl (pc0 := 76) (pc' := 85) rfl (hb hby at_76) rfl (flt (by decide)).2.2.2 (by decide) (by decide) kt) ?_
      show own_Go p e below _ (T87.setTop (mkF m 85 #[.val (.int p0), .val (.int p1), .val (.int p2), .val (.int p3), .val (.int (2 : Int32)), .val (.int xs), .val (.int xc0), .val (.int xc1), .val (.int xc2), .val (.ref rc), .unset, .unset, .unset, .unset] []))
      have ac1 : own_Ar Z h87 rc .char 2 (fun j => .int (([xc0, xc1] : List Int32).getD j 0)) := a87.congr fun j hj => by
        have : j = 0 ∨ j = 1 := by omega
        rcases this with rfl | rfl <;> rfl
      obtain ⟨T89, h89, X89, e89, E89, A89, D89, U89, st89⟩ := newO X87 hx hZ hown (own_w hw 1 rfl) (own_w hw 2 rfl) (own_w hw 3 rfl) e87 (g := (mkF m 85 #[.val (.int p0), .val (.int p1), .val (.int p2), .val (.int p3), .val (.int (2 : Int32)), .val (.int xs), .val (.int xc0), .val (.int xc1), .val (.int xc2), .val (.ref rc), .unset, .unset, .unset, .unset] [])) rfl (hb hby at_85) (by decide) (by decide)
      obtain ⟨sx, g89⟩ : ∃ z, z = Array.size h87 := ⟨_, rfl⟩
      rw [← g89] at A89 D89 U89 st89
      refine own_Go.st st89 ?_
      have ne_rc_sx : rc ≠ sx := Nat.ne_of_lt (Nat.lt_of_lt_of_le (ac1).lt (Nat.le_of_eq g89.symm))
      have n0_sx : n0 ≤ sx := Nat.le_trans zz88 (Nat.le_of_eq g89.symm)
      have b_sx : Array.size h0 ≤ sx := Nat.le_trans kk88.1 (Nat.le_of_eq g89.symm)
      have zz90 : n0 ≤ Array.size h89 := Nat.le_trans zz88 E89.1
      have kk90 : Keep h0 h89 [] := kk88.ext E89
      have hk90 : Array.size h0 ≤ Array.size h89 := Nat.le_trans hk88 E89.1
      have D89_value : Fld Z h89 sx "java/lang/String" "value" "[B" .null := D89 (Or.inr (own_w hw 16 rfl)) (ty := (.array .byte)) (by decide)
      have D89_coder : Fld Z h89 sx "java/lang/String" "coder" "B" (.int 0) := D89 (Or.inr (own_w hw 17 rfl)) (ty := .byte) (by decide)
      show own_Go p e below _ (T89.setTop (mkF m 88 #[.val (.int p0), .val (.int p1), .val (.int p2), .val (.int p3), .val (.int (2 : Int32)), .val (.int xs), .val (.int xc0), .val (.int xc1), .val (.int xc2), .val (.ref rc), .unset, .unset, .unset, .unset] [(.ref sx)]))
      refine own_Go.st (fun _ kt => XS.dup X89.here hx rfl (hb hby at_88) rfl rfl kt) ?_
      show own_Go p e below _ (T89.setTop (mkF m 89 #[.val (.int p0), .val (.int p1), .val (.int p2), .val (.int p3), .val (.int (2 : Int32)), .val (.int xs), .val (.int xc0), .val (.int xc1), .val (.int xc2), .val (.ref rc), .unset, .unset, .unset, .unset] [(.ref sx), (.ref sx)]))
      refine own_Go.st (fun _ kt => XS.aload X89.here hx rfl (hb hby at_89) rfl rfl kt) ?_
      show own_Go p e below _ (T89.setTop (mkF m 91 #[.val (.int p0), .val (.int p1), .val (.int p2), .val (.int p3), .val (.int (2 : Int32)), .val (.int xs), .val (.int xc0), .val (.int xc1), .val (.int xc2), .val (.ref rc), .unset, .unset, .unset, .unset] [(.ref rc), (.ref sx), (.ref sx)]))
      have f91 := (ac1.ext E89)
      have f92 := ((((cs.ext E83).wr W85).wr W87).ext E89)
      obtain ⟨_, _, ⟨T93, L93, k93, n93⟩, -, X93, ⟨Lc93, hQ93, l93, y93, z93⟩, st93⟩ := X89.specialBack hx (y := (⟨"java/lang/String", "<init>", "([C)V"⟩ : MethodName)) rfl hown (mvT hZ (own_w hw 4 rfl)) (mvT hZ (own_w hw 5 rfl)) (mvT hZ (own_w hw 6 rfl)) (by decide) (backOf (W := 1) (own_s1 l Z a0 hw [] sx rc (2 : Int32) 2 (fun j => ([xc0, xc1] : List Int32).getD j 0) zc h89 n0 zz90 A89 D89_value D89_coder n0_sx f91 (by decide) (by decide) (by decide) (fun j hj => by
        have : j = 0 ∨ j = 1 := by omega
        rcases this with rfl | rfl <;> first | exact hC0 | exact hC1 | exact hC2) f92 hzc) hZ (own_w hw 6 rfl) (own_w hw 3 rfl) (by decide) (by decide)) (g := (mkF m 91 #[.val (.int p0), .val (.int p1), .val (.int p2), .val (.int p3), .val (.int (2 : Int32)), .val (.int xs), .val (.int xc0), .val (.int xc1), .val (.int xc2), .val (.ref rc), .unset, .unset, .unset, .unset] [(.ref rc), (.ref sx), (.ref sx)])) rfl (by rw [hml]; rfl) (Steps.refl _) (a := sx) (argsL := [(.ref rc)]) (rest := [(.ref sx)]) (lenOf own_pd30 rfl) rfl (by show 2 * 0 + _ ≤ _; exact Nat.le_of_eq rfl) (hb hby at_91) (fun _ _ => ⟨rfl, e89, (by decide : 2 + 1 ≤ _), (by decide : 7 + 8 ≤ _)⟩)
      dsimp only [Pt.U, Pt.locs, Pt.cells, Pt.slots] at X93 l93 y93 z93 st93 hQ93
      subst l93 y93 z93
      obtain ⟨rb, rfl, N93q, st_93, bb93, KF93⟩ := hQ93
      have N93 := Fr.app N87 N93q
      refine own_Go.st (fun _ kt => st93.trans kt) ?_
      have zz94 : n0 ≤ Array.size T93.heap := Nat.le_trans zz90 KF93.1
      have kk94 : Keep h0 T93.heap [] := kk90.trans KF93 (allS (P := fun x => x ∈ [] ∨ _) (Or.inr b_sx) all0)
      have hk94 : Array.size h0 ≤ Array.size T93.heap := Nat.le_trans hk90 KF93.1
      show own_Go p e below _ (T93.setTop (mkF m 94 #[.val (.int p0), .val (.int p1), .val (.int p2), .val (.int p3), .val (.int (2 : Int32)), .val (.int xs), .val (.int xc0), .val (.int xc1), .val (.int xc2), .val (.ref rc), .unset, .unset, .unset, .unset] [(.ref sx)]))
      have fsl : own_Sl Z T93.heap sx rb [xc0.toInt8, xc1.toInt8] := own_Str.sl st_93 rfl fun j hj => by
        have : j = 0 ∨ j = 1 := by omega
        rcases this with rfl | rfl <;> rfl
      refine own_Go.st (fun _ kt => XS.astore X93.here hx rfl (hb hby at_94) rfl rfl (l' := #[.val (.int p0), .val (.int p1), .val (.int p2), .val (.int p3), .val (.int (2 : Int32)), .val (.int xs), .val (.int xc0), .val (.int xc1), .val (.int xc2), .val (.ref rc), .val (.ref sx), .unset, .unset, .unset]) rfl kt) ?_
      show own_Go p e below _ (T93.setTop (mkF m 96 #[.val (.int p0), .val (.int p1), .val (.int p2), .val (.int p3), .val (.int (2 : Int32)), .val (.int xs), .val (.int xc0), .val (.int xc1), .val (.int xc2), .val (.ref rc), .val (.ref sx), .unset, .unset, .unset] []))
      refine own_Go.st (fun _ kt => XS.bipush X93.here hx rfl (hb hby at_96) kt) ?_
      show own_Go p e below _ (T93.setTop (mkF m 98 #[.val (.int p0), .val (.int p1), .val (.int p2), .val (.int p3), .val (.int (2 : Int32)), .val (.int xs), .val (.int xc0), .val (.int xc1), .val (.int xc2), .val (.ref rc), .val (.ref sx), .unset, .unset, .unset] [(.int (8 : Int32))]))
      obtain ⟨T95, h95, X95, e95, E95, A95, B95, st95⟩ := own_newB X93 hx hZ (own_w hw 15 rfl) rfl (g := (mkF m 98 #[.val (.int p0), .val (.int p1), .val (.int p2), .val (.int p3), .val (.int (2 : Int32)), .val (.int xs), .val (.int xc0), .val (.int xc1), .val (.int xc2), .val (.ref rc), .val (.ref sx), .unset, .unset, .unset] [(.int (8 : Int32))])) rfl (hb hby at_98) rfl (n := 8) (by decide) (cap := 8) (by decide) (by decide) (by decide) (by decide)
      obtain ⟨re, g95⟩ : ∃ z, z = Array.size T93.heap := ⟨_, rfl⟩
      rw [← g95] at A95 B95 st95
      refine own_Go.st st95 ?_
      have ne_sx_re : sx ≠ re := Nat.ne_of_lt (Nat.lt_of_lt_of_le (fsl.1).lt (Nat.le_of_eq g95.symm))
      have ne_rb_re : rb ≠ re := Nat.ne_of_lt (Nat.lt_of_lt_of_le (fsl.2.2.2).lt (Nat.le_of_eq g95.symm))
      have n0_re : n0 ≤ re := Nat.le_trans zz94 (Nat.le_of_eq g95.symm)
      have b_re : Array.size h0 ≤ re := Nat.le_trans kk94.1 (Nat.le_of_eq g95.symm)
      have zz96 : n0 ≤ Array.size h95 := Nat.le_trans zz94 E95.1
      have kk96 : Keep h0 h95 [] := kk94.ext E95
      have hk96 : Array.size h0 ≤ Array.size h95 := Nat.le_trans hk94 E95.1
      show own_Go p e below _ (T95.setTop (mkF m 100 #[.val (.int p0), .val (.int p1), .val (.int p2), .val (.int p3), .val (.int (2 : Int32)), .val (.int xs), .val (.int xc0), .val (.int xc1), .val (.int xc2), .val (.ref rc), .val (.ref sx), .unset, .unset, .unset] [(.ref re)]))
      refine own_Go.st (fun _ kt => XS.astore X95.here hx rfl (hb hby at_100) rfl rfl (l' := #[.val (.int p0), .val (.int p1), .val (.int p2), .val (.int p3), .val (.int (2 : Int32)), .val (.int xs), .val (.int xc0), .val (.int xc1), .val (.int xc2), .val (.ref rc), .val (.ref sx), .val (.ref re), .unset, .unset]) rfl kt) ?_
      show own_Go p e below _ (T95.setTop (mkF m 102 #[.val (.int p0), .val (.int p1), .val (.int p2), .val (.int p3), .val (.int (2 : Int32)), .val (.int xs), .val (.int xc0), .val (.int xc1), .val (.int xc2), .val (.ref rc), .val (.ref sx), .val (.ref re), .unset, .unset] []))
      refine own_Go.st (fun _ kt => XS.iconst X95.here hx rfl (hb hby at_102) kt) ?_
      show own_Go p e below _ (T95.setTop (mkF m 103 #[.val (.int p0), .val (.int p1), .val (.int p2), .val (.int p3), .val (.int (2 : Int32)), .val (.int xs), .val (.int xc0), .val (.int xc1), .val (.int xc2), .val (.ref rc), .val (.ref sx), .val (.ref re), .unset, .unset] [(.int (0 : Int32))]))
      refine own_Go.st (fun _ kt => XS.istore X95.here hx rfl (hb hby at_103) rfl (l' := #[.val (.int p0), .val (.int p1), .val (.int p2), .val (.int p3), .val (.int (2 : Int32)), .val (.int xs), .val (.int xc0), .val (.int xc1), .val (.int xc2), .val (.ref rc), .val (.ref sx), .val (.ref re), .val (.int (0 : Int32)), .unset]) rfl kt) ?_
      show own_Go p e below _ (T95.setTop (mkF m 105 #[.val (.int p0), .val (.int p1), .val (.int p2), .val (.int p3), .val (.int (2 : Int32)), .val (.int xs), .val (.int xc0), .val (.int xc1), .val (.int xc2), .val (.ref rc), .val (.ref sx), .val (.ref re), .val (.int (0 : Int32)), .unset] []))
      refine own_Go.st (fun _ kt => XS.iload X95.here hx rfl (hb hby at_105) rfl kt) ?_
      show own_Go p e below _ (T95.setTop (mkF m 107 #[.val (.int p0), .val (.int p1), .val (.int p2), .val (.int p3), .val (.int (2 : Int32)), .val (.int xs), .val (.int xc0), .val (.int xc1), .val (.int xc2), .val (.ref rc), .val (.ref sx), .val (.ref re), .val (.int (0 : Int32)), .unset] [(.int xs)]))
      rcases hxs with rfl | rfl
      · show own_Go p e below _ (T95.setTop (mkF m 107 #[.val (.int p0), .val (.int p1), .val (.int p2), .val (.int p3), .val (.int (2 : Int32)), .val (.int (1 : Int32)), .val (.int xc0), .val (.int xc1), .val (.int xc2), .val (.ref rc), .val (.ref sx), .val (.ref re), .val (.int (0 : Int32)), .unset] [(.int (1 : Int32))]))
        refine own_Go.st (fun _ kt => XS.ifYes X95.here hx rfl (pc0 := 107) (pc' := 123) rfl (hb hby at_107) rfl ((if0 _ _).trans (feq (by decide)).2) (by decide) (by decide) kt) ?_
        show own_Go p e below _ (T95.setTop (mkF m 123 #[.val (.int p0), .val (.int p1), .val (.int p2), .val (.int p3), .val (.int (2 : Int32)), .val (.int (1 : Int32)), .val (.int xc0), .val (.int xc1), .val (.int xc2), .val (.ref rc), .val (.ref sx), .val (.ref re), .val (.int (0 : Int32)), .unset] []))
        refine own_Go.st (fun _ kt => XS.iload X95.here hx rfl (hb hby at_123) rfl kt) ?_
        show own_Go p e below _ (T95.setTop (mkF m 125 #[.val (.int p0), .val (.int p1), .val (.int p2), .val (.int p3), .val (.int (2 : Int32)), .val (.int (1 : Int32)), .val (.int xc0), .val (.int xc1), .val (.int xc2), .val (.ref rc), .val (.ref sx), .val (.ref re), .val (.int (0 : Int32)), .unset] [(.int (2 : Int32))]))
        refine own_Go.st (fun _ kt => XS.ifNo X95.here hx rfl (hb hby at_125) rfl ((if0 _ _).trans (tlt (by decide)).2.2.2) kt) ?_
        show own_Go p e below _ (T95.setTop (mkF m 128 #[.val (.int p0), .val (.int p1), .val (.int p2), .val (.int p3), .val (.int (2 : Int32)), .val (.int (1 : Int32)), .val (.int xc0), .val (.int xc1), .val (.int xc2), .val (.ref rc), .val (.ref sx), .val (.ref re), .val (.int (0 : Int32)), .unset] []))
        refine own_Go.st (fun _ kt => XS.aload X95.here hx rfl (hb hby at_128) rfl rfl kt) ?_
        show own_Go p e below _ (T95.setTop (mkF m 130 #[.val (.int p0), .val (.int p1), .val (.int p2), .val (.int p3), .val (.int (2 : Int32)), .val (.int (1 : Int32)), .val (.int xc0), .val (.int xc1), .val (.int xc2), .val (.ref rc), .val (.ref sx), .val (.ref re), .val (.int (0 : Int32)), .unset] [(.ref re)]))
        refine own_Go.st (fun _ kt => XS.iload X95.here hx rfl (hb hby at_130) rfl kt) ?_
        show own_Go p e below _ (T95.setTop (mkF m 132 #[.val (.int p0), .val (.int p1), .val (.int p2), .val (.int p3), .val (.int (2 : Int32)), .val (.int (1 : Int32)), .val (.int xc0), .val (.int xc1), .val (.int xc2), .val (.ref rc), .val (.ref sx), .val (.ref re), .val (.int (0 : Int32)), .unset] [(.int (0 : Int32)), (.ref re)]))
        refine own_Go.st (fun _ kt => XS.iload X95.here hx rfl (hb hby at_132) rfl kt) ?_
        show own_Go p e below _ (T95.setTop (mkF m 134 #[.val (.int p0), .val (.int p1), .val (.int p2), .val (.int p3), .val (.int (2 : Int32)), .val (.int (1 : Int32)), .val (.int xc0), .val (.int xc1), .val (.int xc2), .val (.ref rc), .val (.ref sx), .val (.ref re), .val (.int (0 : Int32)), .unset] [(.int xc0), (.int (0 : Int32)), (.ref re)]))
        obtain ⟨_, _, ⟨T97, L97, k97, n97⟩, -, X97, ⟨Lc97, hQ97, l97, y97, z97⟩, st97⟩ := Jvm.LawKit.callS X95 hx (y := (⟨"com/example/marshal/marshal/pipelines/LogLinesLinePinLaw", "put", "([BIC)I"⟩ : MethodName)) hown (mvT hZ (own_w hw 186 rfl)) (mvT hZ (own_w hw 187 rfl)) (mvT hZ (own_w hw 171 rfl)) (mvT hZ (own_w hw 188 rfl)) (by decide) (backOf (W := 0) (own_put l Z a0 hw [] re (0 : Int32) xc0 [] h95 n0 zz96 A95 (show (0 : Int32).toInt = ((([] : List Int8).length : Nat) : Int) by decide) (by first | omega | (simp only [List.length_append, List.length_cons, List.length_nil] <;> omega)) n0_re) hZ (own_w hw 188 rfl) (own_w hw 171 rfl) (by decide) (by decide)) (g := (mkF m 134 #[.val (.int p0), .val (.int p1), .val (.int p2), .val (.int p3), .val (.int (2 : Int32)), .val (.int (1 : Int32)), .val (.int xc0), .val (.int xc1), .val (.int xc2), .val (.ref rc), .val (.ref sx), .val (.ref re), .val (.int (0 : Int32)), .unset] [(.int xc0), (.int (0 : Int32)), (.ref re)])) rfl (by rw [hml]; rfl) (argsL := [(.ref re), (.int (0 : Int32)), (.int xc0)]) (rest := []) (lenOf own_pd33 rfl) rfl (by show 2 * 0 + _ ≤ _; exact Nat.le_of_eq rfl) (hb hby at_134) (fun _ _ => ⟨rfl, e95, (by decide : 4 + 0 ≤ _), (by decide : 23 + 0 ≤ _)⟩)
        dsimp only [Pt.U, Pt.locs, Pt.cells, Pt.slots] at X97 l97 y97 z97 st97 hQ97
        subst l97 y97 z97
        obtain ⟨zp0, rfl, N97q, ap97, lp97, KF97⟩ := hQ97
        have N97 := Fr.app N93 N97q
        refine own_Go.st (fun _ kt => st97 _ kt) ?_
        have zz98 : n0 ≤ Array.size T97.heap := Nat.le_trans zz96 KF97.1
        have kk98 : Keep h0 T97.heap [] := kk96.trans KF97 (allS (P := fun x => x ∈ [] ∨ _) (Or.inr b_re) all0)
        have hk98 : Array.size h0 ≤ Array.size T97.heap := Nat.le_trans hk96 KF97.1
        show own_Go p e below _ (T97.setTop (mkF m 137 #[.val (.int p0), .val (.int p1), .val (.int p2), .val (.int p3), .val (.int (2 : Int32)), .val (.int (1 : Int32)), .val (.int xc0), .val (.int xc1), .val (.int xc2), .val (.ref rc), .val (.ref sx), .val (.ref re), .val (.int (0 : Int32)), .unset] [(.int zp0)]))
        refine own_Go.st (fun _ kt => XS.istore X97.here hx rfl (hb hby at_137) rfl (l' := #[.val (.int p0), .val (.int p1), .val (.int p2), .val (.int p3), .val (.int (2 : Int32)), .val (.int (1 : Int32)), .val (.int xc0), .val (.int xc1), .val (.int xc2), .val (.ref rc), .val (.ref sx), .val (.ref re), .val (.int zp0), .unset]) rfl kt) ?_
        show own_Go p e below _ (T97.setTop (mkF m 139 #[.val (.int p0), .val (.int p1), .val (.int p2), .val (.int p3), .val (.int (2 : Int32)), .val (.int (1 : Int32)), .val (.int xc0), .val (.int xc1), .val (.int xc2), .val (.ref rc), .val (.ref sx), .val (.ref re), .val (.int zp0), .unset] []))
        refine own_Go.st (fun _ kt => XS.iload X97.here hx rfl (hb hby at_139) rfl kt) ?_
        show own_Go p e below _ (T97.setTop (mkF m 141 #[.val (.int p0), .val (.int p1), .val (.int p2), .val (.int p3), .val (.int (2 : Int32)), .val (.int (1 : Int32)), .val (.int xc0), .val (.int xc1), .val (.int xc2), .val (.ref rc), .val (.ref sx), .val (.ref re), .val (.int zp0), .unset] [(.int (2 : Int32))]))
        refine own_Go.st (fun _ kt => XS.iconst X97.here hx rfl (hb hby at_141) kt) ?_
        show own_Go p e below _ (T97.setTop (mkF m 142 #[.val (.int p0), .val (.int p1), .val (.int p2), .val (.int p3), .val (.int (2 : Int32)), .val (.int (1 : Int32)), .val (.int xc0), .val (.int xc1), .val (.int xc2), .val (.ref rc), .val (.ref sx), .val (.ref re), .val (.int zp0), .unset] [(.int (1 : Int32)), (.int (2 : Int32))]))
        refine own_Go.st (fun _ kt => XS.icmpNo X97.here hx rfl (hb hby at_142) rfl (tlt (by decide)).2.2.2 kt) ?_
        show own_Go p e below _ (T97.setTop (mkF m 145 #[.val (.int p0), .val (.int p1), .val (.int p2), .val (.int p3), .val (.int (2 : Int32)), .val (.int (1 : Int32)), .val (.int xc0), .val (.int xc1), .val (.int xc2), .val (.ref rc), .val (.ref sx), .val (.ref re), .val (.int zp0), .unset] []))
        refine own_Go.st (fun _ kt => XS.aload X97.here hx rfl (hb hby at_145) rfl rfl kt) ?_
        show own_Go p e below _ (T97.setTop (mkF m 147 #[.val (.int p0), .val (.int p1), .val (.int p2), .val (.int p3), .val (.int (2 : Int32)), .val (.int (1 : Int32)), .val (.int xc0), .val (.int xc1), .val (.int xc2), .val (.ref rc), .val (.ref sx), .val (.ref re), .val (.int zp0), .unset] [(.ref re)]))
        refine own_Go.st (fun _ kt => XS.iload X97.here hx rfl (hb hby at_147) rfl kt) ?_
        show own_Go p e below _ (T97.setTop (mkF m 149 #[.val (.int p0), .val (.int p1), .val (.int p2), .val (.int p3), .val (.int (2 : Int32)), .val (.int (1 : Int32)), .val (.int xc0), .val (.int xc1), .val (.int xc2), .val (.ref rc), .val (.ref sx), .val (.ref re), .val (.int zp0), .unset] [(.int zp0), (.ref re)]))
        refine own_Go.st (fun _ kt => XS.iload X97.here hx rfl (hb hby at_149) rfl kt) ?_
        show own_Go p e below _ (T97.setTop (mkF m 151 #[.val (.int p0), .val (.int p1), .val (.int p2), .val (.int p3), .val (.int (2 : Int32)), .val (.int (1 : Int32)), .val (.int xc0), .val (.int xc1), .val (.int xc2), .val (.ref rc), .val (.ref sx), .val (.ref re), .val (.int zp0), .unset] [(.int xc1), (.int zp0), (.ref re)]))
        obtain ⟨_, _, ⟨T99, L99, k99, n99⟩, -, X99, ⟨Lc99, hQ99, l99, y99, z99⟩, st99⟩ := Jvm.LawKit.callS X97 hx (y := (⟨"com/example/marshal/marshal/pipelines/LogLinesLinePinLaw", "put", "([BIC)I"⟩ : MethodName)) hown (mvT hZ (own_w hw 186 rfl)) (mvT hZ (own_w hw 187 rfl)) (mvT hZ (own_w hw 171 rfl)) (mvT hZ (own_w hw 188 rfl)) (by decide) (backOf (W := 0) (own_put l Z a0 hw [] re zp0 xc1 ([] ++ own_p1 xc0) T97.heap n0 zz98 ap97 lp97 (by first | omega | (simp only [List.length_append, List.length_cons, List.length_nil] <;> omega)) n0_re) hZ (own_w hw 188 rfl) (own_w hw 171 rfl) (by decide) (by decide)) (g := (mkF m 151 #[.val (.int p0), .val (.int p1), .val (.int p2), .val (.int p3), .val (.int (2 : Int32)), .val (.int (1 : Int32)), .val (.int xc0), .val (.int xc1), .val (.int xc2), .val (.ref rc), .val (.ref sx), .val (.ref re), .val (.int zp0), .unset] [(.int xc1), (.int zp0), (.ref re)])) rfl (by rw [hml]; rfl) (argsL := [(.ref re), (.int zp0), (.int xc1)]) (rest := []) (lenOf own_pd33 rfl) rfl (by show 2 * 0 + _ ≤ _; exact Nat.le_of_eq rfl) (hb hby at_151) (fun _ _ => ⟨rfl, rfl, (by decide : 4 + 0 ≤ _), (by decide : 23 + 0 ≤ _)⟩)
        dsimp only [Pt.U, Pt.locs, Pt.cells, Pt.slots] at X99 l99 y99 z99 st99 hQ99
        subst l99 y99 z99
        obtain ⟨zp1, rfl, N99q, ap99, lp99, KF99⟩ := hQ99
        have N99 := Fr.app N97 N99q
        refine own_Go.st (fun _ kt => st99 _ kt) ?_
        have zz100 : n0 ≤ Array.size T99.heap := Nat.le_trans zz98 KF99.1
        have kk100 : Keep h0 T99.heap [] := kk98.trans KF99 (allS (P := fun x => x ∈ [] ∨ _) (Or.inr b_re) all0)
        have hk100 : Array.size h0 ≤ Array.size T99.heap := Nat.le_trans hk98 KF99.1
        show own_Go p e below _ (T99.setTop (mkF m 154 #[.val (.int p0), .val (.int p1), .val (.int p2), .val (.int p3), .val (.int (2 : Int32)), .val (.int (1 : Int32)), .val (.int xc0), .val (.int xc1), .val (.int xc2), .val (.ref rc), .val (.ref sx), .val (.ref re), .val (.int zp0), .unset] [(.int zp1)]))
        refine own_Go.st (fun _ kt => XS.istore X99.here hx rfl (hb hby at_154) rfl (l' := #[.val (.int p0), .val (.int p1), .val (.int p2), .val (.int p3), .val (.int (2 : Int32)), .val (.int (1 : Int32)), .val (.int xc0), .val (.int xc1), .val (.int xc2), .val (.ref rc), .val (.ref sx), .val (.ref re), .val (.int zp1), .unset]) rfl kt) ?_
        show own_Go p e below _ (T99.setTop (mkF m 156 #[.val (.int p0), .val (.int p1), .val (.int p2), .val (.int p3), .val (.int (2 : Int32)), .val (.int (1 : Int32)), .val (.int xc0), .val (.int xc1), .val (.int xc2), .val (.ref rc), .val (.ref sx), .val (.ref re), .val (.int zp1), .unset] []))
        refine own_Go.st (fun _ kt => XS.iload X99.here hx rfl (hb hby at_156) rfl kt) ?_
        show own_Go p e below _ (T99.setTop (mkF m 158 #[.val (.int p0), .val (.int p1), .val (.int p2), .val (.int p3), .val (.int (2 : Int32)), .val (.int (1 : Int32)), .val (.int xc0), .val (.int xc1), .val (.int xc2), .val (.ref rc), .val (.ref sx), .val (.ref re), .val (.int zp1), .unset] [(.int (2 : Int32))]))
        refine own_Go.st (fun _ kt => XS.iconst X99.here hx rfl (hb hby at_158) kt) ?_
        show own_Go p e below _ (T99.setTop (mkF m 159 #[.val (.int p0), .val (.int p1), .val (.int p2), .val (.int p3), .val (.int (2 : Int32)), .val (.int (1 : Int32)), .val (.int xc0), .val (.int xc1), .val (.int xc2), .val (.ref rc), .val (.ref sx), .val (.ref re), .val (.int zp1), .unset] [(.int (2 : Int32)), (.int (2 : Int32))]))
        refine own_Go.st (fun _ kt => XS.icmpYes X99.here hx rfl (pc0 := 159) (pc' := 173) rfl (hb hby at_159) rfl (flt (by decide)).2.2.2 (by decide) (by decide) kt) ?_
        show own_Go p e below _ (T99.setTop (mkF m 173 #[.val (.int p0), .val (.int p1), .val (.int p2), .val (.int p3), .val (.int (2 : Int32)), .val (.int (1 : Int32)), .val (.int xc0), .val (.int xc1), .val (.int xc2), .val (.ref rc), .val (.ref sx), .val (.ref re), .val (.int zp1), .unset] []))
        refine own_Go.st (fun _ kt => XS.aload X99.here hx rfl (hb hby at_173) rfl rfl kt) ?_
        show own_Go p e below _ (T99.setTop (mkF m 175 #[.val (.int p0), .val (.int p1), .val (.int p2), .val (.int p3), .val (.int (2 : Int32)), .val (.int (1 : Int32)), .val (.int xc0), .val (.int xc1), .val (.int xc2), .val (.ref rc), .val (.ref sx), .val (.ref re), .val (.int zp1), .unset] [(.ref re)]))
        refine own_Go.st (fun _ kt => XS.iload X99.here hx rfl (hb hby at_175) rfl kt) ?_
        show own_Go p e below _ (T99.setTop (mkF m 177 #[.val (.int p0), .val (.int p1), .val (.int p2), .val (.int p3), .val (.int (2 : Int32)), .val (.int (1 : Int32)), .val (.int xc0), .val (.int xc1), .val (.int xc2), .val (.ref rc), .val (.ref sx), .val (.ref re), .val (.int zp1), .unset] [(.int zp1), (.ref re)]))
        refine own_Go.st (fun _ kt => XS.bipush X99.here hx rfl (hb hby at_177) kt) ?_
        show own_Go p e below _ (T99.setTop (mkF m 179 #[.val (.int p0), .val (.int p1), .val (.int p2), .val (.int p3), .val (.int (2 : Int32)), .val (.int (1 : Int32)), .val (.int xc0), .val (.int xc1), .val (.int xc2), .val (.ref rc), .val (.ref sx), .val (.ref re), .val (.int zp1), .unset] [(.int (10 : Int32)), (.int zp1), (.ref re)]))
        obtain ⟨T101, h101, X101, e101, W101, st101⟩ := own_bast X99 hx hZ rfl ap99 lp99 (by first | omega | (simp only [List.length_append, List.length_cons, List.length_nil] <;> omega)) own_nar10 (g := (mkF m 179 #[.val (.int p0), .val (.int p1), .val (.int p2), .val (.int p3), .val (.int (2 : Int32)), .val (.int (1 : Int32)), .val (.int xc0), .val (.int xc1), .val (.int xc2), .val (.ref rc), .val (.ref sx), .val (.ref re), .val (.int zp1), .unset] [(.int (10 : Int32)), (.int zp1), (.ref re)])) rfl rfl (hb hby at_179)
        refine own_Go.st st101 ?_
        have N101 := Fr.snoc X101 N99 n0_re
        have a101 := own_Ar.set ap99 W101
        have zz102 : n0 ≤ Array.size h101 := Nat.le_trans zz100 (Nat.le_of_eq (Wr.size W101).symm)
        have kk102 : Keep h0 h101 [] := kk100.wr W101 (Or.inr b_re)
        have hk102 : Array.size h0 ≤ Array.size h101 := Nat.le_trans hk100 (Nat.le_of_eq (Wr.size W101).symm)
        show own_Go p e below _ (T101.setTop (mkF m 180 #[.val (.int p0), .val (.int p1), .val (.int p2), .val (.int p3), .val (.int (2 : Int32)), .val (.int (1 : Int32)), .val (.int xc0), .val (.int xc1), .val (.int xc2), .val (.ref rc), .val (.ref sx), .val (.ref re), .val (.int zp1), .unset] []))
        have afe : own_Ar Z h101 re .byte 8 (own_by ((([] ++ own_p1 xc0) ++ own_p1 xc1) ++ [10])) := a101.congr fun j _ => own_by_snoc10 _ j
        have hzl : (zp1 + (1 : Int32)).toInt = ((((([] ++ own_p1 xc0) ++ own_p1 xc1) ++ [10]).length : Nat) : Int) := by rw [List.length_append]; exact own_inc lp99 (by first | omega | (simp only [List.length_append, List.length_cons, List.length_nil] <;> omega))
        refine own_Go.st (fun _ kt => XS.iload X101.here hx rfl (hb hby at_180) rfl kt) ?_
        show own_Go p e below _ (T101.setTop (mkF m 182 #[.val (.int p0), .val (.int p1), .val (.int p2), .val (.int p3), .val (.int (2 : Int32)), .val (.int (1 : Int32)), .val (.int xc0), .val (.int xc1), .val (.int xc2), .val (.ref rc), .val (.ref sx), .val (.ref re), .val (.int zp1), .unset] [(.int zp1)]))
        refine own_Go.st (fun _ kt => XS.iconst X101.here hx rfl (hb hby at_182) kt) ?_
        show own_Go p e below _ (T101.setTop (mkF m 183 #[.val (.int p0), .val (.int p1), .val (.int p2), .val (.int p3), .val (.int (2 : Int32)), .val (.int (1 : Int32)), .val (.int xc0), .val (.int xc1), .val (.int xc2), .val (.ref rc), .val (.ref sx), .val (.ref re), .val (.int zp1), .unset] [(.int (1 : Int32)), (.int zp1)]))
        refine own_Go.st (fun _ kt => XS.iadd X101.here hx rfl (hb hby at_183) rfl kt) ?_
        show own_Go p e below _ (T101.setTop (mkF m 184 #[.val (.int p0), .val (.int p1), .val (.int p2), .val (.int p3), .val (.int (2 : Int32)), .val (.int (1 : Int32)), .val (.int xc0), .val (.int xc1), .val (.int xc2), .val (.ref rc), .val (.ref sx), .val (.ref re), .val (.int zp1), .unset] [(.int (zp1 + (1 : Int32)))]))
        refine own_Go.st (fun _ kt => XS.istore X101.here hx rfl (hb hby at_184) rfl (l' := #[.val (.int p0), .val (.int p1), .val (.int p2), .val (.int p3), .val (.int (2 : Int32)), .val (.int (1 : Int32)), .val (.int xc0), .val (.int xc1), .val (.int xc2), .val (.ref rc), .val (.ref sx), .val (.ref re), .val (.int (zp1 + (1 : Int32))), .unset]) rfl kt) ?_
        show own_Go p e below _ (T101.setTop (mkF m 186 #[.val (.int p0), .val (.int p1), .val (.int p2), .val (.int p3), .val (.int (2 : Int32)), .val (.int (1 : Int32)), .val (.int xc0), .val (.int xc1), .val (.int xc2), .val (.ref rc), .val (.ref sx), .val (.ref re), .val (.int (zp1 + (1 : Int32))), .unset] []))
        refine own_Go.st (fun _ kt => XS.aload X101.here hx rfl (hb hby at_186) rfl rfl kt) ?_
        show own_Go p e below _ (T101.setTop (mkF m 188 #[.val (.int p0), .val (.int p1), .val (.int p2), .val (.int p3), .val (.int (2 : Int32)), .val (.int (1 : Int32)), .val (.int xc0), .val (.int xc1), .val (.int xc2), .val (.ref rc), .val (.ref sx), .val (.ref re), .val (.int (zp1 + (1 : Int32))), .unset] [(.ref sx)]))
        refine own_Go.st (fun _ kt => XS.iload X101.here hx rfl (hb hby at_188) rfl kt) ?_
        show own_Go p e below _ (T101.setTop (mkF m 190 #[.val (.int p0), .val (.int p1), .val (.int p2), .val (.int p3), .val (.int (2 : Int32)), .val (.int (1 : Int32)), .val (.int xc0), .val (.int xc1), .val (.int xc2), .val (.ref rc), .val (.ref sx), .val (.ref re), .val (.int (zp1 + (1 : Int32))), .unset] [(.int (1 : Int32)), (.ref sx)]))
        have f103 := ((((fsl.1.ext E95).keep KF97).keep KF99).wr W101)
        have f104 := ((((fsl.2.1.ext E95).keep KF97 (ninS ne_sx_re nin0)).keep KF99 (ninS ne_sx_re nin0)).other W101 (Or.inl ne_sx_re))
        have f105 := ((((fsl.2.2.1.ext E95).keep KF97 (ninS ne_sx_re nin0)).keep KF99 (ninS ne_sx_re nin0)).other W101 (Or.inl ne_sx_re))
        have f106 := ((((fsl.2.2.2.ext E95).keep KF97 (ninS ne_rb_re nin0)).keep KF99 (ninS ne_rb_re nin0)).other W101 ne_rb_re)
        have f107 := ((own_stakeep (own_stakeep ((own_stakeep f92 KF93 (own_nst A89)).ext E95) KF97 (own_nstA A95)) KF99 (own_nstA ap97)).wr W101)
        have f108 := ((own_stakeep (own_stakeep ((own_stakeep ((((sU.ext E83).wr W85).wr W87).ext E89) KF93 (own_nst A89)).ext E95) KF97 (own_nstA A95)) KF99 (own_nstA ap97)).wr W101)
        have f109 := ((own_stakeep (own_stakeep ((own_stakeep ((((sI.ext E83).wr W85).wr W87).ext E89) KF93 (own_nst A89)).ext E95) KF97 (own_nstA A95)) KF99 (own_nstA ap97)).wr W101)
        obtain ⟨_, _, ⟨T110, L110, k110, n110⟩, -, X110, hS110, hgr110, ⟨Lc110, hQ110, l110, y110, z110, ib110⟩, st110⟩ := callSS X101 hx (y := (⟨"com/example/marshal/marshal/pipelines/LogLines", "line", "(Ljava/lang/String;Z)[B"⟩ : MethodName)) hown (mvT hZ (own_w hw 22 rfl)) (mvT hZ (own_w hw 23 rfl)) (mvT hZ (own_w hw 24 rfl)) (mvT hZ (own_w hw 25 rfl)) (by decide) (own_backSI (W := 0) (own_line l Z a0 hw [] sx rb (1 : Int32) [] [xc0.toInt8, xc1.toInt8] ru zc [] h101 (Array.size h101) (Nat.le_refl _) ⟨f103, f104, f105, f106⟩ (Nat.le_of_ble_eq_true rfl) (Or.inl ⟨rfl, rfl⟩) f107 hzc f108 f109 (fun b cl q => (kk102).2.1 b cl (hkp b cl q) List.not_mem_nil) heldN hcw (by decide) rfl) hZ (own_w hw 25 rfl) (own_w hw 24 rfl) (by decide) (by decide) hIB) (g := (mkF m 190 #[.val (.int p0), .val (.int p1), .val (.int p2), .val (.int p3), .val (.int (2 : Int32)), .val (.int (1 : Int32)), .val (.int xc0), .val (.int xc1), .val (.int xc2), .val (.ref rc), .val (.ref sx), .val (.ref re), .val (.int (zp1 + (1 : Int32))), .unset] [(.int (1 : Int32)), (.ref sx)])) rfl (by rw [hml]; rfl) (argsL := [(.ref sx), (.int (1 : Int32))]) (rest := []) (lenOf own_pd31 rfl) rfl (by show 2 * 0 + _ ≤ _; exact Nat.le_of_eq rfl) (hb hby at_190) (fun _ _ => ⟨rfl, e101, (by decide : 4 + 12 ≤ _), (by decide : 23 + 120 ≤ _)⟩)
        dsimp only [Pt.U, Pt.locs, Pt.cells, Pt.slots] at X110 l110 y110 z110 st110 hQ110 hS110 hgr110 ib110
        subst l110 y110 z110
        obtain ⟨rn, rfl, N110q, an110, KF110⟩ := hQ110
        have N110 := Fr.app N101 (fun y hy => Nat.le_trans zz102 (N110q y hy))
        refine own_Go.st (fun _ kt => st110.trans kt) ?_
        have hZ110 : Z.Warmed39 (s.setVm T110.vm).vm := State.Warmed39.trans (t := s.setVm s.vm) hZ hS110.1
        have ho110 : (s.setVm T110.vm).vm.findClass "com/example/marshal/marshal/pipelines/LogLinesLinePinLaw" = some m.cls := by rw [show (s.setVm T110.vm).vm = T110.vm from rfl, hS110.1.alike.findClass]; exact hown
        have hT110 : s.Since T110.vm (Array.size T110.heap) := State.Since.trans hS0 hS110 (Nat.le_trans hk102 (Nat.le_trans (Nat.le_of_eq (congrArg Array.size e101).symm) hgr110))
        have zz111 : n0 ≤ Array.size T110.heap := Nat.le_trans zz102 KF110.1
        have kk111 : Keep h0 T110.heap [] := kk102.trans KF110 all0
        show own_Go p e below _ (T110.setTop (mkF m 193 #[.val (.int p0), .val (.int p1), .val (.int p2), .val (.int p3), .val (.int (2 : Int32)), .val (.int (1 : Int32)), .val (.int xc0), .val (.int xc1), .val (.int xc2), .val (.ref rc), .val (.ref sx), .val (.ref re), .val (.int (zp1 + (1 : Int32))), .unset] [(.ref rn)]))
        have hee : own_enc ([] ++ [xc0.toInt8, xc1.toInt8] ++ [10]) = ((([] ++ own_p1 xc0) ++ own_p1 xc1) ++ [10]) := by simp only [List.cons_append, List.nil_append, List.append_nil, List.append_assoc, own_enc_cons, own_enc_nil, own_e1_ten, own_e1p1 hC0, own_e1p1 hC1, own_e1p1 hC2]
        rw [hee] at an110
        refine own_Go.st (fun _ kt => XS.astore X110.here hx rfl (hb hby at_193) rfl rfl (l' := #[.val (.int p0), .val (.int p1), .val (.int p2), .val (.int p3), .val (.int (2 : Int32)), .val (.int (1 : Int32)), .val (.int xc0), .val (.int xc1), .val (.int xc2), .val (.ref rc), .val (.ref sx), .val (.ref re), .val (.int (zp1 + (1 : Int32))), .val (.ref rn)]) rfl kt) ?_
        show own_Go p e below _ (T110.setTop (mkF m 195 #[.val (.int p0), .val (.int p1), .val (.int p2), .val (.int p3), .val (.int (2 : Int32)), .val (.int (1 : Int32)), .val (.int xc0), .val (.int xc1), .val (.int xc2), .val (.ref rc), .val (.ref sx), .val (.ref re), .val (.int (zp1 + (1 : Int32))), .val (.ref rn)] []))
        refine own_Go.st (fun _ kt => XS.aload X110.here hx rfl (hb hby at_195) rfl rfl kt) ?_
        show own_Go p e below _ (T110.setTop (mkF m 197 #[.val (.int p0), .val (.int p1), .val (.int p2), .val (.int p3), .val (.int (2 : Int32)), .val (.int (1 : Int32)), .val (.int xc0), .val (.int xc1), .val (.int xc2), .val (.ref rc), .val (.ref sx), .val (.ref re), .val (.int (zp1 + (1 : Int32))), .val (.ref rn)] [(.ref rn)]))
        refine own_Go.st (fun _ kt => XS.aload X110.here hx rfl (hb hby at_197) rfl rfl kt) ?_
        show own_Go p e below _ (T110.setTop (mkF m 199 #[.val (.int p0), .val (.int p1), .val (.int p2), .val (.int p3), .val (.int (2 : Int32)), .val (.int (1 : Int32)), .val (.int xc0), .val (.int xc1), .val (.int xc2), .val (.ref rc), .val (.ref sx), .val (.ref re), .val (.int (zp1 + (1 : Int32))), .val (.ref rn)] [(.ref re), (.ref rn)]))
        refine own_Go.st (fun _ kt => XS.iload X110.here hx rfl (hb hby at_199) rfl kt) ?_
        show own_Go p e below _ (T110.setTop (mkF m 201 #[.val (.int p0), .val (.int p1), .val (.int p2), .val (.int p3), .val (.int (2 : Int32)), .val (.int (1 : Int32)), .val (.int xc0), .val (.int xc1), .val (.int xc2), .val (.ref rc), .val (.ref sx), .val (.ref re), .val (.int (zp1 + (1 : Int32))), .val (.ref rn)] [(.int (zp1 + (1 : Int32))), (.ref re), (.ref rn)]))
        have f112 := (afe.keep KF110 nin0)
        obtain ⟨_, _, ⟨T113, L113, k113, n113⟩, -, X113, ⟨Lc113, hQ113, l113, y113, z113⟩, st113⟩ := Jvm.LawKit.callS X110 hx (y := (⟨"com/example/marshal/marshal/pipelines/LogLinesLinePinLaw", "same", "([B[BI)Z"⟩ : MethodName)) ho110 (mvT hZ110 (own_w hw 169 rfl)) (mvT hZ110 (own_w hw 170 rfl)) (mvT hZ110 (own_w hw 171 rfl)) (mvT hZ110 (own_w hw 172 rfl)) (by decide) (backOf (W := 0) (own_same l Z a0 hw [] rn re (zp1 + (1 : Int32)) ((([] ++ own_p1 xc0) ++ own_p1 xc1) ++ [10]) T110.heap n0 zz111 an110 f112 hzl) hZ110 (own_w hw 172 rfl) (own_w hw 171 rfl) (by decide) (by decide)) (g := (mkF m 201 #[.val (.int p0), .val (.int p1), .val (.int p2), .val (.int p3), .val (.int (2 : Int32)), .val (.int (1 : Int32)), .val (.int xc0), .val (.int xc1), .val (.int xc2), .val (.ref rc), .val (.ref sx), .val (.ref re), .val (.int (zp1 + (1 : Int32))), .val (.ref rn)] [(.int (zp1 + (1 : Int32))), (.ref re), (.ref rn)])) rfl (by rw [hml]; rfl) (argsL := [(.ref rn), (.ref re), (.int (zp1 + (1 : Int32)))]) (rest := []) (lenOf own_pd32 rfl) rfl (by show 2 * 0 + _ ≤ _; exact Nat.le_of_eq rfl) (hb hby at_201) (fun _ _ => ⟨rfl, rfl, (by decide : 16 + 0 ≤ _), (by decide : 143 + 0 ≤ _)⟩)
        dsimp only [Pt.U, Pt.locs, Pt.cells, Pt.slots] at X113 l113 y113 z113 st113 hQ113
        subst l113 y113 z113
        obtain ⟨rfl, N113q, hh113⟩ := hQ113
        have N113 := Fr.app N110 N113q
        refine own_Go.st (fun _ kt => st113 _ kt) ?_
        show own_Go p e below _ (T113.setTop (mkF m 204 #[.val (.int p0), .val (.int p1), .val (.int p2), .val (.int p3), .val (.int (2 : Int32)), .val (.int (1 : Int32)), .val (.int xc0), .val (.int xc1), .val (.int xc2), .val (.ref rc), .val (.ref sx), .val (.ref re), .val (.int (zp1 + (1 : Int32))), .val (.ref rn)] [(.int (1 : Int32))]))
        exact own_retWZ X113 hx Bd.notSynchronized Bd.returns hT110 (Nat.le_trans (Nat.le_of_eq (congrArg Array.size rfl)) (Nat.le_of_eq (congrArg Array.size hh113).symm)) (Or.inr rfl) (hb hby at_204) (by decide) (by decide) ⟨rfl, N113⟩
      · show own_Go p e below _ (T95.setTop (mkF m 107 #[.val (.int p0), .val (.int p1), .val (.int p2), .val (.int p3), .val (.int (2 : Int32)), .val (.int (0 : Int32)), .val (.int xc0), .val (.int xc1), .val (.int xc2), .val (.ref rc), .val (.ref sx), .val (.ref re), .val (.int (0 : Int32)), .unset] [(.int (0 : Int32))]))
        refine own_Go.st (fun _ kt => XS.ifNo X95.here hx rfl (hb hby at_107) rfl ((if0 _ _).trans (teq (by decide)).2) kt) ?_
        show own_Go p e below _ (T95.setTop (mkF m 110 #[.val (.int p0), .val (.int p1), .val (.int p2), .val (.int p3), .val (.int (2 : Int32)), .val (.int (0 : Int32)), .val (.int xc0), .val (.int xc1), .val (.int xc2), .val (.ref rc), .val (.ref sx), .val (.ref re), .val (.int (0 : Int32)), .unset] []))
        refine own_Go.st (fun _ kt => XS.aload X95.here hx rfl (hb hby at_110) rfl rfl kt) ?_
        show own_Go p e below _ (T95.setTop (mkF m 112 #[.val (.int p0), .val (.int p1), .val (.int p2), .val (.int p3), .val (.int (2 : Int32)), .val (.int (0 : Int32)), .val (.int xc0), .val (.int xc1), .val (.int xc2), .val (.ref rc), .val (.ref sx), .val (.ref re), .val (.int (0 : Int32)), .unset] [(.ref re)]))
        refine own_Go.st (fun _ kt => XS.iload X95.here hx rfl (hb hby at_112) rfl kt) ?_
        show own_Go p e below _ (T95.setTop (mkF m 114 #[.val (.int p0), .val (.int p1), .val (.int p2), .val (.int p3), .val (.int (2 : Int32)), .val (.int (0 : Int32)), .val (.int xc0), .val (.int xc1), .val (.int xc2), .val (.ref rc), .val (.ref sx), .val (.ref re), .val (.int (0 : Int32)), .unset] [(.int (0 : Int32)), (.ref re)]))
        refine own_Go.st (fun _ kt => XS.bipush X95.here hx rfl (hb hby at_114) kt) ?_
        show own_Go p e below _ (T95.setTop (mkF m 116 #[.val (.int p0), .val (.int p1), .val (.int p2), .val (.int p3), .val (.int (2 : Int32)), .val (.int (0 : Int32)), .val (.int xc0), .val (.int xc1), .val (.int xc2), .val (.ref rc), .val (.ref sx), .val (.ref re), .val (.int (0 : Int32)), .unset] [(.int (10 : Int32)), (.int (0 : Int32)), (.ref re)]))
        obtain ⟨T114, h114, X114, e114, W114, st114⟩ := own_bast X95 hx hZ e95 A95 (i := 0) (by decide) (by decide) own_nar10 (g := (mkF m 116 #[.val (.int p0), .val (.int p1), .val (.int p2), .val (.int p3), .val (.int (2 : Int32)), .val (.int (0 : Int32)), .val (.int xc0), .val (.int xc1), .val (.int xc2), .val (.ref rc), .val (.ref sx), .val (.ref re), .val (.int (0 : Int32)), .unset] [(.int (10 : Int32)), (.int (0 : Int32)), (.ref re)])) rfl rfl (hb hby at_116)
        refine own_Go.st st114 ?_
        have N114 := Fr.snoc X114 N93 n0_re
        have a114 := own_Ar.set A95 W114
        have zz115 : n0 ≤ Array.size h114 := Nat.le_trans zz96 (Nat.le_of_eq (Wr.size W114).symm)
        have kk115 : Keep h0 h114 [] := kk96.wr W114 (Or.inr b_re)
        have hk115 : Array.size h0 ≤ Array.size h114 := Nat.le_trans hk96 (Nat.le_of_eq (Wr.size W114).symm)
        show own_Go p e below _ (T114.setTop (mkF m 117 #[.val (.int p0), .val (.int p1), .val (.int p2), .val (.int p3), .val (.int (2 : Int32)), .val (.int (0 : Int32)), .val (.int xc0), .val (.int xc1), .val (.int xc2), .val (.ref rc), .val (.ref sx), .val (.ref re), .val (.int (0 : Int32)), .unset] []))
        have ae0 : own_Ar Z h114 re .byte 8 (own_by [10]) := a114.congr fun j _ => own_by_snoc10 [] j
        refine own_Go.st (fun _ kt => XS.iload X114.here hx rfl (hb hby at_117) rfl kt) ?_
        show own_Go p e below _ (T114.setTop (mkF m 119 #[.val (.int p0), .val (.int p1), .val (.int p2), .val (.int p3), .val (.int (2 : Int32)), .val (.int (0 : Int32)), .val (.int xc0), .val (.int xc1), .val (.int xc2), .val (.ref rc), .val (.ref sx), .val (.ref re), .val (.int (0 : Int32)), .unset] [(.int (0 : Int32))]))
        refine own_Go.st (fun _ kt => XS.iconst X114.here hx rfl (hb hby at_119) kt) ?_
        show own_Go p e below _ (T114.setTop (mkF m 120 #[.val (.int p0), .val (.int p1), .val (.int p2), .val (.int p3), .val (.int (2 : Int32)), .val (.int (0 : Int32)), .val (.int xc0), .val (.int xc1), .val (.int xc2), .val (.ref rc), .val (.ref sx), .val (.ref re), .val (.int (0 : Int32)), .unset] [(.int (1 : Int32)), (.int (0 : Int32))]))
        refine own_Go.st (fun _ kt => XS.iadd X114.here hx rfl (hb hby at_120) rfl kt) ?_
        show own_Go p e below _ (T114.setTop (mkF m 121 #[.val (.int p0), .val (.int p1), .val (.int p2), .val (.int p3), .val (.int (2 : Int32)), .val (.int (0 : Int32)), .val (.int xc0), .val (.int xc1), .val (.int xc2), .val (.ref rc), .val (.ref sx), .val (.ref re), .val (.int (0 : Int32)), .unset] [(.int ((0 : Int32) + (1 : Int32)))]))
        refine own_Go.st (fun _ kt => XS.istore X114.here hx rfl (hb hby at_121) rfl (l' := #[.val (.int p0), .val (.int p1), .val (.int p2), .val (.int p3), .val (.int (2 : Int32)), .val (.int (0 : Int32)), .val (.int xc0), .val (.int xc1), .val (.int xc2), .val (.ref rc), .val (.ref sx), .val (.ref re), .val (.int ((0 : Int32) + (1 : Int32))), .unset]) rfl kt) ?_
        show own_Go p e below _ (T114.setTop (mkF m 123 #[.val (.int p0), .val (.int p1), .val (.int p2), .val (.int p3), .val (.int (2 : Int32)), .val (.int (0 : Int32)), .val (.int xc0), .val (.int xc1), .val (.int xc2), .val (.ref rc), .val (.ref sx), .val (.ref re), .val (.int ((0 : Int32) + (1 : Int32))), .unset] []))
        rw [show ((0 : Int32) + (1 : Int32)) = (1 : Int32) from (by decide)]
        show own_Go p e below _ (T114.setTop (mkF m 123 #[.val (.int p0), .val (.int p1), .val (.int p2), .val (.int p3), .val (.int (2 : Int32)), .val (.int (0 : Int32)), .val (.int xc0), .val (.int xc1), .val (.int xc2), .val (.ref rc), .val (.ref sx), .val (.ref re), .val (.int (1 : Int32)), .unset] []))
        refine own_Go.st (fun _ kt => XS.iload X114.here hx rfl (hb hby at_123) rfl kt) ?_
        show own_Go p e below _ (T114.setTop (mkF m 125 #[.val (.int p0), .val (.int p1), .val (.int p2), .val (.int p3), .val (.int (2 : Int32)), .val (.int (0 : Int32)), .val (.int xc0), .val (.int xc1), .val (.int xc2), .val (.ref rc), .val (.ref sx), .val (.ref re), .val (.int (1 : Int32)), .unset] [(.int (2 : Int32))]))
        refine own_Go.st (fun _ kt => XS.ifNo X114.here hx rfl (hb hby at_125) rfl ((if0 _ _).trans (tlt (by decide)).2.2.2) kt) ?_
        show own_Go p e below _ (T114.setTop (mkF m 128 #[.val (.int p0), .val (.int p1), .val (.int p2), .val (.int p3), .val (.int (2 : Int32)), .val (.int (0 : Int32)), .val (.int xc0), .val (.int xc1), .val (.int xc2), .val (.ref rc), .val (.ref sx), .val (.ref re), .val (.int (1 : Int32)), .unset] []))
        refine own_Go.st (fun _ kt => XS.aload X114.here hx rfl (hb hby at_128) rfl rfl kt) ?_
        show own_Go p e below _ (T114.setTop (mkF m 130 #[.val (.int p0), .val (.int p1), .val (.int p2), .val (.int p3), .val (.int (2 : Int32)), .val (.int (0 : Int32)), .val (.int xc0), .val (.int xc1), .val (.int xc2), .val (.ref rc), .val (.ref sx), .val (.ref re), .val (.int (1 : Int32)), .unset] [(.ref re)]))
        refine own_Go.st (fun _ kt => XS.iload X114.here hx rfl (hb hby at_130) rfl kt) ?_
        show own_Go p e below _ (T114.setTop (mkF m 132 #[.val (.int p0), .val (.int p1), .val (.int p2), .val (.int p3), .val (.int (2 : Int32)), .val (.int (0 : Int32)), .val (.int xc0), .val (.int xc1), .val (.int xc2), .val (.ref rc), .val (.ref sx), .val (.ref re), .val (.int (1 : Int32)), .unset] [(.int (1 : Int32)), (.ref re)]))
        refine own_Go.st (fun _ kt => XS.iload X114.here hx rfl (hb hby at_132) rfl kt) ?_
        show own_Go p e below _ (T114.setTop (mkF m 134 #[.val (.int p0), .val (.int p1), .val (.int p2), .val (.int p3), .val (.int (2 : Int32)), .val (.int (0 : Int32)), .val (.int xc0), .val (.int xc1), .val (.int xc2), .val (.ref rc), .val (.ref sx), .val (.ref re), .val (.int (1 : Int32)), .unset] [(.int xc0), (.int (1 : Int32)), (.ref re)]))
        obtain ⟨_, _, ⟨T116, L116, k116, n116⟩, -, X116, ⟨Lc116, hQ116, l116, y116, z116⟩, st116⟩ := Jvm.LawKit.callS X114 hx (y := (⟨"com/example/marshal/marshal/pipelines/LogLinesLinePinLaw", "put", "([BIC)I"⟩ : MethodName)) hown (mvT hZ (own_w hw 186 rfl)) (mvT hZ (own_w hw 187 rfl)) (mvT hZ (own_w hw 171 rfl)) (mvT hZ (own_w hw 188 rfl)) (by decide) (backOf (W := 0) (own_put l Z a0 hw [] re (1 : Int32) xc0 [10] h114 n0 zz115 ae0 (show (1 : Int32).toInt = ((([10] : List Int8).length : Nat) : Int) by decide) (by first | omega | (simp only [List.length_append, List.length_cons, List.length_nil] <;> omega)) n0_re) hZ (own_w hw 188 rfl) (own_w hw 171 rfl) (by decide) (by decide)) (g := (mkF m 134 #[.val (.int p0), .val (.int p1), .val (.int p2), .val (.int p3), .val (.int (2 : Int32)), .val (.int (0 : Int32)), .val (.int xc0), .val (.int xc1), .val (.int xc2), .val (.ref rc), .val (.ref sx), .val (.ref re), .val (.int (1 : Int32)), .unset] [(.int xc0), (.int (1 : Int32)), (.ref re)])) rfl (by rw [hml]; rfl) (argsL := [(.ref re), (.int (1 : Int32)), (.int xc0)]) (rest := []) (lenOf own_pd33 rfl) rfl (by show 2 * 0 + _ ≤ _; exact Nat.le_of_eq rfl) (hb hby at_134) (fun _ _ => ⟨rfl, e114, (by decide : 4 + 0 ≤ _), (by decide : 23 + 0 ≤ _)⟩)
        dsimp only [Pt.U, Pt.locs, Pt.cells, Pt.slots] at X116 l116 y116 z116 st116 hQ116
        subst l116 y116 z116
        obtain ⟨zp0, rfl, N116q, ap116, lp116, KF116⟩ := hQ116
        have N116 := Fr.app N114 N116q
        refine own_Go.st (fun _ kt => st116 _ kt) ?_
        have zz117 : n0 ≤ Array.size T116.heap := Nat.le_trans zz115 KF116.1
        have kk117 : Keep h0 T116.heap [] := kk115.trans KF116 (allS (P := fun x => x ∈ [] ∨ _) (Or.inr b_re) all0)
        have hk117 : Array.size h0 ≤ Array.size T116.heap := Nat.le_trans hk115 KF116.1
        show own_Go p e below _ (T116.setTop (mkF m 137 #[.val (.int p0), .val (.int p1), .val (.int p2), .val (.int p3), .val (.int (2 : Int32)), .val (.int (0 : Int32)), .val (.int xc0), .val (.int xc1), .val (.int xc2), .val (.ref rc), .val (.ref sx), .val (.ref re), .val (.int (1 : Int32)), .unset] [(.int zp0)]))
        refine own_Go.st (fun _ kt => XS.istore X116.here hx rfl (hb hby at_137) rfl (l' := #[.val (.int p0), .val (.int p1), .val (.int p2), .val (.int p3), .val (.int (2 : Int32)), .val (.int (0 : Int32)), .val (.int xc0), .val (.int xc1), .val (.int xc2), .val (.ref rc), .val (.ref sx), .val (.ref re), .val (.int zp0), .unset]) rfl kt) ?_
        show own_Go p e below _ (T116.setTop (mkF m 139 #[.val (.int p0), .val (.int p1), .val (.int p2), .val (.int p3), .val (.int (2 : Int32)), .val (.int (0 : Int32)), .val (.int xc0), .val (.int xc1), .val (.int xc2), .val (.ref rc), .val (.ref sx), .val (.ref re), .val (.int zp0), .unset] []))
        refine own_Go.st (fun _ kt => XS.iload X116.here hx rfl (hb hby at_139) rfl kt) ?_
        show own_Go p e below _ (T116.setTop (mkF m 141 #[.val (.int p0), .val (.int p1), .val (.int p2), .val (.int p3), .val (.int (2 : Int32)), .val (.int (0 : Int32)), .val (.int xc0), .val (.int xc1), .val (.int xc2), .val (.ref rc), .val (.ref sx), .val (.ref re), .val (.int zp0), .unset] [(.int (2 : Int32))]))
        refine own_Go.st (fun _ kt => XS.iconst X116.here hx rfl (hb hby at_141) kt) ?_
        show own_Go p e below _ (T116.setTop (mkF m 142 #[.val (.int p0), .val (.int p1), .val (.int p2), .val (.int p3), .val (.int (2 : Int32)), .val (.int (0 : Int32)), .val (.int xc0), .val (.int xc1), .val (.int xc2), .val (.ref rc), .val (.ref sx), .val (.ref re), .val (.int zp0), .unset] [(.int (1 : Int32)), (.int (2 : Int32))]))
        refine own_Go.st (fun _ kt => XS.icmpNo X116.here hx rfl (hb hby at_142) rfl (tlt (by decide)).2.2.2 kt) ?_
        show own_Go p e below _ (T116.setTop (mkF m 145 #[.val (.int p0), .val (.int p1), .val (.int p2), .val (.int p3), .val (.int (2 : Int32)), .val (.int (0 : Int32)), .val (.int xc0), .val (.int xc1), .val (.int xc2), .val (.ref rc), .val (.ref sx), .val (.ref re), .val (.int zp0), .unset] []))
        refine own_Go.st (fun _ kt => XS.aload X116.here hx rfl (hb hby at_145) rfl rfl kt) ?_
        show own_Go p e below _ (T116.setTop (mkF m 147 #[.val (.int p0), .val (.int p1), .val (.int p2), .val (.int p3), .val (.int (2 : Int32)), .val (.int (0 : Int32)), .val (.int xc0), .val (.int xc1), .val (.int xc2), .val (.ref rc), .val (.ref sx), .val (.ref re), .val (.int zp0), .unset] [(.ref re)]))
        refine own_Go.st (fun _ kt => XS.iload X116.here hx rfl (hb hby at_147) rfl kt) ?_
        show own_Go p e below _ (T116.setTop (mkF m 149 #[.val (.int p0), .val (.int p1), .val (.int p2), .val (.int p3), .val (.int (2 : Int32)), .val (.int (0 : Int32)), .val (.int xc0), .val (.int xc1), .val (.int xc2), .val (.ref rc), .val (.ref sx), .val (.ref re), .val (.int zp0), .unset] [(.int zp0), (.ref re)]))
        refine own_Go.st (fun _ kt => XS.iload X116.here hx rfl (hb hby at_149) rfl kt) ?_
        show own_Go p e below _ (T116.setTop (mkF m 151 #[.val (.int p0), .val (.int p1), .val (.int p2), .val (.int p3), .val (.int (2 : Int32)), .val (.int (0 : Int32)), .val (.int xc0), .val (.int xc1), .val (.int xc2), .val (.ref rc), .val (.ref sx), .val (.ref re), .val (.int zp0), .unset] [(.int xc1), (.int zp0), (.ref re)]))
        obtain ⟨_, _, ⟨T118, L118, k118, n118⟩, -, X118, ⟨Lc118, hQ118, l118, y118, z118⟩, st118⟩ := Jvm.LawKit.callS X116 hx (y := (⟨"com/example/marshal/marshal/pipelines/LogLinesLinePinLaw", "put", "([BIC)I"⟩ : MethodName)) hown (mvT hZ (own_w hw 186 rfl)) (mvT hZ (own_w hw 187 rfl)) (mvT hZ (own_w hw 171 rfl)) (mvT hZ (own_w hw 188 rfl)) (by decide) (backOf (W := 0) (own_put l Z a0 hw [] re zp0 xc1 ([10] ++ own_p1 xc0) T116.heap n0 zz117 ap116 lp116 (by first | omega | (simp only [List.length_append, List.length_cons, List.length_nil] <;> omega)) n0_re) hZ (own_w hw 188 rfl) (own_w hw 171 rfl) (by decide) (by decide)) (g := (mkF m 151 #[.val (.int p0), .val (.int p1), .val (.int p2), .val (.int p3), .val (.int (2 : Int32)), .val (.int (0 : Int32)), .val (.int xc0), .val (.int xc1), .val (.int xc2), .val (.ref rc), .val (.ref sx), .val (.ref re), .val (.int zp0), .unset] [(.int xc1), (.int zp0), (.ref re)])) rfl (by rw [hml]; rfl) (argsL := [(.ref re), (.int zp0), (.int xc1)]) (rest := []) (lenOf own_pd33 rfl) rfl (by show 2 * 0 + _ ≤ _; exact Nat.le_of_eq rfl) (hb hby at_151) (fun _ _ => ⟨rfl, rfl, (by decide : 4 + 0 ≤ _), (by decide : 23 + 0 ≤ _)⟩)
        dsimp only [Pt.U, Pt.locs, Pt.cells, Pt.slots] at X118 l118 y118 z118 st118 hQ118
        subst l118 y118 z118
        obtain ⟨zp1, rfl, N118q, ap118, lp118, KF118⟩ := hQ118
        have N118 := Fr.app N116 N118q
        refine own_Go.st (fun _ kt => st118 _ kt) ?_
        have zz119 : n0 ≤ Array.size T118.heap := Nat.le_trans zz117 KF118.1
        have kk119 : Keep h0 T118.heap [] := kk117.trans KF118 (allS (P := fun x => x ∈ [] ∨ _) (Or.inr b_re) all0)
        have hk119 : Array.size h0 ≤ Array.size T118.heap := Nat.le_trans hk117 KF118.1
        show own_Go p e below _ (T118.setTop (mkF m 154 #[.val (.int p0), .val (.int p1), .val (.int p2), .val (.int p3), .val (.int (2 : Int32)), .val (.int (0 : Int32)), .val (.int xc0), .val (.int xc1), .val (.int xc2), .val (.ref rc), .val (.ref sx), .val (.ref re), .val (.int zp0), .unset] [(.int zp1)]))
        refine own_Go.st (fun _ kt => XS.istore X118.here hx rfl (hb hby at_154) rfl (l' := #[.val (.int p0), .val (.int p1), .val (.int p2), .val (.int p3), .val (.int (2 : Int32)), .val (.int (0 : Int32)), .val (.int xc0), .val (.int xc1), .val (.int xc2), .val (.ref rc), .val (.ref sx), .val (.ref re), .val (.int zp1), .unset]) rfl kt) ?_
        show own_Go p e below _ (T118.setTop (mkF m 156 #[.val (.int p0), .val (.int p1), .val (.int p2), .val (.int p3), .val (.int (2 : Int32)), .val (.int (0 : Int32)), .val (.int xc0), .val (.int xc1), .val (.int xc2), .val (.ref rc), .val (.ref sx), .val (.ref re), .val (.int zp1), .unset] []))
        refine own_Go.st (fun _ kt => XS.iload X118.here hx rfl (hb hby at_156) rfl kt) ?_
        show own_Go p e below _ (T118.setTop (mkF m 158 #[.val (.int p0), .val (.int p1), .val (.int p2), .val (.int p3), .val (.int (2 : Int32)), .val (.int (0 : Int32)), .val (.int xc0), .val (.int xc1), .val (.int xc2), .val (.ref rc), .val (.ref sx), .val (.ref re), .val (.int zp1), .unset] [(.int (2 : Int32))]))
        refine own_Go.st (fun _ kt => XS.iconst X118.here hx rfl (hb hby at_158) kt) ?_
        show own_Go p e below _ (T118.setTop (mkF m 159 #[.val (.int p0), .val (.int p1), .val (.int p2), .val (.int p3), .val (.int (2 : Int32)), .val (.int (0 : Int32)), .val (.int xc0), .val (.int xc1), .val (.int xc2), .val (.ref rc), .val (.ref sx), .val (.ref re), .val (.int zp1), .unset] [(.int (2 : Int32)), (.int (2 : Int32))]))
        refine own_Go.st (fun _ kt => XS.icmpYes X118.here hx rfl (pc0 := 159) (pc' := 173) rfl (hb hby at_159) rfl (flt (by decide)).2.2.2 (by decide) (by decide) kt) ?_
        show own_Go p e below _ (T118.setTop (mkF m 173 #[.val (.int p0), .val (.int p1), .val (.int p2), .val (.int p3), .val (.int (2 : Int32)), .val (.int (0 : Int32)), .val (.int xc0), .val (.int xc1), .val (.int xc2), .val (.ref rc), .val (.ref sx), .val (.ref re), .val (.int zp1), .unset] []))
        refine own_Go.st (fun _ kt => XS.aload X118.here hx rfl (hb hby at_173) rfl rfl kt) ?_
        show own_Go p e below _ (T118.setTop (mkF m 175 #[.val (.int p0), .val (.int p1), .val (.int p2), .val (.int p3), .val (.int (2 : Int32)), .val (.int (0 : Int32)), .val (.int xc0), .val (.int xc1), .val (.int xc2), .val (.ref rc), .val (.ref sx), .val (.ref re), .val (.int zp1), .unset] [(.ref re)]))
        refine own_Go.st (fun _ kt => XS.iload X118.here hx rfl (hb hby at_175) rfl kt) ?_
        show own_Go p e below _ (T118.setTop (mkF m 177 #[.val (.int p0), .val (.int p1), .val (.int p2), .val (.int p3), .val (.int (2 : Int32)), .val (.int (0 : Int32)), .val (.int xc0), .val (.int xc1), .val (.int xc2), .val (.ref rc), .val (.ref sx), .val (.ref re), .val (.int zp1), .unset] [(.int zp1), (.ref re)]))
        refine own_Go.st (fun _ kt => XS.bipush X118.here hx rfl (hb hby at_177) kt) ?_
        show own_Go p e below _ (T118.setTop (mkF m 179 #[.val (.int p0), .val (.int p1), .val (.int p2), .val (.int p3), .val (.int (2 : Int32)), .val (.int (0 : Int32)), .val (.int xc0), .val (.int xc1), .val (.int xc2), .val (.ref rc), .val (.ref sx), .val (.ref re), .val (.int zp1), .unset] [(.int (10 : Int32)), (.int zp1), (.ref re)]))
        obtain ⟨T120, h120, X120, e120, W120, st120⟩ := own_bast X118 hx hZ rfl ap118 lp118 (by first | omega | (simp only [List.length_append, List.length_cons, List.length_nil] <;> omega)) own_nar10 (g := (mkF m 179 #[.val (.int p0), .val (.int p1), .val (.int p2), .val (.int p3), .val (.int (2 : Int32)), .val (.int (0 : Int32)), .val (.int xc0), .val (.int xc1), .val (.int xc2), .val (.ref rc), .val (.ref sx), .val (.ref re), .val (.int zp1), .unset] [(.int (10 : Int32)), (.int zp1), (.ref re)])) rfl rfl (hb hby at_179)
        refine own_Go.st st120 ?_
        have N120 := Fr.snoc X120 N118 n0_re
        have a120 := own_Ar.set ap118 W120
        have zz121 : n0 ≤ Array.size h120 := Nat.le_trans zz119 (Nat.le_of_eq (Wr.size W120).symm)
        have kk121 : Keep h0 h120 [] := kk119.wr W120 (Or.inr b_re)
        have hk121 : Array.size h0 ≤ Array.size h120 := Nat.le_trans hk119 (Nat.le_of_eq (Wr.size W120).symm)
        show own_Go p e below _ (T120.setTop (mkF m 180 #[.val (.int p0), .val (.int p1), .val (.int p2), .val (.int p3), .val (.int (2 : Int32)), .val (.int (0 : Int32)), .val (.int xc0), .val (.int xc1), .val (.int xc2), .val (.ref rc), .val (.ref sx), .val (.ref re), .val (.int zp1), .unset] []))
        have afe : own_Ar Z h120 re .byte 8 (own_by ((([10] ++ own_p1 xc0) ++ own_p1 xc1) ++ [10])) := a120.congr fun j _ => own_by_snoc10 _ j
        have hzl : (zp1 + (1 : Int32)).toInt = ((((([10] ++ own_p1 xc0) ++ own_p1 xc1) ++ [10]).length : Nat) : Int) := by rw [List.length_append]; exact own_inc lp118 (by first | omega | (simp only [List.length_append, List.length_cons, List.length_nil] <;> omega))
        refine own_Go.st (fun _ kt => XS.iload X120.here hx rfl (hb hby at_180) rfl kt) ?_
        show own_Go p e below _ (T120.setTop (mkF m 182 #[.val (.int p0), .val (.int p1), .val (.int p2), .val (.int p3), .val (.int (2 : Int32)), .val (.int (0 : Int32)), .val (.int xc0), .val (.int xc1), .val (.int xc2), .val (.ref rc), .val (.ref sx), .val (.ref re), .val (.int zp1), .unset] [(.int zp1)]))
        refine own_Go.st (fun _ kt => XS.iconst X120.here hx rfl (hb hby at_182) kt) ?_
        show own_Go p e below _ (T120.setTop (mkF m 183 #[.val (.int p0), .val (.int p1), .val (.int p2), .val (.int p3), .val (.int (2 : Int32)), .val (.int (0 : Int32)), .val (.int xc0), .val (.int xc1), .val (.int xc2), .val (.ref rc), .val (.ref sx), .val (.ref re), .val (.int zp1), .unset] [(.int (1 : Int32)), (.int zp1)]))
        refine own_Go.st (fun _ kt => XS.iadd X120.here hx rfl (hb hby at_183) rfl kt) ?_
        show own_Go p e below _ (T120.setTop (mkF m 184 #[.val (.int p0), .val (.int p1), .val (.int p2), .val (.int p3), .val (.int (2 : Int32)), .val (.int (0 : Int32)), .val (.int xc0), .val (.int xc1), .val (.int xc2), .val (.ref rc), .val (.ref sx), .val (.ref re), .val (.int zp1), .unset] [(.int (zp1 + (1 : Int32)))]))
        refine own_Go.st (fun _ kt => XS.istore X120.here hx rfl (hb hby at_184) rfl (l' := #[.val (.int p0), .val (.int p1), .val (.int p2), .val (.int p3), .val (.int (2 : Int32)), .val (.int (0 : Int32)), .val (.int xc0), .val (.int xc1), .val (.int xc2), .val (.ref rc), .val (.ref sx), .val (.ref re), .val (.int (zp1 + (1 : Int32))), .unset]) rfl kt) ?_
        show own_Go p e below _ (T120.setTop (mkF m 186 #[.val (.int p0), .val (.int p1), .val (.int p2), .val (.int p3), .val (.int (2 : Int32)), .val (.int (0 : Int32)), .val (.int xc0), .val (.int xc1), .val (.int xc2), .val (.ref rc), .val (.ref sx), .val (.ref re), .val (.int (zp1 + (1 : Int32))), .unset] []))
        refine own_Go.st (fun _ kt => XS.aload X120.here hx rfl (hb hby at_186) rfl rfl kt) ?_
        show own_Go p e below _ (T120.setTop (mkF m 188 #[.val (.int p0), .val (.int p1), .val (.int p2), .val (.int p3), .val (.int (2 : Int32)), .val (.int (0 : Int32)), .val (.int xc0), .val (.int xc1), .val (.int xc2), .val (.ref rc), .val (.ref sx), .val (.ref re), .val (.int (zp1 + (1 : Int32))), .unset] [(.ref sx)]))
        refine own_Go.st (fun _ kt => XS.iload X120.here hx rfl (hb hby at_188) rfl kt) ?_
        show own_Go p e below _ (T120.setTop (mkF m 190 #[.val (.int p0), .val (.int p1), .val (.int p2), .val (.int p3), .val (.int (2 : Int32)), .val (.int (0 : Int32)), .val (.int xc0), .val (.int xc1), .val (.int xc2), .val (.ref rc), .val (.ref sx), .val (.ref re), .val (.int (zp1 + (1 : Int32))), .unset] [(.int (0 : Int32)), (.ref sx)]))
        have f122 := (((((fsl.1.ext E95).wr W114).keep KF116).keep KF118).wr W120)
        have f123 := (((((fsl.2.1.ext E95).other W114 (Or.inl ne_sx_re)).keep KF116 (ninS ne_sx_re nin0)).keep KF118 (ninS ne_sx_re nin0)).other W120 (Or.inl ne_sx_re))
        have f124 := (((((fsl.2.2.1.ext E95).other W114 (Or.inl ne_sx_re)).keep KF116 (ninS ne_sx_re nin0)).keep KF118 (ninS ne_sx_re nin0)).other W120 (Or.inl ne_sx_re))
        have f125 := (((((fsl.2.2.2.ext E95).other W114 ne_rb_re).keep KF116 (ninS ne_rb_re nin0)).keep KF118 (ninS ne_rb_re nin0)).other W120 ne_rb_re)
        have f126 := ((own_stakeep (own_stakeep (((own_stakeep f92 KF93 (own_nst A89)).ext E95).wr W114) KF116 (own_nstA ae0)) KF118 (own_nstA ap116)).wr W120)
        have f127 := ((own_stakeep (own_stakeep (((own_stakeep ((((sU.ext E83).wr W85).wr W87).ext E89) KF93 (own_nst A89)).ext E95).wr W114) KF116 (own_nstA ae0)) KF118 (own_nstA ap116)).wr W120)
        have f128 := ((own_stakeep (own_stakeep (((own_stakeep ((((sI.ext E83).wr W85).wr W87).ext E89) KF93 (own_nst A89)).ext E95).wr W114) KF116 (own_nstA ae0)) KF118 (own_nstA ap116)).wr W120)
        obtain ⟨_, _, ⟨T129, L129, k129, n129⟩, -, X129, hS129, hgr129, ⟨Lc129, hQ129, l129, y129, z129, ib129⟩, st129⟩ := callSS X120 hx (y := (⟨"com/example/marshal/marshal/pipelines/LogLines", "line", "(Ljava/lang/String;Z)[B"⟩ : MethodName)) hown (mvT hZ (own_w hw 22 rfl)) (mvT hZ (own_w hw 23 rfl)) (mvT hZ (own_w hw 24 rfl)) (mvT hZ (own_w hw 25 rfl)) (by decide) (own_backSI (W := 0) (own_line l Z a0 hw [] sx rb (0 : Int32) [10] [xc0.toInt8, xc1.toInt8] ru zc [] h120 (Array.size h120) (Nat.le_refl _) ⟨f122, f123, f124, f125⟩ (Nat.le_of_ble_eq_true rfl) (Or.inr ⟨rfl, rfl⟩) f126 hzc f127 f128 (fun b cl q => (kk121).2.1 b cl (hkp b cl q) List.not_mem_nil) heldN hcw (by decide) rfl) hZ (own_w hw 25 rfl) (own_w hw 24 rfl) (by decide) (by decide) hIB) (g := (mkF m 190 #[.val (.int p0), .val (.int p1), .val (.int p2), .val (.int p3), .val (.int (2 : Int32)), .val (.int (0 : Int32)), .val (.int xc0), .val (.int xc1), .val (.int xc2), .val (.ref rc), .val (.ref sx), .val (.ref re), .val (.int (zp1 + (1 : Int32))), .unset] [(.int (0 : Int32)), (.ref sx)])) rfl (by rw [hml]; rfl) (argsL := [(.ref sx), (.int (0 : Int32))]) (rest := []) (lenOf own_pd31 rfl) rfl (by show 2 * 0 + _ ≤ _; exact Nat.le_of_eq rfl) (hb hby at_190) (fun _ _ => ⟨rfl, e120, (by decide : 4 + 12 ≤ _), (by decide : 23 + 120 ≤ _)⟩)
        dsimp only [Pt.U, Pt.locs, Pt.cells, Pt.slots] at X129 l129 y129 z129 st129 hQ129 hS129 hgr129 ib129
        subst l129 y129 z129
        obtain ⟨rn, rfl, N129q, an129, KF129⟩ := hQ129
        have N129 := Fr.app N120 (fun y hy => Nat.le_trans zz121 (N129q y hy))
        refine own_Go.st (fun _ kt => st129.trans kt) ?_
        have hZ129 : Z.Warmed39 (s.setVm T129.vm).vm := State.Warmed39.trans (t := s.setVm s.vm) hZ hS129.1
        have ho129 : (s.setVm T129.vm).vm.findClass "com/example/marshal/marshal/pipelines/LogLinesLinePinLaw" = some m.cls := by rw [show (s.setVm T129.vm).vm = T129.vm from rfl, hS129.1.alike.findClass]; exact hown
        have hT129 : s.Since T129.vm (Array.size T129.heap) := State.Since.trans hS0 hS129 (Nat.le_trans hk121 (Nat.le_trans (Nat.le_of_eq (congrArg Array.size e120).symm) hgr129))
        have zz130 : n0 ≤ Array.size T129.heap := Nat.le_trans zz121 KF129.1
        have kk130 : Keep h0 T129.heap [] := kk121.trans KF129 all0
        show own_Go p e below _ (T129.setTop (mkF m 193 #[.val (.int p0), .val (.int p1), .val (.int p2), .val (.int p3), .val (.int (2 : Int32)), .val (.int (0 : Int32)), .val (.int xc0), .val (.int xc1), .val (.int xc2), .val (.ref rc), .val (.ref sx), .val (.ref re), .val (.int (zp1 + (1 : Int32))), .unset] [(.ref rn)]))
        have hee : own_enc ([10] ++ [xc0.toInt8, xc1.toInt8] ++ [10]) = ((([10] ++ own_p1 xc0) ++ own_p1 xc1) ++ [10]) := by simp only [List.cons_append, List.nil_append, List.append_nil, List.append_assoc, own_enc_cons, own_enc_nil, own_e1_ten, own_e1p1 hC0, own_e1p1 hC1, own_e1p1 hC2]
        rw [hee] at an129
        refine own_Go.st (fun _ kt => XS.astore X129.here hx rfl (hb hby at_193) rfl rfl (l' := #[.val (.int p0), .val (.int p1), .val (.int p2), .val (.int p3), .val (.int (2 : Int32)), .val (.int (0 : Int32)), .val (.int xc0), .val (.int xc1), .val (.int xc2), .val (.ref rc), .val (.ref sx), .val (.ref re), .val (.int (zp1 + (1 : Int32))), .val (.ref rn)]) rfl kt) ?_
        show own_Go p e below _ (T129.setTop (mkF m 195 #[.val (.int p0), .val (.int p1), .val (.int p2), .val (.int p3), .val (.int (2 : Int32)), .val (.int (0 : Int32)), .val (.int xc0), .val (.int xc1), .val (.int xc2), .val (.ref rc), .val (.ref sx), .val (.ref re), .val (.int (zp1 + (1 : Int32))), .val (.ref rn)] []))
        refine own_Go.st (fun _ kt => XS.aload X129.here hx rfl (hb hby at_195) rfl rfl kt) ?_
        show own_Go p e below _ (T129.setTop (mkF m 197 #[.val (.int p0), .val (.int p1), .val (.int p2), .val (.int p3), .val (.int (2 : Int32)), .val (.int (0 : Int32)), .val (.int xc0), .val (.int xc1), .val (.int xc2), .val (.ref rc), .val (.ref sx), .val (.ref re), .val (.int (zp1 + (1 : Int32))), .val (.ref rn)] [(.ref rn)]))
        refine own_Go.st (fun _ kt => XS.aload X129.here hx rfl (hb hby at_197) rfl rfl kt) ?_
        show own_Go p e below _ (T129.setTop (mkF m 199 #[.val (.int p0), .val (.int p1), .val (.int p2), .val (.int p3), .val (.int (2 : Int32)), .val (.int (0 : Int32)), .val (.int xc0), .val (.int xc1), .val (.int xc2), .val (.ref rc), .val (.ref sx), .val (.ref re), .val (.int (zp1 + (1 : Int32))), .val (.ref rn)] [(.ref re), (.ref rn)]))
        refine own_Go.st (fun _ kt => XS.iload X129.here hx rfl (hb hby at_199) rfl kt) ?_
        show own_Go p e below _ (T129.setTop (mkF m 201 #[.val (.int p0), .val (.int p1), .val (.int p2), .val (.int p3), .val (.int (2 : Int32)), .val (.int (0 : Int32)), .val (.int xc0), .val (.int xc1), .val (.int xc2), .val (.ref rc), .val (.ref sx), .val (.ref re), .val (.int (zp1 + (1 : Int32))), .val (.ref rn)] [(.int (zp1 + (1 : Int32))), (.ref re), (.ref rn)]))
        have f131 := (afe.keep KF129 nin0)
        obtain ⟨_, _, ⟨T132, L132, k132, n132⟩, -, X132, ⟨Lc132, hQ132, l132, y132, z132⟩, st132⟩ := Jvm.LawKit.callS X129 hx (y := (⟨"com/example/marshal/marshal/pipelines/LogLinesLinePinLaw", "same", "([B[BI)Z"⟩ : MethodName)) ho129 (mvT hZ129 (own_w hw 169 rfl)) (mvT hZ129 (own_w hw 170 rfl)) (mvT hZ129 (own_w hw 171 rfl)) (mvT hZ129 (own_w hw 172 rfl)) (by decide) (backOf (W := 0) (own_same l Z a0 hw [] rn re (zp1 + (1 : Int32)) ((([10] ++ own_p1 xc0) ++ own_p1 xc1) ++ [10]) T129.heap n0 zz130 an129 f131 hzl) hZ129 (own_w hw 172 rfl) (own_w hw 171 rfl) (by decide) (by decide)) (g := (mkF m 201 #[.val (.int p0), .val (.int p1), .val (.int p2), .val (.int p3), .val (.int (2 : Int32)), .val (.int (0 : Int32)), .val (.int xc0), .val (.int xc1), .val (.int xc2), .val (.ref rc), .val (.ref sx), .val (.ref re), .val (.int (zp1 + (1 : Int32))), .val (.ref rn)] [(.int (zp1 + (1 : Int32))), (.ref re), (.ref rn)])) rfl (by rw [hml]; rfl) (argsL := [(.ref rn), (.ref re), (.int (zp1 + (1 : Int32)))]) (rest := []) (lenOf own_pd32 rfl) rfl (by show 2 * 0 + _ ≤ _; exact Nat.le_of_eq rfl) (hb hby at_201) (fun _ _ => ⟨rfl, rfl, (by decide : 16 + 0 ≤ _), (by decide : 143 + 0 ≤ _)⟩)
        dsimp only [Pt.U, Pt.locs, Pt.cells, Pt.slots] at X132 l132 y132 z132 st132 hQ132
        subst l132 y132 z132
        obtain ⟨rfl, N132q, hh132⟩ := hQ132
        have N132 := Fr.app N129 N132q
        refine own_Go.st (fun _ kt => st132 _ kt) ?_
        show own_Go p e below _ (T132.setTop (mkF m 204 #[.val (.int p0), .val (.int p1), .val (.int p2), .val (.int p3), .val (.int (2 : Int32)), .val (.int (0 : Int32)), .val (.int xc0), .val (.int xc1), .val (.int xc2), .val (.ref rc), .val (.ref sx), .val (.ref re), .val (.int (zp1 + (1 : Int32))), .val (.ref rn)] [(.int (1 : Int32))]))
        exact own_retWZ X132 hx Bd.notSynchronized Bd.returns hT129 (Nat.le_trans (Nat.le_of_eq (congrArg Array.size rfl)) (Nat.le_of_eq (congrArg Array.size hh132).symm)) (Or.inr rfl) (hb hby at_204) (by decide) (by decide) ⟨rfl, N132⟩
    · rw [show (p0 &&& (3 : Int32)) = (3 : Int32) from hm]
      show own_Go p e below _ (T1.setTop (mkF m 46 #[.val (.int p0), .val (.int p1), .val (.int p2), .val (.int p3), .val (.int (3 : Int32)), .val (.int xs), .val (.int xc0), .val (.int xc1), .val (.int xc2), .unset, .unset, .unset, .unset, .unset] [(.int (3 : Int32))]))
      obtain ⟨T133, h133, k133, X133, e133, E133, A133, st133⟩ := newP X1 hx hZ (own_w hw 0 rfl) e1 (g := (mkF m 46 #[.val (.int p0), .val (.int p1), .val (.int p2), .val (.int p3), .val (.int (3 : Int32)), .val (.int xs), .val (.int xc0), .val (.int xc1), .val (.int xc2), .unset, .unset, .unset, .unset, .unset] [(.int (3 : Int32))])) rfl (hb hby at_46) rfl (by decide) (cap := 3) (by decide) (by decide) (by decide) (by decide)
      obtain ⟨rc, g133⟩ : ∃ z, z = Array.size h0 := ⟨_, rfl⟩
      rw [← g133] at A133 st133
      refine own_Go.st st133 ?_
      have n0_rc : n0 ≤ rc := Nat.le_trans Z0 (Nat.le_of_eq g133.symm)
      have b_rc : Array.size h0 ≤ rc := Nat.le_trans kk0.1 (Nat.le_of_eq g133.symm)
      have zz134 : n0 ≤ Array.size h133 := Nat.le_trans Z0 E133.1
      have kk134 : Keep h0 h133 [] := kk0.ext E133
      have hk134 : Array.size h0 ≤ Array.size h133 := Nat.le_trans (Nat.le_refl _) E133.1
      show own_Go p e below _ (T133.setTop (mkF m 48 #[.val (.int p0), .val (.int p1), .val (.int p2), .val (.int p3), .val (.int (3 : Int32)), .val (.int xs), .val (.int xc0), .val (.int xc1), .val (.int xc2), .unset, .unset, .unset, .unset, .unset] [(.ref rc)]))
      have ac0 := own_Ar.new A133 (n := 3) (by decide)
      refine own_Go.st (fun _ kt => XS.astore X133.here hx rfl (hb hby at_48) rfl rfl (l' := #[.val (.int p0), .val (.int p1), .val (.int p2), .val (.int p3), .val (.int (3 : Int32)), .val (.int xs), .val (.int xc0), .val (.int xc1), .val (.int xc2), .val (.ref rc), .unset, .unset, .unset, .unset]) rfl kt) ?_
      show own_Go p e below _ (T133.setTop (mkF m 50 #[.val (.int p0), .val (.int p1), .val (.int p2), .val (.int p3), .val (.int (3 : Int32)), .val (.int xs), .val (.int xc0), .val (.int xc1), .val (.int xc2), .val (.ref rc), .unset, .unset, .unset, .unset] []))
      refine own_Go.st (fun _ kt => XS.iload X133.here hx rfl (hb hby at_50) rfl kt) ?_
      show own_Go p e below _ (T133.setTop (mkF m 52 #[.val (.int p0), .val (.int p1), .val (.int p2), .val (.int p3), .val (.int (3 : Int32)), .val (.int xs), .val (.int xc0), .val (.int xc1), .val (.int xc2), .val (.ref rc), .unset, .unset, .unset, .unset] [(.int (3 : Int32))]))
      refine own_Go.st (fun _ kt => XS.ifNo X133.here hx rfl (hb hby at_52) rfl ((if0 _ _).trans (tlt (by decide)).2.2.2) kt) ?_
      show own_Go p e below _ (T133.setTop (mkF m 55 #[.val (.int p0), .val (.int p1), .val (.int p2), .val (.int p3), .val (.int (3 : Int32)), .val (.int xs), .val (.int xc0), .val (.int xc1), .val (.int xc2), .val (.ref rc), .unset, .unset, .unset, .unset] []))
      refine own_Go.st (fun _ kt => XS.aload X133.here hx rfl (hb hby at_55) rfl rfl kt) ?_
      show own_Go p e below _ (T133.setTop (mkF m 57 #[.val (.int p0), .val (.int p1), .val (.int p2), .val (.int p3), .val (.int (3 : Int32)), .val (.int xs), .val (.int xc0), .val (.int xc1), .val (.int xc2), .val (.ref rc), .unset, .unset, .unset, .unset] [(.ref rc)]))
      refine own_Go.st (fun _ kt => XS.iconst X133.here hx rfl (hb hby at_57) kt) ?_
      show own_Go p e below _ (T133.setTop (mkF m 58 #[.val (.int p0), .val (.int p1), .val (.int p2), .val (.int p3), .val (.int (3 : Int32)), .val (.int xs), .val (.int xc0), .val (.int xc1), .val (.int xc2), .val (.ref rc), .unset, .unset, .unset, .unset] [(.int (0 : Int32)), (.ref rc)]))
      refine own_Go.st (fun _ kt => XS.iload X133.here hx rfl (hb hby at_58) rfl kt) ?_
      show own_Go p e below _ (T133.setTop (mkF m 60 #[.val (.int p0), .val (.int p1), .val (.int p2), .val (.int p3), .val (.int (3 : Int32)), .val (.int xs), .val (.int xc0), .val (.int xc1), .val (.int xc2), .val (.ref rc), .unset, .unset, .unset, .unset] [(.int xc0), (.int (0 : Int32)), (.ref rc)]))
      obtain ⟨T135, h135, X135, e135, W135, st135⟩ := own_cast X133 hx hZ e133 ac0 (i := 0) (by decide) (by decide) (own_nar_char hC0) (g := (mkF m 60 #[.val (.int p0), .val (.int p1), .val (.int p2), .val (.int p3), .val (.int (3 : Int32)), .val (.int xs), .val (.int xc0), .val (.int xc1), .val (.int xc2), .val (.ref rc), .unset, .unset, .unset, .unset] [(.int xc0), (.int (0 : Int32)), (.ref rc)])) rfl rfl (hb hby at_60)
      refine own_Go.st st135 ?_
      have N135 := Fr.snoc X135 N1 n0_rc
      have a135 := own_Ar.set ac0 W135
      have zz136 : n0 ≤ Array.size h135 := Nat.le_trans zz134 (Nat.le_of_eq (Wr.size W135).symm)
      have kk136 : Keep h0 h135 [] := kk134.wr W135 (Or.inr b_rc)
      have hk136 : Array.size h0 ≤ Array.size h135 := Nat.le_trans hk134 (Nat.le_of_eq (Wr.size W135).symm)
      show own_Go p e below _ (T135.setTop (mkF m 61 #[.val (.int p0), .val (.int p1), .val (.int p2), .val (.int p3), .val (.int (3 : Int32)), .val (.int xs), .val (.int xc0), .val (.int xc1), .val (.int xc2), .val (.ref rc), .unset, .unset, .unset, .unset] []))
      refine own_Go.st (fun _ kt => XS.iload X135.here hx rfl (hb hby at_61) rfl kt) ?_
      show own_Go p e below _ (T135.setTop (mkF m 63 #[.val (.int p0), .val (.int p1), .val (.int p2), .val (.int p3), .val (.int (3 : Int32)), .val (.int xs), .val (.int xc0), .val (.int xc1), .val (.int xc2), .val (.ref rc), .unset, .unset, .unset, .unset] [(.int (3 : Int32))]))
      refine own_Go.st (fun _ kt => XS.iconst X135.here hx rfl (hb hby at_63) kt) ?_
      show own_Go p e below _ (T135.setTop (mkF m 64 #[.val (.int p0), .val (.int p1), .val (.int p2), .val (.int p3), .val (.int (3 : Int32)), .val (.int xs), .val (.int xc0), .val (.int xc1), .val (.int xc2), .val (.ref rc), .unset, .unset, .unset, .unset] [(.int (1 : Int32)), (.int (3 : Int32))]))
      refine own_Go.st (fun _ kt => XS.icmpNo X135.here hx rfl (hb hby at_64) rfl (tlt (by decide)).2.2.2 kt) ?_
      show own_Go p e below _ (T135.setTop (mkF m 67 #[.val (.int p0), .val (.int p1), .val (.int p2), .val (.int p3), .val (.int (3 : Int32)), .val (.int xs), .val (.int xc0), .val (.int xc1), .val (.int xc2), .val (.ref rc), .unset, .unset, .unset, .unset] []))
      refine own_Go.st (fun _ kt => XS.aload X135.here hx rfl (hb hby at_67) rfl rfl kt) ?_
      show own_Go p e below _ (T135.setTop (mkF m 69 #[.val (.int p0), .val (.int p1), .val (.int p2), .val (.int p3), .val (.int (3 : Int32)), .val (.int xs), .val (.int xc0), .val (.int xc1), .val (.int xc2), .val (.ref rc), .unset, .unset, .unset, .unset] [(.ref rc)]))
      refine own_Go.st (fun _ kt => XS.iconst X135.here hx rfl (hb hby at_69) kt) ?_
      show own_Go p e below _ (T135.setTop (mkF m 70 #[.val (.int p0), .val (.int p1), .val (.int p2), .val (.int p3), .val (.int (3 : Int32)), .val (.int xs), .val (.int xc0), .val (.int xc1), .val (.int xc2), .val (.ref rc), .unset, .unset, .unset, .unset] [(.int (1 : Int32)), (.ref rc)]))
      refine own_Go.st (fun _ kt => XS.iload X135.here hx rfl (hb hby at_70) rfl kt) ?_
      show own_Go p e below _ (T135.setTop (mkF m 72 #[.val (.int p0), .val (.int p1), .val (.int p2), .val (.int p3), .val (.int (3 : Int32)), .val (.int xs), .val (.int xc0), .val (.int xc1), .val (.int xc2), .val (.ref rc), .unset, .unset, .unset, .unset] [(.int xc1), (.int (1 : Int32)), (.ref rc)]))
      obtain ⟨T137, h137, X137, e137, W137, st137⟩ := own_cast X135 hx hZ e135 a135 (i := 1) (by decide) (by decide) (own_nar_char hC1) (g := (mkF m 72 #[.val (.int p0), .val (.int p1), .val (.int p2), .val (.int p3), .val (.int (3 : Int32)), .val (.int xs), .val (.int xc0), .val (.int xc1), .val (.int xc2), .val (.ref rc), .unset, .unset, .unset, .unset] [(.int xc1), (.int (1 : Int32)), (.ref rc)])) rfl rfl (hb hby at_72)
      refine own_Go.st st137 ?_
      have N137 := Fr.snoc X137 N135 n0_rc
      have a137 := own_Ar.set a135 W137
      have zz138 : n0 ≤ Array.size h137 := Nat.le_trans zz136 (Nat.le_of_eq (Wr.size W137).symm)
      have kk138 : Keep h0 h137 [] := kk136.wr W137 (Or.inr b_rc)
      have hk138 : Array.size h0 ≤ Array.size h137 := Nat.le_trans hk136 (Nat.le_of_eq (Wr.size W137).symm)
      show own_Go p e below _ (T137.setTop (mkF m 73 #[.val (.int p0), .val (.int p1), .val (.int p2), .val (.int p3), .val (.int (3 : Int32)), .val (.int xs), .val (.int xc0), .val (.int xc1), .val (.int xc2), .val (.ref rc), .unset, .unset, .unset, .unset] []))
      refine own_Go.st (fun _ kt => XS.iload X137.here hx rfl (hb hby at_73) rfl kt) ?_
      show own_Go p e below _ (T137.setTop (mkF m 75 #[.val (.int p0), .val (.int p1), .val (.int p2), .val (.int p3), .val (.int (3 : Int32)), .val (.int xs), .val (.int xc0), .val (.int xc1), .val (.int xc2), .val (.ref rc), .unset, .unset, .unset, .unset] [(.int (3 : Int32))]))
      refine own_Go.st (fun _ kt => XS.iconst X137.here hx rfl (hb hby at_75) kt) ?_
      show own_Go p e below _ (T137.setTop (mkF m 76 #[.val (.int p0), .val (.int p1), .val (.int p2), .val (.int p3), .val (.int (3 : Int32)), .val (.int xs), .val (.int xc0), .val (.int xc1), .val (.int xc2), .val (.ref rc), .unset, .unset, .unset, .unset] [(.int (2 : Int32)), (.int (3 : Int32))]))
      refine own_Go.st (fun _ kt => XS.icmpNo X137.here hx rfl (hb hby at_76) rfl (tlt (by decide)).2.2.2 kt) ?_
      show own_Go p e below _ (T137.setTop (mkF m 79 #[.val (.int p0), .val (.int p1), .val (.int p2), .val (.int p3), .val (.int (3 : Int32)), .val (.int xs), .val (.int xc0), .val (.int xc1), .val (.int xc2), .val (.ref rc), .unset, .unset, .unset, .unset] []))
      refine own_Go.st (fun _ kt => XS.aload X137.here hx rfl (hb hby at_79) rfl rfl kt) ?_
      show own_Go p e below _ (T137.setTop (mkF m 81 #[.val (.int p0), .val (.int p1), .val (.int p2), .val (.int p3), .val (.int (3 : Int32)), .val (.int xs), .val (.int xc0), .val (.int xc1), .val (.int xc2), .val (.ref rc), .unset, .unset, .unset, .unset] [(.ref rc)]))
      refine own_Go.st (fun _ kt => XS.iconst X137.here hx rfl (hb hby at_81) kt) ?_
      show own_Go p e below _ (T137.setTop (mkF m 82 #[.val (.int p0), .val (.int p1), .val (.int p2), .val (.int p3), .val (.int (3 : Int32)), .val (.int xs), .val (.int xc0), .val (.int xc1), .val (.int xc2), .val (.ref rc), .unset, .unset, .unset, .unset] [(.int (2 : Int32)), (.ref rc)]))
      refine own_Go.st (fun _ kt => XS.iload X137.here hx rfl (hb hby at_82) rfl kt) ?_
      show own_Go p e below _ (T137.setTop (mkF m 84 #[.val (.int p0), .val (.int p1), .val (.int p2), .val (.int p3), .val (.int (3 : Int32)), .val (.int xs), .val (.int xc0), .val (.int xc1), .val (.int xc2), .val (.ref rc), .unset, .unset, .unset, .unset] [(.int xc2), (.int (2 : Int32)), (.ref rc)]))
      obtain ⟨T139, h139, X139, e139, W139, st139⟩ := own_cast X137 hx hZ e137 a137 (i := 2) (by decide) (by decide) (own_nar_char hC2) (g := (mkF m 84 #[.val (.int p0), .val (.int p1), .val (.int p2), .val (.int p3), .val (.int (3 : Int32)), .val (.int xs), .val (.int xc0), .val (.int xc1), .val (.int xc2), .val (.ref rc), .unset, .unset, .unset, .unset] [(.int xc2), (.int (2 : Int32)), (.ref rc)])) rfl rfl (hb hby at_84)
      refine own_Go.st st139 ?_
      have N139 := Fr.snoc X139 N137 n0_rc
      have a139 := own_Ar.set a137 W139
      have zz140 : n0 ≤ Array.size h139 := Nat.le_trans zz138 (Nat.le_of_eq (Wr.size W139).symm)
      have kk140 : Keep h0 h139 [] := kk138.wr W139 (Or.inr b_rc)
      have hk140 : Array.size h0 ≤ Array.size h139 := Nat.le_trans hk138 (Nat.le_of_eq (Wr.size W139).symm)
      show own_Go p e below _ (T139.setTop (mkF m 85 #[.val (.int p0), .val (.int p1), .val (.int p2), .val (.int p3), .val (.int (3 : Int32)), .val (.int xs), .val (.int xc0), .val (.int xc1), .val (.int xc2), .val (.ref rc), .unset, .unset, .unset, .unset] []))
      have ac1 : own_Ar Z h139 rc .char 3 (fun j => .int (([xc0, xc1, xc2] : List Int32).getD j 0)) := a139.congr fun j hj => by
        have : j = 0 ∨ j = 1 ∨ j = 2 := by omega
        rcases this with rfl | rfl | rfl <;> rfl
      obtain ⟨T141, h141, X141, e141, E141, A141, D141, U141, st141⟩ := newO X139 hx hZ hown (own_w hw 1 rfl) (own_w hw 2 rfl) (own_w hw 3 rfl) e139 (g := (mkF m 85 #[.val (.int p0), .val (.int p1), .val (.int p2), .val (.int p3), .val (.int (3 : Int32)), .val (.int xs), .val (.int xc0), .val (.int xc1), .val (.int xc2), .val (.ref rc), .unset, .unset, .unset, .unset] [])) rfl (hb hby at_85) (by decide) (by decide)
      obtain ⟨sx, g141⟩ : ∃ z, z = Array.size h139 := ⟨_, rfl⟩
      rw [← g141] at A141 D141 U141 st141
      refine own_Go.st st141 ?_
      have ne_rc_sx : rc ≠ sx := Nat.ne_of_lt (Nat.lt_of_lt_of_le (ac1).lt (Nat.le_of_eq g141.symm))
      have n0_sx : n0 ≤ sx := Nat.le_trans zz140 (Nat.le_of_eq g141.symm)
      have b_sx : Array.size h0 ≤ sx := Nat.le_trans kk140.1 (Nat.le_of_eq g141.symm)
      have zz142 : n0 ≤ Array.size h141 := Nat.le_trans zz140 E141.1
      have kk142 : Keep h0 h141 [] := kk140.ext E141
      have hk142 : Array.size h0 ≤ Array.size h141 := Nat.le_trans hk140 E141.1
      have D141_value : Fld Z h141 sx "java/lang/String" "value" "[B" .null := D141 (Or.inr (own_w hw 16 rfl)) (ty := (.array .byte)) (by decide)
      have D141_coder : Fld Z h141 sx "java/lang/String" "coder" "B" (.int 0) := D141 (Or.inr (own_w hw 17 rfl)) (ty := .byte) (by decide)
      show own_Go p e below _ (T141.setTop (mkF m 88 #[.val (.int p0), .val (.int p1), .val (.int p2), .val (.int p3), .val (.int (3 : Int32)), .val (.int xs), .val (.int xc0), .val (.int xc1), .val (.int xc2), .val (.ref rc), .unset, .unset, .unset, .unset] [(.ref sx)]))
      refine own_Go.st (fun _ kt => XS.dup X141.here hx rfl (hb hby at_88) rfl rfl kt) ?_
      show own_Go p e below _ (T141.setTop (mkF m 89 #[.val (.int p0), .val (.int p1), .val (.int p2), .val (.int p3), .val (.int (3 : Int32)), .val (.int xs), .val (.int xc0), .val (.int xc1), .val (.int xc2), .val (.ref rc), .unset, .unset, .unset, .unset] [(.ref sx), (.ref sx)]))
      refine own_Go.st (fun _ kt => XS.aload X141.here hx rfl (hb hby at_89) rfl rfl kt) ?_
      show own_Go p e below _ (T141.setTop (mkF m 91 #[.val (.int p0), .val (.int p1), .val (.int p2), .val (.int p3), .val (.int (3 : Int32)), .val (.int xs), .val (.int xc0), .val (.int xc1), .val (.int xc2), .val (.ref rc), .unset, .unset, .unset, .unset] [(.ref rc), (.ref sx), (.ref sx)]))
      have f143 := (ac1.ext E141)
      have f144 := (((((cs.ext E133).wr W135).wr W137).wr W139).ext E141)
      obtain ⟨_, _, ⟨T145, L145, k145, n145⟩, -, X145, ⟨Lc145, hQ145, l145, y145, z145⟩, st145⟩ := X141.specialBack hx (y := (⟨"java/lang/String", "<init>", "([C)V"⟩ : MethodName)) rfl hown (mvT hZ (own_w hw 4 rfl)) (mvT hZ (own_w hw 5 rfl)) (mvT hZ (own_w hw 6 rfl)) (by decide) (backOf (W := 1) (own_s1 l Z a0 hw [] sx rc (3 : Int32) 3 (fun j => ([xc0, xc1, xc2] : List Int32).getD j 0) zc h141 n0 zz142 A141 D141_value D141_coder n0_sx f143 (by decide) (by decide) (by decide) (fun j hj => by
        have : j = 0 ∨ j = 1 ∨ j = 2 := by omega
        rcases this with rfl | rfl | rfl <;> first | exact hC0 | exact hC1 | exact hC2) f144 hzc) hZ (own_w hw 6 rfl) (own_w hw 3 rfl) (by decide) (by decide)) (g := (mkF m 91 #[.val (.int p0), .val (.int p1), .val (.int p2), .val (.int p3), .val (.int (3 : Int32)), .val (.int xs), .val (.int xc0), .val (.int xc1), .val (.int xc2), .val (.ref rc), .unset, .unset, .unset, .unset] [(.ref rc), (.ref sx), (.ref sx)])) rfl (by rw [hml]; rfl) (Steps.refl _) (a := sx) (argsL := [(.ref rc)]) (rest := [(.ref sx)]) (lenOf own_pd30 rfl) rfl (by show 2 * 0 + _ ≤ _; exact Nat.le_of_eq rfl) (hb hby at_91) (fun _ _ => ⟨rfl, e141, (by decide : 2 + 1 ≤ _), (by decide : 7 + 8 ≤ _)⟩)
      dsimp only [Pt.U, Pt.locs, Pt.cells, Pt.slots] at X145 l145 y145 z145 st145 hQ145
      subst l145 y145 z145
      obtain ⟨rb, rfl, N145q, st_145, bb145, KF145⟩ := hQ145
      have N145 := Fr.app N139 N145q
      refine own_Go.st (fun _ kt => st145.trans kt) ?_
      have zz146 : n0 ≤ Array.size T145.heap := Nat.le_trans zz142 KF145.1
      have kk146 : Keep h0 T145.heap [] := kk142.trans KF145 (allS (P := fun x => x ∈ [] ∨ _) (Or.inr b_sx) all0)
      have hk146 : Array.size h0 ≤ Array.size T145.heap := Nat.le_trans hk142 KF145.1
      show own_Go p e below _ (T145.setTop (mkF m 94 #[.val (.int p0), .val (.int p1), .val (.int p2), .val (.int p3), .val (.int (3 : Int32)), .val (.int xs), .val (.int xc0), .val (.int xc1), .val (.int xc2), .val (.ref rc), .unset, .unset, .unset, .unset] [(.ref sx)]))
      have fsl : own_Sl Z T145.heap sx rb [xc0.toInt8, xc1.toInt8, xc2.toInt8] := own_Str.sl st_145 rfl fun j hj => by
        have : j = 0 ∨ j = 1 ∨ j = 2 := by omega
        rcases this with rfl | rfl | rfl <;> rfl
      refine own_Go.st (fun _ kt => XS.astore X145.here hx rfl (hb hby at_94) rfl rfl (l' := #[.val (.int p0), .val (.int p1), .val (.int p2), .val (.int p3), .val (.int (3 : Int32)), .val (.int xs), .val (.int xc0), .val (.int xc1), .val (.int xc2), .val (.ref rc), .val (.ref sx), .unset, .unset, .unset]) rfl kt) ?_
      show own_Go p e below _ (T145.setTop (mkF m 96 #[.val (.int p0), .val (.int p1), .val (.int p2), .val (.int p3), .val (.int (3 : Int32)), .val (.int xs), .val (.int xc0), .val (.int xc1), .val (.int xc2), .val (.ref rc), .val (.ref sx), .unset, .unset, .unset] []))
      refine own_Go.st (fun _ kt => XS.bipush X145.here hx rfl (hb hby at_96) kt) ?_
      show own_Go p e below _ (T145.setTop (mkF m 98 #[.val (.int p0), .val (.int p1), .val (.int p2), .val (.int p3), .val (.int (3 : Int32)), .val (.int xs), .val (.int xc0), .val (.int xc1), .val (.int xc2), .val (.ref rc), .val (.ref sx), .unset, .unset, .unset] [(.int (8 : Int32))]))
      obtain ⟨T147, h147, X147, e147, E147, A147, B147, st147⟩ := own_newB X145 hx hZ (own_w hw 15 rfl) rfl (g := (mkF m 98 #[.val (.int p0), .val (.int p1), .val (.int p2), .val (.int p3), .val (.int (3 : Int32)), .val (.int xs), .val (.int xc0), .val (.int xc1), .val (.int xc2), .val (.ref rc), .val (.ref sx), .unset, .unset, .unset] [(.int (8 : Int32))])) rfl (hb hby at_98) rfl (n := 8) (by decide) (cap := 8) (by decide) (by decide) (by decide) (by decide)
      obtain ⟨re, g147⟩ : ∃ z, z = Array.size T145.heap := ⟨_, rfl⟩
      rw [← g147] at A147 B147 st147
      refine own_Go.st st147 ?_
      have ne_sx_re : sx ≠ re := Nat.ne_of_lt (Nat.lt_of_lt_of_le (fsl.1).lt (Nat.le_of_eq g147.symm))
      have ne_rb_re : rb ≠ re := Nat.ne_of_lt (Nat.lt_of_lt_of_le (fsl.2.2.2).lt (Nat.le_of_eq g147.symm))
      have n0_re : n0 ≤ re := Nat.le_trans zz146 (Nat.le_of_eq g147.symm)
      have b_re : Array.size h0 ≤ re := Nat.le_trans kk146.1 (Nat.le_of_eq g147.symm)
      have zz148 : n0 ≤ Array.size h147 := Nat.le_trans zz146 E147.1
      have kk148 : Keep h0 h147 [] := kk146.ext E147
      have hk148 : Array.size h0 ≤ Array.size h147 := Nat.le_trans hk146 E147.1
      show own_Go p e below _ (T147.setTop (mkF m 100 #[.val (.int p0), .val (.int p1), .val (.int p2), .val (.int p3), .val (.int (3 : Int32)), .val (.int xs), .val (.int xc0), .val (.int xc1), .val (.int xc2), .val (.ref rc), .val (.ref sx), .unset, .unset, .unset] [(.ref re)]))
      refine own_Go.st (fun _ kt => XS.astore X147.here hx rfl (hb hby at_100) rfl rfl (l' := #[.val (.int p0), .val (.int p1), .val (.int p2), .val (.int p3), .val (.int (3 : Int32)), .val (.int xs), .val (.int xc0), .val (.int xc1), .val (.int xc2), .val (.ref rc), .val (.ref sx), .val (.ref re), .unset, .unset]) rfl kt) ?_
      show own_Go p e below _ (T147.setTop (mkF m 102 #[.val (.int p0), .val (.int p1), .val (.int p2), .val (.int p3), .val (.int (3 : Int32)), .val (.int xs), .val (.int xc0), .val (.int xc1), .val (.int xc2), .val (.ref rc), .val (.ref sx), .val (.ref re), .unset, .unset] []))
      refine own_Go.st (fun _ kt => XS.iconst X147.here hx rfl (hb hby at_102) kt) ?_
      show own_Go p e below _ (T147.setTop (mkF m 103 #[.val (.int p0), .val (.int p1), .val (.int p2), .val (.int p3), .val (.int (3 : Int32)), .val (.int xs), .val (.int xc0), .val (.int xc1), .val (.int xc2), .val (.ref rc), .val (.ref sx), .val (.ref re), .unset, .unset] [(.int (0 : Int32))]))
      refine own_Go.st (fun _ kt => XS.istore X147.here hx rfl (hb hby at_103) rfl (l' := #[.val (.int p0), .val (.int p1), .val (.int p2), .val (.int p3), .val (.int (3 : Int32)), .val (.int xs), .val (.int xc0), .val (.int xc1), .val (.int xc2), .val (.ref rc), .val (.ref sx), .val (.ref re), .val (.int (0 : Int32)), .unset]) rfl kt) ?_
      show own_Go p e below _ (T147.setTop (mkF m 105 #[.val (.int p0), .val (.int p1), .val (.int p2), .val (.int p3), .val (.int (3 : Int32)), .val (.int xs), .val (.int xc0), .val (.int xc1), .val (.int xc2), .val (.ref rc), .val (.ref sx), .val (.ref re), .val (.int (0 : Int32)), .unset] []))
      refine own_Go.st (fun _ kt => XS.iload X147.here hx rfl (hb hby at_105) rfl kt) ?_
      show own_Go p e below _ (T147.setTop (mkF m 107 #[.val (.int p0), .val (.int p1), .val (.int p2), .val (.int p3), .val (.int (3 : Int32)), .val (.int xs), .val (.int xc0), .val (.int xc1), .val (.int xc2), .val (.ref rc), .val (.ref sx), .val (.ref re), .val (.int (0 : Int32)), .unset] [(.int xs)]))
      rcases hxs with rfl | rfl
      · show own_Go p e below _ (T147.setTop (mkF m 107 #[.val (.int p0), .val (.int p1), .val (.int p2), .val (.int p3), .val (.int (3 : Int32)), .val (.int (1 : Int32)), .val (.int xc0), .val (.int xc1), .val (.int xc2), .val (.ref rc), .val (.ref sx), .val (.ref re), .val (.int (0 : Int32)), .unset] [(.int (1 : Int32))]))
        refine own_Go.st (fun _ kt => XS.ifYes X147.here hx rfl (pc0 := 107) (pc' := 123) rfl (hb hby at_107) rfl ((if0 _ _).trans (feq (by decide)).2) (by decide) (by decide) kt) ?_
        show own_Go p e below _ (T147.setTop (mkF m 123 #[.val (.int p0), .val (.int p1), .val (.int p2), .val (.int p3), .val (.int (3 : Int32)), .val (.int (1 : Int32)), .val (.int xc0), .val (.int xc1), .val (.int xc2), .val (.ref rc), .val (.ref sx), .val (.ref re), .val (.int (0 : Int32)), .unset] []))
        refine own_Go.st (fun _ kt => XS.iload X147.here hx rfl (hb hby at_123) rfl kt) ?_
        show own_Go p e below _ (T147.setTop (mkF m 125 #[.val (.int p0), .val (.int p1), .val (.int p2), .val (.int p3), .val (.int (3 : Int32)), .val (.int (1 : Int32)), .val (.int xc0), .val (.int xc1), .val (.int xc2), .val (.ref rc), .val (.ref sx), .val (.ref re), .val (.int (0 : Int32)), .unset] [(.int (3 : Int32))]))
        refine own_Go.st (fun _ kt => XS.ifNo X147.here hx rfl (hb hby at_125) rfl ((if0 _ _).trans (tlt (by decide)).2.2.2) kt) ?_
        show own_Go p e below _ (T147.setTop (mkF m 128 #[.val (.int p0), .val (.int p1), .val (.int p2), .val (.int p3), .val (.int (3 : Int32)), .val (.int (1 : Int32)), .val (.int xc0), .val (.int xc1), .val (.int xc2), .val (.ref rc), .val (.ref sx), .val (.ref re), .val (.int (0 : Int32)), .unset] []))
        refine own_Go.st (fun _ kt => XS.aload X147.here hx rfl (hb hby at_128) rfl rfl kt) ?_
        show own_Go p e below _ (T147.setTop (mkF m 130 #[.val (.int p0), .val (.int p1), .val (.int p2), .val (.int p3), .val (.int (3 : Int32)), .val (.int (1 : Int32)), .val (.int xc0), .val (.int xc1), .val (.int xc2), .val (.ref rc), .val (.ref sx), .val (.ref re), .val (.int (0 : Int32)), .unset] [(.ref re)]))
        refine own_Go.st (fun _ kt => XS.iload X147.here hx rfl (hb hby at_130) rfl kt) ?_
        show own_Go p e below _ (T147.setTop (mkF m 132 #[.val (.int p0), .val (.int p1), .val (.int p2), .val (.int p3), .val (.int (3 : Int32)), .val (.int (1 : Int32)), .val (.int xc0), .val (.int xc1), .val (.int xc2), .val (.ref rc), .val (.ref sx), .val (.ref re), .val (.int (0 : Int32)), .unset] [(.int (0 : Int32)), (.ref re)]))
        refine own_Go.st (fun _ kt => XS.iload X147.here hx rfl (hb hby at_132) rfl kt) ?_
        show own_Go p e below _ (T147.setTop (mkF m 134 #[.val (.int p0), .val (.int p1), .val (.int p2), .val (.int p3), .val (.int (3 : Int32)), .val (.int (1 : Int32)), .val (.int xc0), .val (.int xc1), .val (.int xc2), .val (.ref rc), .val (.ref sx), .val (.ref re), .val (.int (0 : Int32)), .unset] [(.int xc0), (.int (0 : Int32)), (.ref re)]))
        obtain ⟨_, _, ⟨T149, L149, k149, n149⟩, -, X149, ⟨Lc149, hQ149, l149, y149, z149⟩, st149⟩ := Jvm.LawKit.callS X147 hx (y := (⟨"com/example/marshal/marshal/pipelines/LogLinesLinePinLaw", "put", "([BIC)I"⟩ : MethodName)) hown (mvT hZ (own_w hw 186 rfl)) (mvT hZ (own_w hw 187 rfl)) (mvT hZ (own_w hw 171 rfl)) (mvT hZ (own_w hw 188 rfl)) (by decide) (backOf (W := 0) (own_put l Z a0 hw [] re (0 : Int32) xc0 [] h147 n0 zz148 A147 (show (0 : Int32).toInt = ((([] : List Int8).length : Nat) : Int) by decide) (by first | omega | (simp only [List.length_append, List.length_cons, List.length_nil] <;> omega)) n0_re) hZ (own_w hw 188 rfl) (own_w hw 171 rfl) (by decide) (by decide)) (g := (mkF m 134 #[.val (.int p0), .val (.int p1), .val (.int p2), .val (.int p3), .val (.int (3 : Int32)), .val (.int (1 : Int32)), .val (.int xc0), .val (.int xc1), .val (.int xc2), .val (.ref rc), .val (.ref sx), .val (.ref re), .val (.int (0 : Int32)), .unset] [(.int xc0), (.int (0 : Int32)), (.ref re)])) rfl (by rw [hml]; rfl) (argsL := [(.ref re), (.int (0 : Int32)), (.int xc0)]) (rest := []) (lenOf own_pd33 rfl) rfl (by show 2 * 0 + _ ≤ _; exact Nat.le_of_eq rfl) (hb hby at_134) (fun _ _ => ⟨rfl, e147, (by decide : 4 + 0 ≤ _), (by decide : 23 + 0 ≤ _)⟩)
        dsimp only [Pt.U, Pt.locs, Pt.cells, Pt.slots] at X149 l149 y149 z149 st149 hQ149
        subst l149 y149 z149
        obtain ⟨zp0, rfl, N149q, ap149, lp149, KF149⟩ := hQ149
        have N149 := Fr.app N145 N149q
        refine own_Go.st (fun _ kt => st149 _ kt) ?_
        have zz150 : n0 ≤ Array.size T149.heap := Nat.le_trans zz148 KF149.1
        have kk150 : Keep h0 T149.heap [] := kk148.trans KF149 (allS (P := fun x => x ∈ [] ∨ _) (Or.inr b_re) all0)
        have hk150 : Array.size h0 ≤ Array.size T149.heap := Nat.le_trans hk148 KF149.1
        show own_Go p e below _ (T149.setTop (mkF m 137 #[.val (.int p0), .val (.int p1), .val (.int p2), .val (.int p3), .val (.int (3 : Int32)), .val (.int (1 : Int32)), .val (.int xc0), .val (.int xc1), .val (.int xc2), .val (.ref rc), .val (.ref sx), .val (.ref re), .val (.int (0 : Int32)), .unset] [(.int zp0)]))
        refine own_Go.st (fun _ kt => XS.istore X149.here hx rfl (hb hby at_137) rfl (l' := #[.val (.int p0), .val (.int p1), .val (.int p2), .val (.int p3), .val (.int (3 : Int32)), .val (.int (1 : Int32)), .val (.int xc0), .val (.int xc1), .val (.int xc2), .val (.ref rc), .val (.ref sx), .val (.ref re), .val (.int zp0), .unset]) rfl kt) ?_
        show own_Go p e below _ (T149.setTop (mkF m 139 #[.val (.int p0), .val (.int p1), .val (.int p2), .val (.int p3), .val (.int (3 : Int32)), .val (.int (1 : Int32)), .val (.int xc0), .val (.int xc1), .val (.int xc2), .val (.ref rc), .val (.ref sx), .val (.ref re), .val (.int zp0), .unset] []))
        refine own_Go.st (fun _ kt => XS.iload X149.here hx rfl (hb hby at_139) rfl kt) ?_
        show own_Go p e below _ (T149.setTop (mkF m 141 #[.val (.int p0), .val (.int p1), .val (.int p2), .val (.int p3), .val (.int (3 : Int32)), .val (.int (1 : Int32)), .val (.int xc0), .val (.int xc1), .val (.int xc2), .val (.ref rc), .val (.ref sx), .val (.ref re), .val (.int zp0), .unset] [(.int (3 : Int32))]))
        refine own_Go.st (fun _ kt => XS.iconst X149.here hx rfl (hb hby at_141) kt) ?_
        show own_Go p e below _ (T149.setTop (mkF m 142 #[.val (.int p0), .val (.int p1), .val (.int p2), .val (.int p3), .val (.int (3 : Int32)), .val (.int (1 : Int32)), .val (.int xc0), .val (.int xc1), .val (.int xc2), .val (.ref rc), .val (.ref sx), .val (.ref re), .val (.int zp0), .unset] [(.int (1 : Int32)), (.int (3 : Int32))]))
        refine own_Go.st (fun _ kt => XS.icmpNo X149.here hx rfl (hb hby at_142) rfl (tlt (by decide)).2.2.2 kt) ?_
        show own_Go p e below _ (T149.setTop (mkF m 145 #[.val (.int p0), .val (.int p1), .val (.int p2), .val (.int p3), .val (.int (3 : Int32)), .val (.int (1 : Int32)), .val (.int xc0), .val (.int xc1), .val (.int xc2), .val (.ref rc), .val (.ref sx), .val (.ref re), .val (.int zp0), .unset] []))
        refine own_Go.st (fun _ kt => XS.aload X149.here hx rfl (hb hby at_145) rfl rfl kt) ?_
        show own_Go p e below _ (T149.setTop (mkF m 147 #[.val (.int p0), .val (.int p1), .val (.int p2), .val (.int p3), .val (.int (3 : Int32)), .val (.int (1 : Int32)), .val (.int xc0), .val (.int xc1), .val (.int xc2), .val (.ref rc), .val (.ref sx), .val (.ref re), .val (.int zp0), .unset] [(.ref re)]))
        refine own_Go.st (fun _ kt => XS.iload X149.here hx rfl (hb hby at_147) rfl kt) ?_
        show own_Go p e below _ (T149.setTop (mkF m 149 #[.val (.int p0), .val (.int p1), .val (.int p2), .val (.int p3), .val (.int (3 : Int32)), .val (.int (1 : Int32)), .val (.int xc0), .val (.int xc1), .val (.int xc2), .val (.ref rc), .val (.ref sx), .val (.ref re), .val (.int zp0), .unset] [(.int zp0), (.ref re)]))
        refine own_Go.st (fun _ kt => XS.iload X149.here hx rfl (hb hby at_149) rfl kt) ?_
        show own_Go p e below _ (T149.setTop (mkF m 151 #[.val (.int p0), .val (.int p1), .val (.int p2), .val (.int p3), .val (.int (3 : Int32)), .val (.int (1 : Int32)), .val (.int xc0), .val (.int xc1), .val (.int xc2), .val (.ref rc), .val (.ref sx), .val (.ref re), .val (.int zp0), .unset] [(.int xc1), (.int zp0), (.ref re)]))
        obtain ⟨_, _, ⟨T151, L151, k151, n151⟩, -, X151, ⟨Lc151, hQ151, l151, y151, z151⟩, st151⟩ := Jvm.LawKit.callS X149 hx (y := (⟨"com/example/marshal/marshal/pipelines/LogLinesLinePinLaw", "put", "([BIC)I"⟩ : MethodName)) hown (mvT hZ (own_w hw 186 rfl)) (mvT hZ (own_w hw 187 rfl)) (mvT hZ (own_w hw 171 rfl)) (mvT hZ (own_w hw 188 rfl)) (by decide) (backOf (W := 0) (own_put l Z a0 hw [] re zp0 xc1 ([] ++ own_p1 xc0) T149.heap n0 zz150 ap149 lp149 (by first | omega | (simp only [List.length_append, List.length_cons, List.length_nil] <;> omega)) n0_re) hZ (own_w hw 188 rfl) (own_w hw 171 rfl) (by decide) (by decide)) (g := (mkF m 151 #[.val (.int p0), .val (.int p1), .val (.int p2), .val (.int p3), .val (.int (3 : Int32)), .val (.int (1 : Int32)), .val (.int xc0), .val (.int xc1), .val (.int xc2), .val (.ref rc), .val (.ref sx), .val (.ref re), .val (.int zp0), .unset] [(.int xc1), (.int zp0), (.ref re)])) rfl (by rw [hml]; rfl) (argsL := [(.ref re), (.int zp0), (.int xc1)]) (rest := []) (lenOf own_pd33 rfl) rfl (by show 2 * 0 + _ ≤ _; exact Nat.le_of_eq rfl) (hb hby at_151) (fun _ _ => ⟨rfl, rfl, (by decide : 4 + 0 ≤ _), (by decide : 23 + 0 ≤ _)⟩)
        dsimp only [Pt.U, Pt.locs, Pt.cells, Pt.slots] at X151 l151 y151 z151 st151 hQ151
        subst l151 y151 z151
        obtain ⟨zp1, rfl, N151q, ap151, lp151, KF151⟩ := hQ151
        have N151 := Fr.app N149 N151q
        refine own_Go.st (fun _ kt => st151 _ kt) ?_
        have zz152 : n0 ≤ Array.size T151.heap := Nat.le_trans zz150 KF151.1
        have kk152 : Keep h0 T151.heap [] := kk150.trans KF151 (allS (P := fun x => x ∈ [] ∨ _) (Or.inr b_re) all0)
        have hk152 : Array.size h0 ≤ Array.size T151.heap := Nat.le_trans hk150 KF151.1
        show own_Go p e below _ (T151.setTop (mkF m 154 #[.val (.int p0), .val (.int p1), .val (.int p2), .val (.int p3), .val (.int (3 : Int32)), .val (.int (1 : Int32)), .val (.int xc0), .val (.int xc1), .val (.int xc2), .val (.ref rc), .val (.ref sx), .val (.ref re), .val (.int zp0), .unset] [(.int zp1)]))
        refine own_Go.st (fun _ kt => XS.istore X151.here hx rfl (hb hby at_154) rfl (l' := #[.val (.int p0), .val (.int p1), .val (.int p2), .val (.int p3), .val (.int (3 : Int32)), .val (.int (1 : Int32)), .val (.int xc0), .val (.int xc1), .val (.int xc2), .val (.ref rc), .val (.ref sx), .val (.ref re), .val (.int zp1), .unset]) rfl kt) ?_
        show own_Go p e below _ (T151.setTop (mkF m 156 #[.val (.int p0), .val (.int p1), .val (.int p2), .val (.int p3), .val (.int (3 : Int32)), .val (.int (1 : Int32)), .val (.int xc0), .val (.int xc1), .val (.int xc2), .val (.ref rc), .val (.ref sx), .val (.ref re), .val (.int zp1), .unset] []))
        refine own_Go.st (fun _ kt => XS.iload X151.here hx rfl (hb hby at_156) rfl kt) ?_
        show own_Go p e below _ (T151.setTop (mkF m 158 #[.val (.int p0), .val (.int p1), .val (.int p2), .val (.int p3), .val (.int (3 : Int32)), .val (.int (1 : Int32)), .val (.int xc0), .val (.int xc1), .val (.int xc2), .val (.ref rc), .val (.ref sx), .val (.ref re), .val (.int zp1), .unset] [(.int (3 : Int32))]))
        refine own_Go.st (fun _ kt => XS.iconst X151.here hx rfl (hb hby at_158) kt) ?_
        show own_Go p e below _ (T151.setTop (mkF m 159 #[.val (.int p0), .val (.int p1), .val (.int p2), .val (.int p3), .val (.int (3 : Int32)), .val (.int (1 : Int32)), .val (.int xc0), .val (.int xc1), .val (.int xc2), .val (.ref rc), .val (.ref sx), .val (.ref re), .val (.int zp1), .unset] [(.int (2 : Int32)), (.int (3 : Int32))]))
        refine own_Go.st (fun _ kt => XS.icmpNo X151.here hx rfl (hb hby at_159) rfl (tlt (by decide)).2.2.2 kt) ?_
        show own_Go p e below _ (T151.setTop (mkF m 162 #[.val (.int p0), .val (.int p1), .val (.int p2), .val (.int p3), .val (.int (3 : Int32)), .val (.int (1 : Int32)), .val (.int xc0), .val (.int xc1), .val (.int xc2), .val (.ref rc), .val (.ref sx), .val (.ref re), .val (.int zp1), .unset] []))
        refine own_Go.st (fun _ kt => XS.aload X151.here hx rfl (hb hby at_162) rfl rfl kt) ?_
        show own_Go p e below _ (T151.setTop (mkF m 164 #[.val (.int p0), .val (.int p1), .val (.int p2), .val (.int p3), .val (.int (3 : Int32)), .val (.int (1 : Int32)), .val (.int xc0), .val (.int xc1), .val (.int xc2), .val (.ref rc), .val (.ref sx), .val (.ref re), .val (.int zp1), .unset] [(.ref re)]))
        refine own_Go.st (fun _ kt => XS.iload X151.here hx rfl (hb hby at_164) rfl kt) ?_
        show own_Go p e below _ (T151.setTop (mkF m 166 #[.val (.int p0), .val (.int p1), .val (.int p2), .val (.int p3), .val (.int (3 : Int32)), .val (.int (1 : Int32)), .val (.int xc0), .val (.int xc1), .val (.int xc2), .val (.ref rc), .val (.ref sx), .val (.ref re), .val (.int zp1), .unset] [(.int zp1), (.ref re)]))
        refine own_Go.st (fun _ kt => XS.iload X151.here hx rfl (hb hby at_166) rfl kt) ?_
        show own_Go p e below _ (T151.setTop (mkF m 168 #[.val (.int p0), .val (.int p1), .val (.int p2), .val (.int p3), .val (.int (3 : Int32)), .val (.int (1 : Int32)), .val (.int xc0), .val (.int xc1), .val (.int xc2), .val (.ref rc), .val (.ref sx), .val (.ref re), .val (.int zp1), .unset] [(.int xc2), (.int zp1), (.ref re)]))
        obtain ⟨_, _, ⟨T153, L153, k153, n153⟩, -, X153, ⟨Lc153, hQ153, l153, y153, z153⟩, st153⟩ := Jvm.LawKit.callS X151 hx (y := (⟨"com/example/marshal/marshal/pipelines/LogLinesLinePinLaw", "put", "([BIC)I"⟩ : MethodName)) hown (mvT hZ (own_w hw 186 rfl)) (mvT hZ (own_w hw 187 rfl)) (mvT hZ (own_w hw 171 rfl)) (mvT hZ (own_w hw 188 rfl)) (by decide) (backOf (W := 0) (own_put l Z a0 hw [] re zp1 xc2 (([] ++ own_p1 xc0) ++ own_p1 xc1) T151.heap n0 zz152 ap151 lp151 (by first | omega | (simp only [List.length_append, List.length_cons, List.length_nil] <;> omega)) n0_re) hZ (own_w hw 188 rfl) (own_w hw 171 rfl) (by decide) (by decide)) (g := (mkF m 168 #[.val (.int p0), .val (.int p1), .val (.int p2), .val (.int p3), .val (.int (3 : Int32)), .val (.int (1 : Int32)), .val (.int xc0), .val (.int xc1), .val (.int xc2), .val (.ref rc), .val (.ref sx), .val (.ref re), .val (.int zp1), .unset] [(.int xc2), (.int zp1), (.ref re)])) rfl (by rw [hml]; rfl) (argsL := [(.ref re), (.int zp1), (.int xc2)]) (rest := []) (lenOf own_pd33 rfl) rfl (by show 2 * 0 + _ ≤ _; exact Nat.le_of_eq rfl) (hb hby at_168) (fun _ _ => ⟨rfl, rfl, (by decide : 4 + 0 ≤ _), (by decide : 23 + 0 ≤ _)⟩)
        dsimp only [Pt.U, Pt.locs, Pt.cells, Pt.slots] at X153 l153 y153 z153 st153 hQ153
        subst l153 y153 z153
        obtain ⟨zp2, rfl, N153q, ap153, lp153, KF153⟩ := hQ153
        have N153 := Fr.app N151 N153q
        refine own_Go.st (fun _ kt => st153 _ kt) ?_
        have zz154 : n0 ≤ Array.size T153.heap := Nat.le_trans zz152 KF153.1
        have kk154 : Keep h0 T153.heap [] := kk152.trans KF153 (allS (P := fun x => x ∈ [] ∨ _) (Or.inr b_re) all0)
        have hk154 : Array.size h0 ≤ Array.size T153.heap := Nat.le_trans hk152 KF153.1
        show own_Go p e below _ (T153.setTop (mkF m 171 #[.val (.int p0), .val (.int p1), .val (.int p2), .val (.int p3), .val (.int (3 : Int32)), .val (.int (1 : Int32)), .val (.int xc0), .val (.int xc1), .val (.int xc2), .val (.ref rc), .val (.ref sx), .val (.ref re), .val (.int zp1), .unset] [(.int zp2)]))
        refine own_Go.st (fun _ kt => XS.istore X153.here hx rfl (hb hby at_171) rfl (l' := #[.val (.int p0), .val (.int p1), .val (.int p2), .val (.int p3), .val (.int (3 : Int32)), .val (.int (1 : Int32)), .val (.int xc0), .val (.int xc1), .val (.int xc2), .val (.ref rc), .val (.ref sx), .val (.ref re), .val (.int zp2), .unset]) rfl kt) ?_
        show own_Go p e below _ (T153.setTop (mkF m 173 #[.val (.int p0), .val (.int p1), .val (.int p2), .val (.int p3), .val (.int (3 : Int32)), .val (.int (1 : Int32)), .val (.int xc0), .val (.int xc1), .val (.int xc2), .val (.ref rc), .val (.ref sx), .val (.ref re), .val (.int zp2), .unset] []))
        refine own_Go.st (fun _ kt => XS.aload X153.here hx rfl (hb hby at_173) rfl rfl kt) ?_
        show own_Go p e below _ (T153.setTop (mkF m 175 #[.val (.int p0), .val (.int p1), .val (.int p2), .val (.int p3), .val (.int (3 : Int32)), .val (.int (1 : Int32)), .val (.int xc0), .val (.int xc1), .val (.int xc2), .val (.ref rc), .val (.ref sx), .val (.ref re), .val (.int zp2), .unset] [(.ref re)]))
        refine own_Go.st (fun _ kt => XS.iload X153.here hx rfl (hb hby at_175) rfl kt) ?_
        show own_Go p e below _ (T153.setTop (mkF m 177 #[.val (.int p0), .val (.int p1), .val (.int p2), .val (.int p3), .val (.int (3 : Int32)), .val (.int (1 : Int32)), .val (.int xc0), .val (.int xc1), .val (.int xc2), .val (.ref rc), .val (.ref sx), .val (.ref re), .val (.int zp2), .unset] [(.int zp2), (.ref re)]))
        refine own_Go.st (fun _ kt => XS.bipush X153.here hx rfl (hb hby at_177) kt) ?_
        show own_Go p e below _ (T153.setTop (mkF m 179 #[.val (.int p0), .val (.int p1), .val (.int p2), .val (.int p3), .val (.int (3 : Int32)), .val (.int (1 : Int32)), .val (.int xc0), .val (.int xc1), .val (.int xc2), .val (.ref rc), .val (.ref sx), .val (.ref re), .val (.int zp2), .unset] [(.int (10 : Int32)), (.int zp2), (.ref re)]))
        obtain ⟨T155, h155, X155, e155, W155, st155⟩ := own_bast X153 hx hZ rfl ap153 lp153 (by first | omega | (simp only [List.length_append, List.length_cons, List.length_nil] <;> omega)) own_nar10 (g := (mkF m 179 #[.val (.int p0), .val (.int p1), .val (.int p2), .val (.int p3), .val (.int (3 : Int32)), .val (.int (1 : Int32)), .val (.int xc0), .val (.int xc1), .val (.int xc2), .val (.ref rc), .val (.ref sx), .val (.ref re), .val (.int zp2), .unset] [(.int (10 : Int32)), (.int zp2), (.ref re)])) rfl rfl (hb hby at_179)
        refine own_Go.st st155 ?_
        have N155 := Fr.snoc X155 N153 n0_re
        have a155 := own_Ar.set ap153 W155
        have zz156 : n0 ≤ Array.size h155 := Nat.le_trans zz154 (Nat.le_of_eq (Wr.size W155).symm)
        have kk156 : Keep h0 h155 [] := kk154.wr W155 (Or.inr b_re)
        have hk156 : Array.size h0 ≤ Array.size h155 := Nat.le_trans hk154 (Nat.le_of_eq (Wr.size W155).symm)
        show own_Go p e below _ (T155.setTop (mkF m 180 #[.val (.int p0), .val (.int p1), .val (.int p2), .val (.int p3), .val (.int (3 : Int32)), .val (.int (1 : Int32)), .val (.int xc0), .val (.int xc1), .val (.int xc2), .val (.ref rc), .val (.ref sx), .val (.ref re), .val (.int zp2), .unset] []))
        have afe : own_Ar Z h155 re .byte 8 (own_by (((([] ++ own_p1 xc0) ++ own_p1 xc1) ++ own_p1 xc2) ++ [10])) := a155.congr fun j _ => own_by_snoc10 _ j
        have hzl : (zp2 + (1 : Int32)).toInt = (((((([] ++ own_p1 xc0) ++ own_p1 xc1) ++ own_p1 xc2) ++ [10]).length : Nat) : Int) := by rw [List.length_append]; exact own_inc lp153 (by first | omega | (simp only [List.length_append, List.length_cons, List.length_nil] <;> omega))
        refine own_Go.st (fun _ kt => XS.iload X155.here hx rfl (hb hby at_180) rfl kt) ?_
        show own_Go p e below _ (T155.setTop (mkF m 182 #[.val (.int p0), .val (.int p1), .val (.int p2), .val (.int p3), .val (.int (3 : Int32)), .val (.int (1 : Int32)), .val (.int xc0), .val (.int xc1), .val (.int xc2), .val (.ref rc), .val (.ref sx), .val (.ref re), .val (.int zp2), .unset] [(.int zp2)]))
        refine own_Go.st (fun _ kt => XS.iconst X155.here hx rfl (hb hby at_182) kt) ?_
        show own_Go p e below _ (T155.setTop (mkF m 183 #[.val (.int p0), .val (.int p1), .val (.int p2), .val (.int p3), .val (.int (3 : Int32)), .val (.int (1 : Int32)), .val (.int xc0), .val (.int xc1), .val (.int xc2), .val (.ref rc), .val (.ref sx), .val (.ref re), .val (.int zp2), .unset] [(.int (1 : Int32)), (.int zp2)]))
        refine own_Go.st (fun _ kt => XS.iadd X155.here hx rfl (hb hby at_183) rfl kt) ?_
        show own_Go p e below _ (T155.setTop (mkF m 184 #[.val (.int p0), .val (.int p1), .val (.int p2), .val (.int p3), .val (.int (3 : Int32)), .val (.int (1 : Int32)), .val (.int xc0), .val (.int xc1), .val (.int xc2), .val (.ref rc), .val (.ref sx), .val (.ref re), .val (.int zp2), .unset] [(.int (zp2 + (1 : Int32)))]))
        refine own_Go.st (fun _ kt => XS.istore X155.here hx rfl (hb hby at_184) rfl (l' := #[.val (.int p0), .val (.int p1), .val (.int p2), .val (.int p3), .val (.int (3 : Int32)), .val (.int (1 : Int32)), .val (.int xc0), .val (.int xc1), .val (.int xc2), .val (.ref rc), .val (.ref sx), .val (.ref re), .val (.int (zp2 + (1 : Int32))), .unset]) rfl kt) ?_
        show own_Go p e below _ (T155.setTop (mkF m 186 #[.val (.int p0), .val (.int p1), .val (.int p2), .val (.int p3), .val (.int (3 : Int32)), .val (.int (1 : Int32)), .val (.int xc0), .val (.int xc1), .val (.int xc2), .val (.ref rc), .val (.ref sx), .val (.ref re), .val (.int (zp2 + (1 : Int32))), .unset] []))
        refine own_Go.st (fun _ kt => XS.aload X155.here hx rfl (hb hby at_186) rfl rfl kt) ?_
        show own_Go p e below _ (T155.setTop (mkF m 188 #[.val (.int p0), .val (.int p1), .val (.int p2), .val (.int p3), .val (.int (3 : Int32)), .val (.int (1 : Int32)), .val (.int xc0), .val (.int xc1), .val (.int xc2), .val (.ref rc), .val (.ref sx), .val (.ref re), .val (.int (zp2 + (1 : Int32))), .unset] [(.ref sx)]))
        refine own_Go.st (fun _ kt => XS.iload X155.here hx rfl (hb hby at_188) rfl kt) ?_
        show own_Go p e below _ (T155.setTop (mkF m 190 #[.val (.int p0), .val (.int p1), .val (.int p2), .val (.int p3), .val (.int (3 : Int32)), .val (.int (1 : Int32)), .val (.int xc0), .val (.int xc1), .val (.int xc2), .val (.ref rc), .val (.ref sx), .val (.ref re), .val (.int (zp2 + (1 : Int32))), .unset] [(.int (1 : Int32)), (.ref sx)]))
        have f157 := (((((fsl.1.ext E147).keep KF149).keep KF151).keep KF153).wr W155)
        have f158 := (((((fsl.2.1.ext E147).keep KF149 (ninS ne_sx_re nin0)).keep KF151 (ninS ne_sx_re nin0)).keep KF153 (ninS ne_sx_re nin0)).other W155 (Or.inl ne_sx_re))
        have f159 := (((((fsl.2.2.1.ext E147).keep KF149 (ninS ne_sx_re nin0)).keep KF151 (ninS ne_sx_re nin0)).keep KF153 (ninS ne_sx_re nin0)).other W155 (Or.inl ne_sx_re))
        have f160 := (((((fsl.2.2.2.ext E147).keep KF149 (ninS ne_rb_re nin0)).keep KF151 (ninS ne_rb_re nin0)).keep KF153 (ninS ne_rb_re nin0)).other W155 ne_rb_re)
        have f161 := ((own_stakeep (own_stakeep (own_stakeep ((own_stakeep f144 KF145 (own_nst A141)).ext E147) KF149 (own_nstA A147)) KF151 (own_nstA ap149)) KF153 (own_nstA ap151)).wr W155)
        have f162 := ((own_stakeep (own_stakeep (own_stakeep ((own_stakeep (((((sU.ext E133).wr W135).wr W137).wr W139).ext E141) KF145 (own_nst A141)).ext E147) KF149 (own_nstA A147)) KF151 (own_nstA ap149)) KF153 (own_nstA ap151)).wr W155)
        have f163 := ((own_stakeep (own_stakeep (own_stakeep ((own_stakeep (((((sI.ext E133).wr W135).wr W137).wr W139).ext E141) KF145 (own_nst A141)).ext E147) KF149 (own_nstA A147)) KF151 (own_nstA ap149)) KF153 (own_nstA ap151)).wr W155)
        obtain ⟨_, _, ⟨T164, L164, k164, n164⟩, -, X164, hS164, hgr164, ⟨Lc164, hQ164, l164, y164, z164, ib164⟩, st164⟩ := callSS X155 hx (y := (⟨"com/example/marshal/marshal/pipelines/LogLines", "line", "(Ljava/lang/String;Z)[B"⟩ : MethodName)) hown (mvT hZ (own_w hw 22 rfl)) (mvT hZ (own_w hw 23 rfl)) (mvT hZ (own_w hw 24 rfl)) (mvT hZ (own_w hw 25 rfl)) (by decide) (own_backSI (W := 0) (own_line l Z a0 hw [] sx rb (1 : Int32) [] [xc0.toInt8, xc1.toInt8, xc2.toInt8] ru zc [] h155 (Array.size h155) (Nat.le_refl _) ⟨f157, f158, f159, f160⟩ (Nat.le_of_ble_eq_true rfl) (Or.inl ⟨rfl, rfl⟩) f161 hzc f162 f163 (fun b cl q => (kk156).2.1 b cl (hkp b cl q) List.not_mem_nil) heldN hcw (by decide) rfl) hZ (own_w hw 25 rfl) (own_w hw 24 rfl) (by decide) (by decide) hIB) (g := (mkF m 190 #[.val (.int p0), .val (.int p1), .val (.int p2), .val (.int p3), .val (.int (3 : Int32)), .val (.int (1 : Int32)), .val (.int xc0), .val (.int xc1), .val (.int xc2), .val (.ref rc), .val (.ref sx), .val (.ref re), .val (.int (zp2 + (1 : Int32))), .unset] [(.int (1 : Int32)), (.ref sx)])) rfl (by rw [hml]; rfl) (argsL := [(.ref sx), (.int (1 : Int32))]) (rest := []) (lenOf own_pd31 rfl) rfl (by show 2 * 0 + _ ≤ _; exact Nat.le_of_eq rfl) (hb hby at_190) (fun _ _ => ⟨rfl, e155, (by decide : 4 + 12 ≤ _), (by decide : 23 + 120 ≤ _)⟩)
        dsimp only [Pt.U, Pt.locs, Pt.cells, Pt.slots] at X164 l164 y164 z164 st164 hQ164 hS164 hgr164 ib164
        subst l164 y164 z164
        obtain ⟨rn, rfl, N164q, an164, KF164⟩ := hQ164
        have N164 := Fr.app N155 (fun y hy => Nat.le_trans zz156 (N164q y hy))
        refine own_Go.st (fun _ kt => st164.trans kt) ?_
        have hZ164 : Z.Warmed39 (s.setVm T164.vm).vm := State.Warmed39.trans (t := s.setVm s.vm) hZ hS164.1
        have ho164 : (s.setVm T164.vm).vm.findClass "com/example/marshal/marshal/pipelines/LogLinesLinePinLaw" = some m.cls := by rw [show (s.setVm T164.vm).vm = T164.vm from rfl, hS164.1.alike.findClass]; exact hown
        have hT164 : s.Since T164.vm (Array.size T164.heap) := State.Since.trans hS0 hS164 (Nat.le_trans hk156 (Nat.le_trans (Nat.le_of_eq (congrArg Array.size e155).symm) hgr164))
        have zz165 : n0 ≤ Array.size T164.heap := Nat.le_trans zz156 KF164.1
        have kk165 : Keep h0 T164.heap [] := kk156.trans KF164 all0
        show own_Go p e below _ (T164.setTop (mkF m 193 #[.val (.int p0), .val (.int p1), .val (.int p2), .val (.int p3), .val (.int (3 : Int32)), .val (.int (1 : Int32)), .val (.int xc0), .val (.int xc1), .val (.int xc2), .val (.ref rc), .val (.ref sx), .val (.ref re), .val (.int (zp2 + (1 : Int32))), .unset] [(.ref rn)]))
        have hee : own_enc ([] ++ [xc0.toInt8, xc1.toInt8, xc2.toInt8] ++ [10]) = (((([] ++ own_p1 xc0) ++ own_p1 xc1) ++ own_p1 xc2) ++ [10]) := by simp only [List.cons_append, List.nil_append, List.append_nil, List.append_assoc, own_enc_cons, own_enc_nil, own_e1_ten, own_e1p1 hC0, own_e1p1 hC1, own_e1p1 hC2]
        rw [hee] at an164
        refine own_Go.st (fun _ kt => XS.astore X164.here hx rfl (hb hby at_193) rfl rfl (l' := #[.val (.int p0), .val (.int p1), .val (.int p2), .val (.int p3), .val (.int (3 : Int32)), .val (.int (1 : Int32)), .val (.int xc0), .val (.int xc1), .val (.int xc2), .val (.ref rc), .val (.ref sx), .val (.ref re), .val (.int (zp2 + (1 : Int32))), .val (.ref rn)]) rfl kt) ?_
        show own_Go p e below _ (T164.setTop (mkF m 195 #[.val (.int p0), .val (.int p1), .val (.int p2), .val (.int p3), .val (.int (3 : Int32)), .val (.int (1 : Int32)), .val (.int xc0), .val (.int xc1), .val (.int xc2), .val (.ref rc), .val (.ref sx), .val (.ref re), .val (.int (zp2 + (1 : Int32))), .val (.ref rn)] []))
        refine own_Go.st (fun _ kt => XS.aload X164.here hx rfl (hb hby at_195) rfl rfl kt) ?_
        show own_Go p e below _ (T164.setTop (mkF m 197 #[.val (.int p0), .val (.int p1), .val (.int p2), .val (.int p3), .val (.int (3 : Int32)), .val (.int (1 : Int32)), .val (.int xc0), .val (.int xc1), .val (.int xc2), .val (.ref rc), .val (.ref sx), .val (.ref re), .val (.int (zp2 + (1 : Int32))), .val (.ref rn)] [(.ref rn)]))
        refine own_Go.st (fun _ kt => XS.aload X164.here hx rfl (hb hby at_197) rfl rfl kt) ?_
        show own_Go p e below _ (T164.setTop (mkF m 199 #[.val (.int p0), .val (.int p1), .val (.int p2), .val (.int p3), .val (.int (3 : Int32)), .val (.int (1 : Int32)), .val (.int xc0), .val (.int xc1), .val (.int xc2), .val (.ref rc), .val (.ref sx), .val (.ref re), .val (.int (zp2 + (1 : Int32))), .val (.ref rn)] [(.ref re), (.ref rn)]))
        refine own_Go.st (fun _ kt => XS.iload X164.here hx rfl (hb hby at_199) rfl kt) ?_
        show own_Go p e below _ (T164.setTop (mkF m 201 #[.val (.int p0), .val (.int p1), .val (.int p2), .val (.int p3), .val (.int (3 : Int32)), .val (.int (1 : Int32)), .val (.int xc0), .val (.int xc1), .val (.int xc2), .val (.ref rc), .val (.ref sx), .val (.ref re), .val (.int (zp2 + (1 : Int32))), .val (.ref rn)] [(.int (zp2 + (1 : Int32))), (.ref re), (.ref rn)]))
        have f166 := (afe.keep KF164 nin0)
        obtain ⟨_, _, ⟨T167, L167, k167, n167⟩, -, X167, ⟨Lc167, hQ167, l167, y167, z167⟩, st167⟩ := Jvm.LawKit.callS X164 hx (y := (⟨"com/example/marshal/marshal/pipelines/LogLinesLinePinLaw", "same", "([B[BI)Z"⟩ : MethodName)) ho164 (mvT hZ164 (own_w hw 169 rfl)) (mvT hZ164 (own_w hw 170 rfl)) (mvT hZ164 (own_w hw 171 rfl)) (mvT hZ164 (own_w hw 172 rfl)) (by decide) (backOf (W := 0) (own_same l Z a0 hw [] rn re (zp2 + (1 : Int32)) (((([] ++ own_p1 xc0) ++ own_p1 xc1) ++ own_p1 xc2) ++ [10]) T164.heap n0 zz165 an164 f166 hzl) hZ164 (own_w hw 172 rfl) (own_w hw 171 rfl) (by decide) (by decide)) (g := (mkF m 201 #[.val (.int p0), .val (.int p1), .val (.int p2), .val (.int p3), .val (.int (3 : Int32)), .val (.int (1 : Int32)), .val (.int xc0), .val (.int xc1), .val (.int xc2), .val (.ref rc), .val (.ref sx), .val (.ref re), .val (.int (zp2 + (1 : Int32))), .val (.ref rn)] [(.int (zp2 + (1 : Int32))), (.ref re), (.ref rn)])) rfl (by rw [hml]; rfl) (argsL := [(.ref rn), (.ref re), (.int (zp2 + (1 : Int32)))]) (rest := []) (lenOf own_pd32 rfl) rfl (by show 2 * 0 + _ ≤ _; exact Nat.le_of_eq rfl) (hb hby at_201) (fun _ _ => ⟨rfl, rfl, (by decide : 16 + 0 ≤ _), (by decide : 143 + 0 ≤ _)⟩)
        dsimp only [Pt.U, Pt.locs, Pt.cells, Pt.slots] at X167 l167 y167 z167 st167 hQ167
        subst l167 y167 z167
        obtain ⟨rfl, N167q, hh167⟩ := hQ167
        have N167 := Fr.app N164 N167q
        refine own_Go.st (fun _ kt => st167 _ kt) ?_
        show own_Go p e below _ (T167.setTop (mkF m 204 #[.val (.int p0), .val (.int p1), .val (.int p2), .val (.int p3), .val (.int (3 : Int32)), .val (.int (1 : Int32)), .val (.int xc0), .val (.int xc1), .val (.int xc2), .val (.ref rc), .val (.ref sx), .val (.ref re), .val (.int (zp2 + (1 : Int32))), .val (.ref rn)] [(.int (1 : Int32))]))
        exact own_retWZ X167 hx Bd.notSynchronized Bd.returns hT164 (Nat.le_trans (Nat.le_of_eq (congrArg Array.size rfl)) (Nat.le_of_eq (congrArg Array.size hh167).symm)) (Or.inr rfl) (hb hby at_204) (by decide) (by decide) ⟨rfl, N167⟩
      · show own_Go p e below _ (T147.setTop (mkF m 107 #[.val (.int p0), .val (.int p1), .val (.int p2), .val (.int p3), .val (.int (3 : Int32)), .val (.int (0 : Int32)), .val (.int xc0), .val (.int xc1), .val (.int xc2), .val (.ref rc), .val (.ref sx), .val (.ref re), .val (.int (0 : Int32)), .unset] [(.int (0 : Int32))]))
        refine own_Go.st (fun _ kt => XS.ifNo X147.here hx rfl (hb hby at_107) rfl ((if0 _ _).trans (teq (by decide)).2) kt) ?_
        show own_Go p e below _ (T147.setTop (mkF m 110 #[.val (.int p0), .val (.int p1), .val (.int p2), .val (.int p3), .val (.int (3 : Int32)), .val (.int (0 : Int32)), .val (.int xc0), .val (.int xc1), .val (.int xc2), .val (.ref rc), .val (.ref sx), .val (.ref re), .val (.int (0 : Int32)), .unset] []))
        refine own_Go.st (fun _ kt => XS.aload X147.here hx rfl (hb hby at_110) rfl rfl kt) ?_
        show own_Go p e below _ (T147.setTop (mkF m 112 #[.val (.int p0), .val (.int p1), .val (.int p2), .val (.int p3), .val (.int (3 : Int32)), .val (.int (0 : Int32)), .val (.int xc0), .val (.int xc1), .val (.int xc2), .val (.ref rc), .val (.ref sx), .val (.ref re), .val (.int (0 : Int32)), .unset] [(.ref re)]))
        refine own_Go.st (fun _ kt => XS.iload X147.here hx rfl (hb hby at_112) rfl kt) ?_
        show own_Go p e below _ (T147.setTop (mkF m 114 #[.val (.int p0), .val (.int p1), .val (.int p2), .val (.int p3), .val (.int (3 : Int32)), .val (.int (0 : Int32)), .val (.int xc0), .val (.int xc1), .val (.int xc2), .val (.ref rc), .val (.ref sx), .val (.ref re), .val (.int (0 : Int32)), .unset] [(.int (0 : Int32)), (.ref re)]))
        refine own_Go.st (fun _ kt => XS.bipush X147.here hx rfl (hb hby at_114) kt) ?_
        show own_Go p e below _ (T147.setTop (mkF m 116 #[.val (.int p0), .val (.int p1), .val (.int p2), .val (.int p3), .val (.int (3 : Int32)), .val (.int (0 : Int32)), .val (.int xc0), .val (.int xc1), .val (.int xc2), .val (.ref rc), .val (.ref sx), .val (.ref re), .val (.int (0 : Int32)), .unset] [(.int (10 : Int32)), (.int (0 : Int32)), (.ref re)]))
        obtain ⟨T168, h168, X168, e168, W168, st168⟩ := own_bast X147 hx hZ e147 A147 (i := 0) (by decide) (by decide) own_nar10 (g := (mkF m 116 #[.val (.int p0), .val (.int p1), .val (.int p2), .val (.int p3), .val (.int (3 : Int32)), .val (.int (0 : Int32)), .val (.int xc0), .val (.int xc1), .val (.int xc2), .val (.ref rc), .val (.ref sx), .val (.ref re), .val (.int (0 : Int32)), .unset] [(.int (10 : Int32)), (.int (0 : Int32)), (.ref re)])) rfl rfl (hb hby at_116)
        refine own_Go.st st168 ?_
        have N168 := Fr.snoc X168 N145 n0_re
        have a168 := own_Ar.set A147 W168
        have zz169 : n0 ≤ Array.size h168 := Nat.le_trans zz148 (Nat.le_of_eq (Wr.size W168).symm)
        have kk169 : Keep h0 h168 [] := kk148.wr W168 (Or.inr b_re)
        have hk169 : Array.size h0 ≤ Array.size h168 := Nat.le_trans hk148 (Nat.le_of_eq (Wr.size W168).symm)
        show own_Go p e below _ (T168.setTop (mkF m 117 #[.val (.int p0), .val (.int p1), .val (.int p2), .val (.int p3), .val (.int (3 : Int32)), .val (.int (0 : Int32)), .val (.int xc0), .val (.int xc1), .val (.int xc2), .val (.ref rc), .val (.ref sx), .val (.ref re), .val (.int (0 : Int32)), .unset] []))
        have ae0 : own_Ar Z h168 re .byte 8 (own_by [10]) := a168.congr fun j _ => own_by_snoc10 [] j
        refine own_Go.st (fun _ kt => XS.iload X168.here hx rfl (hb hby at_117) rfl kt) ?_
        show own_Go p e below _ (T168.setTop (mkF m 119 #[.val (.int p0), .val (.int p1), .val (.int p2), .val (.int p3), .val (.int (3 : Int32)), .val (.int (0 : Int32)), .val (.int xc0), .val (.int xc1), .val (.int xc2), .val (.ref rc), .val (.ref sx), .val (.ref re), .val (.int (0 : Int32)), .unset] [(.int (0 : Int32))]))
        refine own_Go.st (fun _ kt => XS.iconst X168.here hx rfl (hb hby at_119) kt) ?_
        show own_Go p e below _ (T168.setTop (mkF m 120 #[.val (.int p0), .val (.int p1), .val (.int p2), .val (.int p3), .val (.int (3 : Int32)), .val (.int (0 : Int32)), .val (.int xc0), .val (.int xc1), .val (.int xc2), .val (.ref rc), .val (.ref sx), .val (.ref re), .val (.int (0 : Int32)), .unset] [(.int (1 : Int32)), (.int (0 : Int32))]))
        refine own_Go.st (fun _ kt => XS.iadd X168.here hx rfl (hb hby at_120) rfl kt) ?_
        show own_Go p e below _ (T168.setTop (mkF m 121 #[.val (.int p0), .val (.int p1), .val (.int p2), .val (.int p3), .val (.int (3 : Int32)), .val (.int (0 : Int32)), .val (.int xc0), .val (.int xc1), .val (.int xc2), .val (.ref rc), .val (.ref sx), .val (.ref re), .val (.int (0 : Int32)), .unset] [(.int ((0 : Int32) + (1 : Int32)))]))
        refine own_Go.st (fun _ kt => XS.istore X168.here hx rfl (hb hby at_121) rfl (l' := #[.val (.int p0), .val (.int p1), .val (.int p2), .val (.int p3), .val (.int (3 : Int32)), .val (.int (0 : Int32)), .val (.int xc0), .val (.int xc1), .val (.int xc2), .val (.ref rc), .val (.ref sx), .val (.ref re), .val (.int ((0 : Int32) + (1 : Int32))), .unset]) rfl kt) ?_
        show own_Go p e below _ (T168.setTop (mkF m 123 #[.val (.int p0), .val (.int p1), .val (.int p2), .val (.int p3), .val (.int (3 : Int32)), .val (.int (0 : Int32)), .val (.int xc0), .val (.int xc1), .val (.int xc2), .val (.ref rc), .val (.ref sx), .val (.ref re), .val (.int ((0 : Int32) + (1 : Int32))), .unset] []))
        rw [show ((0 : Int32) + (1 : Int32)) = (1 : Int32) from (by decide)]
        show own_Go p e below _ (T168.setTop (mkF m 123 #[.val (.int p0), .val (.int p1), .val (.int p2), .val (.int p3), .val (.int (3 : Int32)), .val (.int (0 : Int32)), .val (.int xc0), .val (.int xc1), .val (.int xc2), .val (.ref rc), .val (.ref sx), .val (.ref re), .val (.int (1 : Int32)), .unset] []))
        refine own_Go.st (fun _ kt => XS.iload X168.here hx rfl (hb hby at_123) rfl kt) ?_
        show own_Go p e below _ (T168.setTop (mkF m 125 #[.val (.int p0), .val (.int p1), .val (.int p2), .val (.int p3), .val (.int (3 : Int32)), .val (.int (0 : Int32)), .val (.int xc0), .val (.int xc1), .val (.int xc2), .val (.ref rc), .val (.ref sx), .val (.ref re), .val (.int (1 : Int32)), .unset] [(.int (3 : Int32))]))
        refine own_Go.st (fun _ kt => XS.ifNo X168.here hx rfl (hb hby at_125) rfl ((if0 _ _).trans (tlt (by decide)).2.2.2) kt) ?_
        show own_Go p e below _ (T168.setTop (mkF m 128 #[.val (.int p0), .val (.int p1), .val (.int p2), .val (.int p3), .val (.int (3 : Int32)), .val (.int (0 : Int32)), .val (.int xc0), .val (.int xc1), .val (.int xc2), .val (.ref rc), .val (.ref sx), .val (.ref re), .val (.int (1 : Int32)), .unset] []))
        refine own_Go.st (fun _ kt => XS.aload X168.here hx rfl (hb hby at_128) rfl rfl kt) ?_
        show own_Go p e below _ (T168.setTop (mkF m 130 #[.val (.int p0), .val (.int p1), .val (.int p2), .val (.int p3), .val (.int (3 : Int32)), .val (.int (0 : Int32)), .val (.int xc0), .val (.int xc1), .val (.int xc2), .val (.ref rc), .val (.ref sx), .val (.ref re), .val (.int (1 : Int32)), .unset] [(.ref re)]))
        refine own_Go.st (fun _ kt => XS.iload X168.here hx rfl (hb hby at_130) rfl kt) ?_
        show own_Go p e below _ (T168.setTop (mkF m 132 #[.val (.int p0), .val (.int p1), .val (.int p2), .val (.int p3), .val (.int (3 : Int32)), .val (.int (0 : Int32)), .val (.int xc0), .val (.int xc1), .val (.int xc2), .val (.ref rc), .val (.ref sx), .val (.ref re), .val (.int (1 : Int32)), .unset] [(.int (1 : Int32)), (.ref re)]))
        refine own_Go.st (fun _ kt => XS.iload X168.here hx rfl (hb hby at_132) rfl kt) ?_
        show own_Go p e below _ (T168.setTop (mkF m 134 #[.val (.int p0), .val (.int p1), .val (.int p2), .val (.int p3), .val (.int (3 : Int32)), .val (.int (0 : Int32)), .val (.int xc0), .val (.int xc1), .val (.int xc2), .val (.ref rc), .val (.ref sx), .val (.ref re), .val (.int (1 : Int32)), .unset] [(.int xc0), (.int (1 : Int32)), (.ref re)]))
        obtain ⟨_, _, ⟨T170, L170, k170, n170⟩, -, X170, ⟨Lc170, hQ170, l170, y170, z170⟩, st170⟩ := Jvm.LawKit.callS X168 hx (y := (⟨"com/example/marshal/marshal/pipelines/LogLinesLinePinLaw", "put", "([BIC)I"⟩ : MethodName)) hown (mvT hZ (own_w hw 186 rfl)) (mvT hZ (own_w hw 187 rfl)) (mvT hZ (own_w hw 171 rfl)) (mvT hZ (own_w hw 188 rfl)) (by decide) (backOf (W := 0) (own_put l Z a0 hw [] re (1 : Int32) xc0 [10] h168 n0 zz169 ae0 (show (1 : Int32).toInt = ((([10] : List Int8).length : Nat) : Int) by decide) (by first | omega | (simp only [List.length_append, List.length_cons, List.length_nil] <;> omega)) n0_re) hZ (own_w hw 188 rfl) (own_w hw 171 rfl) (by decide) (by decide)) (g := (mkF m 134 #[.val (.int p0), .val (.int p1), .val (.int p2), .val (.int p3), .val (.int (3 : Int32)), .val (.int (0 : Int32)), .val (.int xc0), .val (.int xc1), .val (.int xc2), .val (.ref rc), .val (.ref sx), .val (.ref re), .val (.int (1 : Int32)), .unset] [(.int xc0), (.int (1 : Int32)), (.ref re)])) rfl (by rw [hml]; rfl) (argsL := [(.ref re), (.int (1 : Int32)), (.int xc0)]) (rest := []) (lenOf own_pd33 rfl) rfl (by show 2 * 0 + _ ≤ _; exact Nat.le_of_eq rfl) (hb hby at_134) (fun _ _ => ⟨rfl, e168, (by decide : 4 + 0 ≤ _), (by decide : 23 + 0 ≤ _)⟩)
        dsimp only [Pt.U, Pt.locs, Pt.cells, Pt.slots] at X170 l170 y170 z170 st170 hQ170
        subst l170 y170 z170
        obtain ⟨zp0, rfl, N170q, ap170, lp170, KF170⟩ := hQ170
        have N170 := Fr.app N168 N170q
        refine own_Go.st (fun _ kt => st170 _ kt) ?_
        have zz171 : n0 ≤ Array.size T170.heap := Nat.le_trans zz169 KF170.1
        have kk171 : Keep h0 T170.heap [] := kk169.trans KF170 (allS (P := fun x => x ∈ [] ∨ _) (Or.inr b_re) all0)
        have hk171 : Array.size h0 ≤ Array.size T170.heap := Nat.le_trans hk169 KF170.1
        show own_Go p e below _ (T170.setTop (mkF m 137 #[.val (.int p0), .val (.int p1), .val (.int p2), .val (.int p3), .val (.int (3 : Int32)), .val (.int (0 : Int32)), .val (.int xc0), .val (.int xc1), .val (.int xc2), .val (.ref rc), .val (.ref sx), .val (.ref re), .val (.int (1 : Int32)), .unset] [(.int zp0)]))
        refine own_Go.st (fun _ kt => XS.istore X170.here hx rfl (hb hby at_137) rfl (l' := #[.val (.int p0), .val (.int p1), .val (.int p2), .val (.int p3), .val (.int (3 : Int32)), .val (.int (0 : Int32)), .val (.int xc0), .val (.int xc1), .val (.int xc2), .val (.ref rc), .val (.ref sx), .val (.ref re), .val (.int zp0), .unset]) rfl kt) ?_
        show own_Go p e below _ (T170.setTop (mkF m 139 #[.val (.int p0), .val (.int p1), .val (.int p2), .val (.int p3), .val (.int (3 : Int32)), .val (.int (0 : Int32)), .val (.int xc0), .val (.int xc1), .val (.int xc2), .val (.ref rc), .val (.ref sx), .val (.ref re), .val (.int zp0), .unset] []))
        refine own_Go.st (fun _ kt => XS.iload X170.here hx rfl (hb hby at_139) rfl kt) ?_
        show own_Go p e below _ (T170.setTop (mkF m 141 #[.val (.int p0), .val (.int p1), .val (.int p2), .val (.int p3), .val (.int (3 : Int32)), .val (.int (0 : Int32)), .val (.int xc0), .val (.int xc1), .val (.int xc2), .val (.ref rc), .val (.ref sx), .val (.ref re), .val (.int zp0), .unset] [(.int (3 : Int32))]))
        refine own_Go.st (fun _ kt => XS.iconst X170.here hx rfl (hb hby at_141) kt) ?_
        show own_Go p e below _ (T170.setTop (mkF m 142 #[.val (.int p0), .val (.int p1), .val (.int p2), .val (.int p3), .val (.int (3 : Int32)), .val (.int (0 : Int32)), .val (.int xc0), .val (.int xc1), .val (.int xc2), .val (.ref rc), .val (.ref sx), .val (.ref re), .val (.int zp0), .unset] [(.int (1 : Int32)), (.int (3 : Int32))]))
        refine own_Go.st (fun _ kt => XS.icmpNo X170.here hx rfl (hb hby at_142) rfl (tlt (by decide)).2.2.2 kt) ?_
        show own_Go p e below _ (T170.setTop (mkF m 145 #[.val (.int p0), .val (.int p1), .val (.int p2), .val (.int p3), .val (.int (3 : Int32)), .val (.int (0 : Int32)), .val (.int xc0), .val (.int xc1), .val (.int xc2), .val (.ref rc), .val (.ref sx), .val (.ref re), .val (.int zp0), .unset] []))
        refine own_Go.st (fun _ kt => XS.aload X170.here hx rfl (hb hby at_145) rfl rfl kt) ?_
        show own_Go p e below _ (T170.setTop (mkF m 147 #[.val (.int p0), .val (.int p1), .val (.int p2), .val (.int p3), .val (.int (3 : Int32)), .val (.int (0 : Int32)), .val (.int xc0), .val (.int xc1), .val (.int xc2), .val (.ref rc), .val (.ref sx), .val (.ref re), .val (.int zp0), .unset] [(.ref re)]))
        refine own_Go.st (fun _ kt => XS.iload X170.here hx rfl (hb hby at_147) rfl kt) ?_
        show own_Go p e below _ (T170.setTop (mkF m 149 #[.val (.int p0), .val (.int p1), .val (.int p2), .val (.int p3), .val (.int (3 : Int32)), .val (.int (0 : Int32)), .val (.int xc0), .val (.int xc1), .val (.int xc2), .val (.ref rc), .val (.ref sx), .val (.ref re), .val (.int zp0), .unset] [(.int zp0), (.ref re)]))
        refine own_Go.st (fun _ kt => XS.iload X170.here hx rfl (hb hby at_149) rfl kt) ?_
        show own_Go p e below _ (T170.setTop (mkF m 151 #[.val (.int p0), .val (.int p1), .val (.int p2), .val (.int p3), .val (.int (3 : Int32)), .val (.int (0 : Int32)), .val (.int xc0), .val (.int xc1), .val (.int xc2), .val (.ref rc), .val (.ref sx), .val (.ref re), .val (.int zp0), .unset] [(.int xc1), (.int zp0), (.ref re)]))
        obtain ⟨_, _, ⟨T172, L172, k172, n172⟩, -, X172, ⟨Lc172, hQ172, l172, y172, z172⟩, st172⟩ := Jvm.LawKit.callS X170 hx (y := (⟨"com/example/marshal/marshal/pipelines/LogLinesLinePinLaw", "put", "([BIC)I"⟩ : MethodName)) hown (mvT hZ (own_w hw 186 rfl)) (mvT hZ (own_w hw 187 rfl)) (mvT hZ (own_w hw 171 rfl)) (mvT hZ (own_w hw 188 rfl)) (by decide) (backOf (W := 0) (own_put l Z a0 hw [] re zp0 xc1 ([10] ++ own_p1 xc0) T170.heap n0 zz171 ap170 lp170 (by first | omega | (simp only [List.length_append, List.length_cons, List.length_nil] <;> omega)) n0_re) hZ (own_w hw 188 rfl) (own_w hw 171 rfl) (by decide) (by decide)) (g := (mkF m 151 #[.val (.int p0), .val (.int p1), .val (.int p2), .val (.int p3), .val (.int (3 : Int32)), .val (.int (0 : Int32)), .val (.int xc0), .val (.int xc1), .val (.int xc2), .val (.ref rc), .val (.ref sx), .val (.ref re), .val (.int zp0), .unset] [(.int xc1), (.int zp0), (.ref re)])) rfl (by rw [hml]; rfl) (argsL := [(.ref re), (.int zp0), (.int xc1)]) (rest := []) (lenOf own_pd33 rfl) rfl (by show 2 * 0 + _ ≤ _; exact Nat.le_of_eq rfl) (hb hby at_151) (fun _ _ => ⟨rfl, rfl, (by decide : 4 + 0 ≤ _), (by decide : 23 + 0 ≤ _)⟩)
        dsimp only [Pt.U, Pt.locs, Pt.cells, Pt.slots] at X172 l172 y172 z172 st172 hQ172
        subst l172 y172 z172
        obtain ⟨zp1, rfl, N172q, ap172, lp172, KF172⟩ := hQ172
        have N172 := Fr.app N170 N172q
        refine own_Go.st (fun _ kt => st172 _ kt) ?_
        have zz173 : n0 ≤ Array.size T172.heap := Nat.le_trans zz171 KF172.1
        have kk173 : Keep h0 T172.heap [] := kk171.trans KF172 (allS (P := fun x => x ∈ [] ∨ _) (Or.inr b_re) all0)
        have hk173 : Array.size h0 ≤ Array.size T172.heap := Nat.le_trans hk171 KF172.1
        show own_Go p e below _ (T172.setTop (mkF m 154 #[.val (.int p0), .val (.int p1), .val (.int p2), .val (.int p3), .val (.int (3 : Int32)), .val (.int (0 : Int32)), .val (.int xc0), .val (.int xc1), .val (.int xc2), .val (.ref rc), .val (.ref sx), .val (.ref re), .val (.int zp0), .unset] [(.int zp1)]))
        refine own_Go.st (fun _ kt => XS.istore X172.here hx rfl (hb hby at_154) rfl (l' := #[.val (.int p0), .val (.int p1), .val (.int p2), .val (.int p3), .val (.int (3 : Int32)), .val (.int (0 : Int32)), .val (.int xc0), .val (.int xc1), .val (.int xc2), .val (.ref rc), .val (.ref sx), .val (.ref re), .val (.int zp1), .unset]) rfl kt) ?_
        show own_Go p e below _ (T172.setTop (mkF m 156 #[.val (.int p0), .val (.int p1), .val (.int p2), .val (.int p3), .val (.int (3 : Int32)), .val (.int (0 : Int32)), .val (.int xc0), .val (.int xc1), .val (.int xc2), .val (.ref rc), .val (.ref sx), .val (.ref re), .val (.int zp1), .unset] []))
        refine own_Go.st (fun _ kt => XS.iload X172.here hx rfl (hb hby at_156) rfl kt) ?_
        show own_Go p e below _ (T172.setTop (mkF m 158 #[.val (.int p0), .val (.int p1), .val (.int p2), .val (.int p3), .val (.int (3 : Int32)), .val (.int (0 : Int32)), .val (.int xc0), .val (.int xc1), .val (.int xc2), .val (.ref rc), .val (.ref sx), .val (.ref re), .val (.int zp1), .unset] [(.int (3 : Int32))]))
        refine own_Go.st (fun _ kt => XS.iconst X172.here hx rfl (hb hby at_158) kt) ?_
        show own_Go p e below _ (T172.setTop (mkF m 159 #[.val (.int p0), .val (.int p1), .val (.int p2), .val (.int p3), .val (.int (3 : Int32)), .val (.int (0 : Int32)), .val (.int xc0), .val (.int xc1), .val (.int xc2), .val (.ref rc), .val (.ref sx), .val (.ref re), .val (.int zp1), .unset] [(.int (2 : Int32)), (.int (3 : Int32))]))
        refine own_Go.st (fun _ kt => XS.icmpNo X172.here hx rfl (hb hby at_159) rfl (tlt (by decide)).2.2.2 kt) ?_
        show own_Go p e below _ (T172.setTop (mkF m 162 #[.val (.int p0), .val (.int p1), .val (.int p2), .val (.int p3), .val (.int (3 : Int32)), .val (.int (0 : Int32)), .val (.int xc0), .val (.int xc1), .val (.int xc2), .val (.ref rc), .val (.ref sx), .val (.ref re), .val (.int zp1), .unset] []))
        refine own_Go.st (fun _ kt => XS.aload X172.here hx rfl (hb hby at_162) rfl rfl kt) ?_
        show own_Go p e below _ (T172.setTop (mkF m 164 #[.val (.int p0), .val (.int p1), .val (.int p2), .val (.int p3), .val (.int (3 : Int32)), .val (.int (0 : Int32)), .val (.int xc0), .val (.int xc1), .val (.int xc2), .val (.ref rc), .val (.ref sx), .val (.ref re), .val (.int zp1), .unset] [(.ref re)]))
        refine own_Go.st (fun _ kt => XS.iload X172.here hx rfl (hb hby at_164) rfl kt) ?_
        show own_Go p e below _ (T172.setTop (mkF m 166 #[.val (.int p0), .val (.int p1), .val (.int p2), .val (.int p3), .val (.int (3 : Int32)), .val (.int (0 : Int32)), .val (.int xc0), .val (.int xc1), .val (.int xc2), .val (.ref rc), .val (.ref sx), .val (.ref re), .val (.int zp1), .unset] [(.int zp1), (.ref re)]))
        refine own_Go.st (fun _ kt => XS.iload X172.here hx rfl (hb hby at_166) rfl kt) ?_
        show own_Go p e below _ (T172.setTop (mkF m 168 #[.val (.int p0), .val (.int p1), .val (.int p2), .val (.int p3), .val (.int (3 : Int32)), .val (.int (0 : Int32)), .val (.int xc0), .val (.int xc1), .val (.int xc2), .val (.ref rc), .val (.ref sx), .val (.ref re), .val (.int zp1), .unset] [(.int xc2), (.int zp1), (.ref re)]))
        obtain ⟨_, _, ⟨T174, L174, k174, n174⟩, -, X174, ⟨Lc174, hQ174, l174, y174, z174⟩, st174⟩ := Jvm.LawKit.callS X172 hx (y := (⟨"com/example/marshal/marshal/pipelines/LogLinesLinePinLaw", "put", "([BIC)I"⟩ : MethodName)) hown (mvT hZ (own_w hw 186 rfl)) (mvT hZ (own_w hw 187 rfl)) (mvT hZ (own_w hw 171 rfl)) (mvT hZ (own_w hw 188 rfl)) (by decide) (backOf (W := 0) (own_put l Z a0 hw [] re zp1 xc2 (([10] ++ own_p1 xc0) ++ own_p1 xc1) T172.heap n0 zz173 ap172 lp172 (by first | omega | (simp only [List.length_append, List.length_cons, List.length_nil] <;> omega)) n0_re) hZ (own_w hw 188 rfl) (own_w hw 171 rfl) (by decide) (by decide)) (g := (mkF m 168 #[.val (.int p0), .val (.int p1), .val (.int p2), .val (.int p3), .val (.int (3 : Int32)), .val (.int (0 : Int32)), .val (.int xc0), .val (.int xc1), .val (.int xc2), .val (.ref rc), .val (.ref sx), .val (.ref re), .val (.int zp1), .unset] [(.int xc2), (.int zp1), (.ref re)])) rfl (by rw [hml]; rfl) (argsL := [(.ref re), (.int zp1), (.int xc2)]) (rest := []) (lenOf own_pd33 rfl) rfl (by show 2 * 0 + _ ≤ _; exact Nat.le_of_eq rfl) (hb hby at_168) (fun _ _ => ⟨rfl, rfl, (by decide : 4 + 0 ≤ _), (by decide : 23 + 0 ≤ _)⟩)
        dsimp only [Pt.U, Pt.locs, Pt.cells, Pt.slots] at X174 l174 y174 z174 st174 hQ174
        subst l174 y174 z174
        obtain ⟨zp2, rfl, N174q, ap174, lp174, KF174⟩ := hQ174
        have N174 := Fr.app N172 N174q
        refine own_Go.st (fun _ kt => st174 _ kt) ?_
        have zz175 : n0 ≤ Array.size T174.heap := Nat.le_trans zz173 KF174.1
        have kk175 : Keep h0 T174.heap [] := kk173.trans KF174 (allS (P := fun x => x ∈ [] ∨ _) (Or.inr b_re) all0)
        have hk175 : Array.size h0 ≤ Array.size T174.heap := Nat.le_trans hk173 KF174.1
        show own_Go p e below _ (T174.setTop (mkF m 171 #[.val (.int p0), .val (.int p1), .val (.int p2), .val (.int p3), .val (.int (3 : Int32)), .val (.int (0 : Int32)), .val (.int xc0), .val (.int xc1), .val (.int xc2), .val (.ref rc), .val (.ref sx), .val (.ref re), .val (.int zp1), .unset] [(.int zp2)]))
        refine own_Go.st (fun _ kt => XS.istore X174.here hx rfl (hb hby at_171) rfl (l' := #[.val (.int p0), .val (.int p1), .val (.int p2), .val (.int p3), .val (.int (3 : Int32)), .val (.int (0 : Int32)), .val (.int xc0), .val (.int xc1), .val (.int xc2), .val (.ref rc), .val (.ref sx), .val (.ref re), .val (.int zp2), .unset]) rfl kt) ?_
        show own_Go p e below _ (T174.setTop (mkF m 173 #[.val (.int p0), .val (.int p1), .val (.int p2), .val (.int p3), .val (.int (3 : Int32)), .val (.int (0 : Int32)), .val (.int xc0), .val (.int xc1), .val (.int xc2), .val (.ref rc), .val (.ref sx), .val (.ref re), .val (.int zp2), .unset] []))
        refine own_Go.st (fun _ kt => XS.aload X174.here hx rfl (hb hby at_173) rfl rfl kt) ?_
        show own_Go p e below _ (T174.setTop (mkF m 175 #[.val (.int p0), .val (.int p1), .val (.int p2), .val (.int p3), .val (.int (3 : Int32)), .val (.int (0 : Int32)), .val (.int xc0), .val (.int xc1), .val (.int xc2), .val (.ref rc), .val (.ref sx), .val (.ref re), .val (.int zp2), .unset] [(.ref re)]))
        refine own_Go.st (fun _ kt => XS.iload X174.here hx rfl (hb hby at_175) rfl kt) ?_
        show own_Go p e below _ (T174.setTop (mkF m 177 #[.val (.int p0), .val (.int p1), .val (.int p2), .val (.int p3), .val (.int (3 : Int32)), .val (.int (0 : Int32)), .val (.int xc0), .val (.int xc1), .val (.int xc2), .val (.ref rc), .val (.ref sx), .val (.ref re), .val (.int zp2), .unset] [(.int zp2), (.ref re)]))
        refine own_Go.st (fun _ kt => XS.bipush X174.here hx rfl (hb hby at_177) kt) ?_
        show own_Go p e below _ (T174.setTop (mkF m 179 #[.val (.int p0), .val (.int p1), .val (.int p2), .val (.int p3), .val (.int (3 : Int32)), .val (.int (0 : Int32)), .val (.int xc0), .val (.int xc1), .val (.int xc2), .val (.ref rc), .val (.ref sx), .val (.ref re), .val (.int zp2), .unset] [(.int (10 : Int32)), (.int zp2), (.ref re)]))
        obtain ⟨T176, h176, X176, e176, W176, st176⟩ := own_bast X174 hx hZ rfl ap174 lp174 (by first | omega | (simp only [List.length_append, List.length_cons, List.length_nil] <;> omega)) own_nar10 (g := (mkF m 179 #[.val (.int p0), .val (.int p1), .val (.int p2), .val (.int p3), .val (.int (3 : Int32)), .val (.int (0 : Int32)), .val (.int xc0), .val (.int xc1), .val (.int xc2), .val (.ref rc), .val (.ref sx), .val (.ref re), .val (.int zp2), .unset] [(.int (10 : Int32)), (.int zp2), (.ref re)])) rfl rfl (hb hby at_179)
        refine own_Go.st st176 ?_
        have N176 := Fr.snoc X176 N174 n0_re
        have a176 := own_Ar.set ap174 W176
        have zz177 : n0 ≤ Array.size h176 := Nat.le_trans zz175 (Nat.le_of_eq (Wr.size W176).symm)
        have kk177 : Keep h0 h176 [] := kk175.wr W176 (Or.inr b_re)
        have hk177 : Array.size h0 ≤ Array.size h176 := Nat.le_trans hk175 (Nat.le_of_eq (Wr.size W176).symm)
        show own_Go p e below _ (T176.setTop (mkF m 180 #[.val (.int p0), .val (.int p1), .val (.int p2), .val (.int p3), .val (.int (3 : Int32)), .val (.int (0 : Int32)), .val (.int xc0), .val (.int xc1), .val (.int xc2), .val (.ref rc), .val (.ref sx), .val (.ref re), .val (.int zp2), .unset] []))
        have afe : own_Ar Z h176 re .byte 8 (own_by (((([10] ++ own_p1 xc0) ++ own_p1 xc1) ++ own_p1 xc2) ++ [10])) := a176.congr fun j _ => own_by_snoc10 _ j
        have hzl : (zp2 + (1 : Int32)).toInt = (((((([10] ++ own_p1 xc0) ++ own_p1 xc1) ++ own_p1 xc2) ++ [10]).length : Nat) : Int) := by rw [List.length_append]; exact own_inc lp174 (by first | omega | (simp only [List.length_append, List.length_cons, List.length_nil] <;> omega))
        refine own_Go.st (fun _ kt => XS.iload X176.here hx rfl (hb hby at_180) rfl kt) ?_
        show own_Go p e below _ (T176.setTop (mkF m 182 #[.val (.int p0), .val (.int p1), .val (.int p2), .val (.int p3), .val (.int (3 : Int32)), .val (.int (0 : Int32)), .val (.int xc0), .val (.int xc1), .val (.int xc2), .val (.ref rc), .val (.ref sx), .val (.ref re), .val (.int zp2), .unset] [(.int zp2)]))
        refine own_Go.st (fun _ kt => XS.iconst X176.here hx rfl (hb hby at_182) kt) ?_
        show own_Go p e below _ (T176.setTop (mkF m 183 #[.val (.int p0), .val (.int p1), .val (.int p2), .val (.int p3), .val (.int (3 : Int32)), .val (.int (0 : Int32)), .val (.int xc0), .val (.int xc1), .val (.int xc2), .val (.ref rc), .val (.ref sx), .val (.ref re), .val (.int zp2), .unset] [(.int (1 : Int32)), (.int zp2)]))
        refine own_Go.st (fun _ kt => XS.iadd X176.here hx rfl (hb hby at_183) rfl kt) ?_
        show own_Go p e below _ (T176.setTop (mkF m 184 #[.val (.int p0), .val (.int p1), .val (.int p2), .val (.int p3), .val (.int (3 : Int32)), .val (.int (0 : Int32)), .val (.int xc0), .val (.int xc1), .val (.int xc2), .val (.ref rc), .val (.ref sx), .val (.ref re), .val (.int zp2), .unset] [(.int (zp2 + (1 : Int32)))]))
        refine own_Go.st (fun _ kt => XS.istore X176.here hx rfl (hb hby at_184) rfl (l' := #[.val (.int p0), .val (.int p1), .val (.int p2), .val (.int p3), .val (.int (3 : Int32)), .val (.int (0 : Int32)), .val (.int xc0), .val (.int xc1), .val (.int xc2), .val (.ref rc), .val (.ref sx), .val (.ref re), .val (.int (zp2 + (1 : Int32))), .unset]) rfl kt) ?_
        show own_Go p e below _ (T176.setTop (mkF m 186 #[.val (.int p0), .val (.int p1), .val (.int p2), .val (.int p3), .val (.int (3 : Int32)), .val (.int (0 : Int32)), .val (.int xc0), .val (.int xc1), .val (.int xc2), .val (.ref rc), .val (.ref sx), .val (.ref re), .val (.int (zp2 + (1 : Int32))), .unset] []))
        refine own_Go.st (fun _ kt => XS.aload X176.here hx rfl (hb hby at_186) rfl rfl kt) ?_
        show own_Go p e below _ (T176.setTop (mkF m 188 #[.val (.int p0), .val (.int p1), .val (.int p2), .val (.int p3), .val (.int (3 : Int32)), .val (.int (0 : Int32)), .val (.int xc0), .val (.int xc1), .val (.int xc2), .val (.ref rc), .val (.ref sx), .val (.ref re), .val (.int (zp2 + (1 : Int32))), .unset] [(.ref sx)]))
        refine own_Go.st (fun _ kt => XS.iload X176.here hx rfl (hb hby at_188) rfl kt) ?_
        show own_Go p e below _ (T176.setTop (mkF m 190 #[.val (.int p0), .val (.int p1), .val (.int p2), .val (.int p3), .val (.int (3 : Int32)), .val (.int (0 : Int32)), .val (.int xc0), .val (.int xc1), .val (.int xc2), .val (.ref rc), .val (.ref sx), .val (.ref re), .val (.int (zp2 + (1 : Int32))), .unset] [(.int (0 : Int32)), (.ref sx)]))
        have f178 := ((((((fsl.1.ext E147).wr W168).keep KF170).keep KF172).keep KF174).wr W176)
        have f179 := ((((((fsl.2.1.ext E147).other W168 (Or.inl ne_sx_re)).keep KF170 (ninS ne_sx_re nin0)).keep KF172 (ninS ne_sx_re nin0)).keep KF174 (ninS ne_sx_re nin0)).other W176 (Or.inl ne_sx_re))
        have f180 := ((((((fsl.2.2.1.ext E147).other W168 (Or.inl ne_sx_re)).keep KF170 (ninS ne_sx_re nin0)).keep KF172 (ninS ne_sx_re nin0)).keep KF174 (ninS ne_sx_re nin0)).other W176 (Or.inl ne_sx_re))
        have f181 := ((((((fsl.2.2.2.ext E147).other W168 ne_rb_re).keep KF170 (ninS ne_rb_re nin0)).keep KF172 (ninS ne_rb_re nin0)).keep KF174 (ninS ne_rb_re nin0)).other W176 ne_rb_re)
        have f182 := ((own_stakeep (own_stakeep (own_stakeep (((own_stakeep f144 KF145 (own_nst A141)).ext E147).wr W168) KF170 (own_nstA ae0)) KF172 (own_nstA ap170)) KF174 (own_nstA ap172)).wr W176)
        have f183 := ((own_stakeep (own_stakeep (own_stakeep (((own_stakeep (((((sU.ext E133).wr W135).wr W137).wr W139).ext E141) KF145 (own_nst A141)).ext E147).wr W168) KF170 (own_nstA ae0)) KF172 (own_nstA ap170)) KF174 (own_nstA ap172)).wr W176)
        have f184 := ((own_stakeep (own_stakeep (own_stakeep (((own_stakeep (((((sI.ext E133).wr W135).wr W137).wr W139).ext E141) KF145 (own_nst A141)).ext E147).wr W168) KF170 (own_nstA ae0)) KF172 (own_nstA ap170)) KF174 (own_nstA ap172)).wr W176)
        obtain ⟨_, _, ⟨T185, L185, k185, n185⟩, -, X185, hS185, hgr185, ⟨Lc185, hQ185, l185, y185, z185, ib185⟩, st185⟩ := callSS X176 hx (y := (⟨"com/example/marshal/marshal/pipelines/LogLines", "line", "(Ljava/lang/String;Z)[B"⟩ : MethodName)) hown (mvT hZ (own_w hw 22 rfl)) (mvT hZ (own_w hw 23 rfl)) (mvT hZ (own_w hw 24 rfl)) (mvT hZ (own_w hw 25 rfl)) (by decide) (own_backSI (W := 0) (own_line l Z a0 hw [] sx rb (0 : Int32) [10] [xc0.toInt8, xc1.toInt8, xc2.toInt8] ru zc [] h176 (Array.size h176) (Nat.le_refl _) ⟨f178, f179, f180, f181⟩ (Nat.le_of_ble_eq_true rfl) (Or.inr ⟨rfl, rfl⟩) f182 hzc f183 f184 (fun b cl q => (kk177).2.1 b cl (hkp b cl q) List.not_mem_nil) heldN hcw (by decide) rfl) hZ (own_w hw 25 rfl) (own_w hw 24 rfl) (by decide) (by decide) hIB) (g := (mkF m 190 #[.val (.int p0), .val (.int p1), .val (.int p2), .val (.int p3), .val (.int (3 : Int32)), .val (.int (0 : Int32)), .val (.int xc0), .val (.int xc1), .val (.int xc2), .val (.ref rc), .val (.ref sx), .val (.ref re), .val (.int (zp2 + (1 : Int32))), .unset] [(.int (0 : Int32)), (.ref sx)])) rfl (by rw [hml]; rfl) (argsL := [(.ref sx), (.int (0 : Int32))]) (rest := []) (lenOf own_pd31 rfl) rfl (by show 2 * 0 + _ ≤ _; exact Nat.le_of_eq rfl) (hb hby at_190) (fun _ _ => ⟨rfl, e176, (by decide : 4 + 12 ≤ _), (by decide : 23 + 120 ≤ _)⟩)
        dsimp only [Pt.U, Pt.locs, Pt.cells, Pt.slots] at X185 l185 y185 z185 st185 hQ185 hS185 hgr185 ib185
        subst l185 y185 z185
        obtain ⟨rn, rfl, N185q, an185, KF185⟩ := hQ185
        have N185 := Fr.app N176 (fun y hy => Nat.le_trans zz177 (N185q y hy))
        refine own_Go.st (fun _ kt => st185.trans kt) ?_
        have hZ185 : Z.Warmed39 (s.setVm T185.vm).vm := State.Warmed39.trans (t := s.setVm s.vm) hZ hS185.1
        have ho185 : (s.setVm T185.vm).vm.findClass "com/example/marshal/marshal/pipelines/LogLinesLinePinLaw" = some m.cls := by rw [show (s.setVm T185.vm).vm = T185.vm from rfl, hS185.1.alike.findClass]; exact hown
        have hT185 : s.Since T185.vm (Array.size T185.heap) := State.Since.trans hS0 hS185 (Nat.le_trans hk177 (Nat.le_trans (Nat.le_of_eq (congrArg Array.size e176).symm) hgr185))
        have zz186 : n0 ≤ Array.size T185.heap := Nat.le_trans zz177 KF185.1
        have kk186 : Keep h0 T185.heap [] := kk177.trans KF185 all0
        show own_Go p e below _ (T185.setTop (mkF m 193 #[.val (.int p0), .val (.int p1), .val (.int p2), .val (.int p3), .val (.int (3 : Int32)), .val (.int (0 : Int32)), .val (.int xc0), .val (.int xc1), .val (.int xc2), .val (.ref rc), .val (.ref sx), .val (.ref re), .val (.int (zp2 + (1 : Int32))), .unset] [(.ref rn)]))
        have hee : own_enc ([10] ++ [xc0.toInt8, xc1.toInt8, xc2.toInt8] ++ [10]) = (((([10] ++ own_p1 xc0) ++ own_p1 xc1) ++ own_p1 xc2) ++ [10]) := by simp only [List.cons_append, List.nil_append, List.append_nil, List.append_assoc, own_enc_cons, own_enc_nil, own_e1_ten, own_e1p1 hC0, own_e1p1 hC1, own_e1p1 hC2]
        rw [hee] at an185
        refine own_Go.st (fun _ kt => XS.astore X185.here hx rfl (hb hby at_193) rfl rfl (l' := #[.val (.int p0), .val (.int p1), .val (.int p2), .val (.int p3), .val (.int (3 : Int32)), .val (.int (0 : Int32)), .val (.int xc0), .val (.int xc1), .val (.int xc2), .val (.ref rc), .val (.ref sx), .val (.ref re), .val (.int (zp2 + (1 : Int32))), .val (.ref rn)]) rfl kt) ?_
        show own_Go p e below _ (T185.setTop (mkF m 195 #[.val (.int p0), .val (.int p1), .val (.int p2), .val (.int p3), .val (.int (3 : Int32)), .val (.int (0 : Int32)), .val (.int xc0), .val (.int xc1), .val (.int xc2), .val (.ref rc), .val (.ref sx), .val (.ref re), .val (.int (zp2 + (1 : Int32))), .val (.ref rn)] []))
        refine own_Go.st (fun _ kt => XS.aload X185.here hx rfl (hb hby at_195) rfl rfl kt) ?_
        show own_Go p e below _ (T185.setTop (mkF m 197 #[.val (.int p0), .val (.int p1), .val (.int p2), .val (.int p3), .val (.int (3 : Int32)), .val (.int (0 : Int32)), .val (.int xc0), .val (.int xc1), .val (.int xc2), .val (.ref rc), .val (.ref sx), .val (.ref re), .val (.int (zp2 + (1 : Int32))), .val (.ref rn)] [(.ref rn)]))
        refine own_Go.st (fun _ kt => XS.aload X185.here hx rfl (hb hby at_197) rfl rfl kt) ?_
        show own_Go p e below _ (T185.setTop (mkF m 199 #[.val (.int p0), .val (.int p1), .val (.int p2), .val (.int p3), .val (.int (3 : Int32)), .val (.int (0 : Int32)), .val (.int xc0), .val (.int xc1), .val (.int xc2), .val (.ref rc), .val (.ref sx), .val (.ref re), .val (.int (zp2 + (1 : Int32))), .val (.ref rn)] [(.ref re), (.ref rn)]))
        refine own_Go.st (fun _ kt => XS.iload X185.here hx rfl (hb hby at_199) rfl kt) ?_
        show own_Go p e below _ (T185.setTop (mkF m 201 #[.val (.int p0), .val (.int p1), .val (.int p2), .val (.int p3), .val (.int (3 : Int32)), .val (.int (0 : Int32)), .val (.int xc0), .val (.int xc1), .val (.int xc2), .val (.ref rc), .val (.ref sx), .val (.ref re), .val (.int (zp2 + (1 : Int32))), .val (.ref rn)] [(.int (zp2 + (1 : Int32))), (.ref re), (.ref rn)]))
        have f187 := (afe.keep KF185 nin0)
        obtain ⟨_, _, ⟨T188, L188, k188, n188⟩, -, X188, ⟨Lc188, hQ188, l188, y188, z188⟩, st188⟩ := Jvm.LawKit.callS X185 hx (y := (⟨"com/example/marshal/marshal/pipelines/LogLinesLinePinLaw", "same", "([B[BI)Z"⟩ : MethodName)) ho185 (mvT hZ185 (own_w hw 169 rfl)) (mvT hZ185 (own_w hw 170 rfl)) (mvT hZ185 (own_w hw 171 rfl)) (mvT hZ185 (own_w hw 172 rfl)) (by decide) (backOf (W := 0) (own_same l Z a0 hw [] rn re (zp2 + (1 : Int32)) (((([10] ++ own_p1 xc0) ++ own_p1 xc1) ++ own_p1 xc2) ++ [10]) T185.heap n0 zz186 an185 f187 hzl) hZ185 (own_w hw 172 rfl) (own_w hw 171 rfl) (by decide) (by decide)) (g := (mkF m 201 #[.val (.int p0), .val (.int p1), .val (.int p2), .val (.int p3), .val (.int (3 : Int32)), .val (.int (0 : Int32)), .val (.int xc0), .val (.int xc1), .val (.int xc2), .val (.ref rc), .val (.ref sx), .val (.ref re), .val (.int (zp2 + (1 : Int32))), .val (.ref rn)] [(.int (zp2 + (1 : Int32))), (.ref re), (.ref rn)])) rfl (by rw [hml]; rfl) (argsL := [(.ref rn), (.ref re), (.int (zp2 + (1 : Int32)))]) (rest := []) (lenOf own_pd32 rfl) rfl (by show 2 * 0 + _ ≤ _; exact Nat.le_of_eq rfl) (hb hby at_201) (fun _ _ => ⟨rfl, rfl, (by decide : 16 + 0 ≤ _), (by decide : 143 + 0 ≤ _)⟩)
        dsimp only [Pt.U, Pt.locs, Pt.cells, Pt.slots] at X188 l188 y188 z188 st188 hQ188
        subst l188 y188 z188
        obtain ⟨rfl, N188q, hh188⟩ := hQ188
        have N188 := Fr.app N185 N188q
        refine own_Go.st (fun _ kt => st188 _ kt) ?_
        show own_Go p e below _ (T188.setTop (mkF m 204 #[.val (.int p0), .val (.int p1), .val (.int p2), .val (.int p3), .val (.int (3 : Int32)), .val (.int (0 : Int32)), .val (.int xc0), .val (.int xc1), .val (.int xc2), .val (.ref rc), .val (.ref sx), .val (.ref re), .val (.int (zp2 + (1 : Int32))), .val (.ref rn)] [(.int (1 : Int32))]))
        exact own_retWZ X188 hx Bd.notSynchronized Bd.returns hT185 (Nat.le_trans (Nat.le_of_eq (congrArg Array.size rfl)) (Nat.le_of_eq (congrArg Array.size hh188).symm)) (Or.inr rfl) (hb hby at_204) (by decide) (by decide) ⟨rfl, N188⟩
  by_cases hc10 : (((p0.toUInt32 >>> ((2 : Int32) &&& 31).toUInt32).toInt32) &&& (1 : Int32)) = (0 : Int32)
  · refine own_Go.st (fun _ kt => XS.ifYes X0.here hx rfl (pc0 := 10) (pc' := 17) rfl (hb hby at_10) rfl ((if0 _ _).trans (teq hc10).1) (by decide) (by decide) kt) ?_
    show own_Go p e below _ (s₁.setTop (mkF m 17 #[.val (.int p0), .val (.int p1), .val (.int p2), .val (.int p3), .val (.int (p0 &&& (3 : Int32))), .unset, .unset, .unset, .unset, .unset, .unset, .unset, .unset, .unset] []))
    refine own_Go.st (fun _ kt => XS.iconst X0.here hx rfl (hb hby at_17) kt) ?_
    show own_Go p e below _ (s₁.setTop (mkF m 18 #[.val (.int p0), .val (.int p1), .val (.int p2), .val (.int p3), .val (.int (p0 &&& (3 : Int32))), .unset, .unset, .unset, .unset, .unset, .unset, .unset, .unset, .unset] [(.int (0 : Int32))]))
    exact J18 _ _ X0 e0 N0 _ (Or.inr rfl)
  · refine own_Go.st (fun _ kt => XS.ifNo X0.here hx rfl (hb hby at_10) rfl ((if0 _ _).trans (feq hc10).1) kt) ?_
    show own_Go p e below _ (s₁.setTop (mkF m 13 #[.val (.int p0), .val (.int p1), .val (.int p2), .val (.int p3), .val (.int (p0 &&& (3 : Int32))), .unset, .unset, .unset, .unset, .unset, .unset, .unset, .unset, .unset] []))
    refine own_Go.st (fun _ kt => XS.iconst X0.here hx rfl (hb hby at_13) kt) ?_
    show own_Go p e below _ (s₁.setTop (mkF m 14 #[.val (.int p0), .val (.int p1), .val (.int p2), .val (.int p3), .val (.int (p0 &&& (3 : Int32))), .unset, .unset, .unset, .unset, .unset, .unset, .unset, .unset, .unset] [(.int (1 : Int32))]))
    refine own_Go.st (fun _ kt => XS.goto X0.here hx rfl (pc0 := 14) (pc' := 18) rfl (hb hby at_14) (by decide) (by decide) kt) ?_
    show own_Go p e below _ (s₁.setTop (mkF m 18 #[.val (.int p0), .val (.int p1), .val (.int p2), .val (.int p3), .val (.int (p0 &&& (3 : Int32))), .unset, .unset, .unset, .unset, .unset, .unset, .unset, .unset, .unset] [(.int (1 : Int32))]))
    exact J18 _ _ X0 e0 N0 _ (Or.inl rfl)
set_option maxRecDepth 65536 in
set_option maxHeartbeats 40000000 in
theorem own_comes_1 {Post : Tables → Env → Array Value → State → Outcome → State → Prop} (hpost : ∀ tb e args s v u, (limb_1_1.after args s (.returned v) u = true ∧ limb_1_2.after args s (.returned v) u = true ∧ True) → ReturnedEndW s (.returned v) u (Jvm.fieldLocs frame_1_writes args s ++ Jvm.arrayLocs frame_1_arrays args s ++ Jvm.staticLocs frame_1_statics s) 40 2368 → Post tb e args s (.returned v) u) :
    ArmFor flags0 classFile x code maxLocals ret World_1 tables_1 room_1 Calls_1 rest_1 Pre_1 Post := by
  intro l hfl _ _ p e ha hc hk s m args below hf hA hF happ hP
  obtain ⟨hcalls, hrest, hpre⟩ := hP
  obtain ⟨-, -, -, hnamed, -, -, -, hat⟩ := (Spec.applies_iff hf).mp happ
  obtain ⟨hg, hn⟩ := and_e (Cond.before_iff.mp (show (Jvm.Cond.and given_1 narrow_1).before args s = true from hpre))
  obtain ⟨hg0, hg1⟩ := and_e hg
  obtain ⟨ha0, hb0⟩ := and_e hg1
  obtain ⟨ha1, hb1⟩ := and_e hb0
  obtain ⟨ha2, hb2⟩ := and_e hb1
  obtain ⟨w0, w1, w2, w3, rfl⟩ : ∃ w0 w1 w2 w3 : Value, args = #[w0, w1, w2, w3] := by
    have hs : args.size = 4 := by simpa [Cond.value, given_1] using hg0
    obtain ⟨L⟩ := args
    match L, hs with
    | [w0, w1, w2, w3], _ => exact ⟨w0, w1, w2, w3, rfl⟩
  have hw := fun d (hd : d ∈ tables_1) => atoms_spec (ws := Jvm.Cond.code x code maxLocals ret :: tables_1) hat d (List.mem_cons_of_mem _ hd)
  have hfit : Fit s := fun {y c} hc i hi => by
    obtain ⟨ha, rfl⟩ := Array.getElem?_eq_some_iff.mp hc
    have q := List.all_eq_true.mp ((Array.all_eq_true_iff_forall_mem.mp hF) _ (Array.getElem_mem ha)) i (List.mem_range.mpr hi)
    simpa [Array.getElem?_eq_getElem hi] using q
  obtain ⟨p0, ep0⟩ := is_v ha0
  obtain rfl : w0 = (.int p0) := Option.some.inj ep0
  obtain ⟨p1, ep1⟩ := is_v ha1
  obtain rfl : w1 = (.int p1) := Option.some.inj ep1
  obtain ⟨p2, ep2⟩ := is_v ha2
  obtain rfl : w2 = (.int p2) := Option.some.inj ep2
  obtain ⟨p3, ep3⟩ := is_v hb2
  obtain rfl : w3 = (.int p3) := Option.some.inj ep3
  obtain ⟨hsets, hown0⟩ := atoms_of _ (rest_1_c_eq ▸ (show rest_1_c.before _ s = true from hrest))
  obtain ⟨zc, v_z⟩ := is_v (Cond.before_iff.mp (hsets _ (List.mem_of_getElem? (i := 1) rfl)))
  have cs := Sta.start v_z (Or.inl (hsets _ (List.mem_of_getElem? (i := 0) rfl)))
  have hzc : ¬ zc = 0 := fun q => by
    subst q
    have h := (Cond.before_iff.mp (hsets _ (List.mem_of_getElem? (i := 2) rfl)))
    rw [show (Cond.not (Cond.eq (Term.static "java/lang/String" "COMPACT_STRINGS" "Z") (Term.int 0))).value _ s none s [] = ((Cond.eq (Term.static "java/lang/String" "COMPACT_STRINGS" "Z") (Term.int 0)).value _ s none s []).map (!·) from rfl, Cond.eq_ints v_z (Term.int_eval (0))] at h
    simp at h
  obtain ⟨ru, v_i⟩ := exa_v (Cond.before_iff.mp (hsets _ (List.mem_of_getElem? (i := 17) rfl)))
  have sI := Sta.start v_i (Or.inl (hsets _ (List.mem_of_getElem? (i := 12) rfl)))
  have sU := Sta.start (own_eqref v_i rfl (Cond.before_iff.mp (hsets _ (List.mem_of_getElem? (i := 13) rfl)))) (Or.inl (hsets _ (List.mem_of_getElem? (i := 10) rfl)))
  obtain ⟨n, o, h1, h2, h3, _, L, rfl, ⟨rfl, N⟩, hq⟩ := own_law l s _ hw tables_1 p0 p1 p2 p3 ru zc s.heap s.heap.size (Nat.le_refl _) cs hzc sU sI (fun _ _ q => q) (hcalls.1 ("java/lang/String", 7) (by decide)) (hcalls.1 ("com/example/marshal/marshal/pipelines/LogLines", 20) (by decide)) (hsets _ (List.mem_of_getElem? (i := 2) rfl)) p e ha hc hk s m _ below hf ((Spec.applies_iff_loose hf).mp happ).1 ⟨rfl, State.Warmed39.refl s, rfl, IB.start⟩ trivial
  refine ⟨n, _, h1, h2, h3, hpost _ _ _ _ _ _ ⟨Cond.after_iff.mpr rfl, Cond.after_iff.mpr (eq_i res_at (Term.int_eval (1)) rfl), trivial⟩ ⟨hq.1, hq.2.1, hq.2.2.1, (hq.2.2.2.sift fun y hy => Or.inr (N y hy)).mono (by decide) (by decide)⟩⟩
theorem main_1_1 : Claimed_1_1 := own_comes_1 fun _ _ _ _ _ _ h hF => ⟨h.1, hF⟩
theorem main_1_2 : Claimed_1_2 := own_comes_1 fun _ _ _ _ _ _ h hF => ⟨h.2.1, hF⟩

end Jvm.Pilot.@@N@@
namespace Jvm.Pilot.@@N@@
open Jvm Jvm.ClassFile Sem Op Lib Jvm.Free Jvm.Stand Jvm.Pilot.@@N@@.Jvm.D
/-! MADE BY PROGRAM (witnessworld.py) out of the Statement's table words and the real class files: 32 classes; the members and pool entries that the words name. The judged class is class 1, her method 1. -/
namespace start1
open Jvm.ClassFile
def u (s : String) : CpInfo := .utf8 (stringToUtf16 s)
/-- a pool by its gaps: so many unusable entries, then the entry; so many at the end -/
def gap : Nat → List CpInfo → List CpInfo
  | 0, r => r
  | n + 1, r => .unusable :: gap n r
def poolList (es : List (Nat × CpInfo)) (last : Nat) : List CpInfo := es.foldr (fun e r => gap e.1 (e.2 :: r)) (gap last [])
def pool (es : List (Nat × CpInfo)) (last : Nat) : Array CpInfo := ⟨poolList es last⟩
def fileOf (pool : Array CpInfo) (this : Nat) (attrs : Array Attribute := #[]) (ms : Array MethodInfo := #[]) (fl : Nat := 33) (sup : Nat := 0) (ifs : Array Nat := #[]) (fds : Array FieldInfo := #[]) : ClassFile where
  minorVersion := 0
  majorVersion := 65
  constantPool := pool
  accessFlags := fl
  thisClass := this
  superClass := sup
  interfaces := ifs
  fields := fds
  methods := ms
  attributes := attrs
def plain (name : String) (sup : Option ClassId) : Class where
  name := name
  kind := .ordinary
  loader := none
  accessFlags := 33
  super := sup
  interfaces := #[]
  cf := none
  fields := #[]
  methods := #[]
  instanceTypes := #[]
  staticTypes := #[]
  resolved := #[]
  callSites := []
  init := .initialized
  statics := none
  mirror := none

def pool0 : Array CpInfo := pool [(5, u "<init>"), (0, u "()V"), (1, .class_ 10), (1, u "java/lang/Object"), (85, u "clone"), (0, u "()Ljava/lang/Object;")] 26

def k0c0 : Code := { maxStack := 0, maxLocals := 1, code := object_method_1_code, exceptionTable := #[], attributes := #[] }
def k0m0 : Method := { name := "<init>", desc := "()V", sig := { parameters := [], returnType := none }, accessFlags := 1, code := some k0c0 }
def k0m1 : Method := { name := "clone", desc := "()Ljava/lang/Object;", sig := { parameters := [], returnType := some (.object "java/lang/Object") }, accessFlags := 260, code := none }
/-- java/lang/Object -/
def k0 : Class := { plain "java/lang/Object" none with
  accessFlags := 33
  interfaces := #[]
  cf := some (fileOf pool0 8 #[] #[{ accessFlags := 1, nameIndex := 5, descriptorIndex := 6, attributes := #[] }, { accessFlags := 260, nameIndex := 96, descriptorIndex := 97, attributes := #[] }] 33 0 #[] #[])
  fields := #[]
  methods := #[k0m0, k0m1]
  instanceTypes := #[]
  staticTypes := #[]
  resolved := Array.replicate 124 none
  statics := none }

def pool1 : Array CpInfo := pool [(2, .class_ 4), (1, u "java/lang/Object"), (0, u "<init>"), (0, u "()V"), (0, .class_ 8), (0, u "java/lang/String"), (0, .methodref 7 10), (0, .nameAndType 5 11), (0, u "([C)V"), (0, .methodref 13 14), (0, .class_ 15), (0, .nameAndType 16 17), (0, u "com/example/marshal/marshal/pipelines/LogLinesLinePinLaw"), (0, u "put"), (0, u "([BIC)I"), (0, .methodref 19 20), (0, .class_ 21), (0, .nameAndType 22 23), (0, u "com/example/marshal/marshal/pipelines/LogLines"), (0, u "line"), (0, u "(Ljava/lang/String;Z)[B"), (0, .methodref 13 25), (0, .nameAndType 26 27), (0, u "same"), (0, u "([B[BI)Z"), (0, .methodref 13 29), (0, .nameAndType 30 31), (0, u "at"), (0, u "([B[BII)Z"), (2, u "law"), (0, u "(IIII)Z")] 7

def k1m0 : Method := { name := "<init>", desc := "()V", sig := { parameters := [], returnType := none }, accessFlags := 1, code := none }
def k1c1 : Code := { maxStack := 3, maxLocals := 14, code := code, exceptionTable := #[], attributes := #[] }
def k1m1 : Method := { name := "law", desc := "(IIII)Z", sig := { parameters := [.int, .int, .int, .int], returnType := some .boolean }, accessFlags := 9, code := some k1c1 }
def k1c2 : Code := { maxStack := 5, maxLocals := 3, code := method_3_code, exceptionTable := #[], attributes := #[] }
def k1m2 : Method := { name := "put", desc := "([BIC)I", sig := { parameters := [(.array .byte), .int, .char], returnType := some .int }, accessFlags := 10, code := some k1c2 }
def k1c3 : Code := { maxStack := 4, maxLocals := 3, code := method_4_code, exceptionTable := #[], attributes := #[] }
def k1m3 : Method := { name := "same", desc := "([B[BI)Z", sig := { parameters := [(.array .byte), (.array .byte), .int], returnType := some .boolean }, accessFlags := 10, code := some k1c3 }
def k1c4 : Code := { maxStack := 3, maxLocals := 4, code := method_5_code, exceptionTable := #[], attributes := #[] }
def k1m4 : Method := { name := "at", desc := "([B[BII)Z", sig := { parameters := [(.array .byte), (.array .byte), .int, .int], returnType := some .boolean }, accessFlags := 10, code := some k1c4 }
/-- com/example/marshal/marshal/pipelines/LogLinesLinePinLaw -/
def k1 : Class := { plain "com/example/marshal/marshal/pipelines/LogLinesLinePinLaw" (some 0) with
  accessFlags := 49
  interfaces := #[]
  cf := some (fileOf pool1 13 #[] #[{ accessFlags := 1, nameIndex := 5, descriptorIndex := 6, attributes := #[] }, { accessFlags := 9, nameIndex := 34, descriptorIndex := 35, attributes := #[] }, { accessFlags := 10, nameIndex := 16, descriptorIndex := 17, attributes := #[] }, { accessFlags := 10, nameIndex := 26, descriptorIndex := 27, attributes := #[] }, { accessFlags := 10, nameIndex := 30, descriptorIndex := 31, attributes := #[] }] 49 2 #[] #[])
  fields := #[]
  methods := #[k1m0, k1m1, k1m2, k1m3, k1m4]
  instanceTypes := #[]
  staticTypes := #[]
  resolved := Array.replicate 43 none
  statics := none }

def pool2 : Array CpInfo := pool [(1, .class_ 2), (0, u "java/io/Serializable"), (0, .class_ 4), (0, u "java/lang/Object")] 2

/-- java/io/Serializable -/
def k2 : Class := { plain "java/io/Serializable" (some 0) with
  accessFlags := 1537
  interfaces := #[]
  cf := some (fileOf pool2 1 #[] #[] 1537 3 #[] #[])
  fields := #[]
  methods := #[]
  instanceTypes := #[]
  staticTypes := #[]
  resolved := Array.replicate 7 none
  statics := none }

def pool3 : Array CpInfo := pool [(1, .class_ 2), (0, u "java/lang/Comparable"), (0, .class_ 4), (0, u "java/lang/Object")] 7

/-- java/lang/Comparable -/
def k3 : Class := { plain "java/lang/Comparable" (some 0) with
  accessFlags := 1537
  interfaces := #[]
  cf := some (fileOf pool3 1 #[] #[] 1537 3 #[] #[])
  fields := #[]
  methods := #[]
  instanceTypes := #[]
  staticTypes := #[]
  resolved := Array.replicate 12 none
  statics := none }

def pool4 : Array CpInfo := pool [(2, .class_ 4), (1, u "java/lang/CharSequence"), (42, .class_ 48), (0, u "java/lang/CharSequence$1CodePointIterator"), (10, .class_ 60), (0, u "java/lang/CharSequence$1CharIterator"), (5, .class_ 67), (0, u "java/lang/Object")] 63

/-- java/lang/CharSequence -/
def k4 : Class := { plain "java/lang/CharSequence" (some 0) with
  accessFlags := 1537
  interfaces := #[]
  cf := some (fileOf pool4 2 #[.nestMembers #[47, 59]] #[] 1537 66 #[] #[])
  fields := #[]
  methods := #[]
  instanceTypes := #[]
  staticTypes := #[]
  resolved := Array.replicate 131 none
  statics := none }

def pool5 : Array CpInfo := pool [(1, .class_ 2), (0, u "java/lang/constant/Constable"), (0, .class_ 4), (0, u "java/lang/Object")] 6

/-- java/lang/constant/Constable -/
def k5 : Class := { plain "java/lang/constant/Constable" (some 0) with
  accessFlags := 1537
  interfaces := #[]
  cf := some (fileOf pool5 1 #[] #[] 1537 3 #[] #[])
  fields := #[]
  methods := #[]
  instanceTypes := #[]
  staticTypes := #[]
  resolved := Array.replicate 11 none
  statics := none }

def pool6 : Array CpInfo := pool [(1, .class_ 2), (0, u "java/lang/constant/ConstantDesc"), (0, .class_ 4), (0, u "java/lang/Object")] 32

/-- java/lang/constant/ConstantDesc -/
def k6 : Class := { plain "java/lang/constant/ConstantDesc" (some 0) with
  accessFlags := 1537
  interfaces := #[]
  cf := some (fileOf pool6 1 #[] #[] 1537 3 #[] #[])
  fields := #[]
  methods := #[]
  instanceTypes := #[]
  staticTypes := #[]
  resolved := Array.replicate 37 none
  statics := none }

def pool7 : Array CpInfo := pool [(1, .methodref 2 3), (0, .class_ 4), (0, .nameAndType 5 6), (0, u "java/lang/Object"), (0, u "<init>"), (0, u "()V"), (0, .string 8), (0, u ""), (0, .fieldref 10 11), (0, .class_ 12), (0, .nameAndType 13 14), (0, u "java/lang/String"), (0, u "value"), (0, u "[B"), (0, .fieldref 10 16), (0, .nameAndType 17 18), (0, u "coder"), (0, u "B"), (2, u "hash"), (0, u "I"), (2, u "hashIsZero"), (0, u "Z"), (0, .methodref 10 28), (0, .nameAndType 5 29), (0, u "([CIILjava/lang/Void;)V"), (8, .fieldref 10 39), (0, .nameAndType 40 26), (0, u "COMPACT_STRINGS"), (1, .class_ 44), (1, u "java/lang/StringUTF16"), (0, u "compress"), (1, .methodref 42 48), (0, .nameAndType 49 50), (0, u "coderFromArrayLen"), (0, u "([BI)B"), (3, .methodref 55 56), (0, .class_ 57), (0, .nameAndType 58 59), (0, u "java/util/Arrays"), (0, u "copyOfRange"), (0, u "([BII)[B"), (0, .methodref 42 61), (0, .nameAndType 62 63), (0, u "newBytesFor"), (0, u "(I)[B"), (22, .fieldref 87 88), (0, .class_ 89), (0, .nameAndType 90 91), (0, u "sun/nio/cs/UTF_8"), (0, u "INSTANCE"), (0, u "Lsun/nio/cs/UTF_8;"), (1, .class_ 95), (1, u "java/lang/StringCoding"), (6, .methodref 55 103), (0, .nameAndType 104 105), (0, u "copyOf"), (0, u "([BI)[B"), (22, .methodref 93 129), (0, .nameAndType 130 131), (0, u "hasNegatives"), (0, u "([BII)Z"), (10, u "()Z"), (34, .methodref 42 178), (0, .nameAndType 45 179), (0, u "([CII)[B"), (13, .class_ 195), (1, u "java/lang/System"), (16, .methodref 193 213), (0, .nameAndType 214 215), (0, u "arraycopy"), (0, u "(Ljava/lang/Object;ILjava/lang/Object;II)V"), (36, .methodref 10 253), (0, .nameAndType 254 255), (0, u "encodeUTF8"), (0, u "(B[BZ)[B"), (23, .methodref 280 281), (0, .class_ 14), (0, .nameAndType 282 283), (0, u "clone"), (0, u "()Ljava/lang/Object;"), (33, u "encode"), (16, u "()I"), (0, .methodref 10 336), (0, .nameAndType 17 337), (0, u "()B"), (2, u "()[B"), (148, .methodref 10 490), (0, .nameAndType 5 491), (0, u "(Ljava/lang/AbstractStringBuilder;Ljava/lang/Void;)V"), (1, .nameAndType 494 142), (0, u "isLatin1"), (11, .nameAndType 507 334), (0, u "length"), (24, u "getBytes"), (2, .methodref 10 536), (0, .nameAndType 317 537), (0, u "(Ljava/nio/charset/Charset;B[B)[B"), (11, .methodref 550 506), (0, .class_ 551), (0, u "java/lang/AbstractStringBuilder"), (0, .methodref 550 553), (0, .nameAndType 554 340), (0, u "getValue"), (20, .class_ 576), (0, u "java/lang/CharSequence"), (22, u "CASE_INSENSITIVE_ORDER"), (0, u "Ljava/util/Comparator;"), (220, u "([BIB)V"), (188, u "([C)V"), (36, .methodref 550 493), (53, u "serialPersistentFields"), (0, u "[Ljava/io/ObjectStreamField;"), (0, .class_ 1104), (0, u "java/lang/String$CaseInsensitiveComparator"), (1, .class_ 1107), (0, u "java/io/Serializable"), (0, .class_ 1109), (0, u "java/lang/Comparable"), (0, .class_ 1111), (0, u "java/lang/constant/Constable"), (0, .class_ 1113), (0, u "java/lang/constant/ConstantDesc"), (2, u "serialVersionUID"), (0, u "J"), (3, u "REPL"), (0, u "C"), (2, u "LATIN1"), (1, u "UTF16"), (105, u "(Ljava/lang/StringBuilder;)V"), (11, u "(Ljava/nio/charset/Charset;)[B")] 205

def k7m0 : Method := { name := "<init>", desc := "()V", sig := { parameters := [], returnType := none }, accessFlags := 1, code := none }
def k7c1 : Code := { maxStack := 5, maxLocals := 2, code := jdk_42_method_3_code, exceptionTable := #[], attributes := #[] }
def k7m1 : Method := { name := "<init>", desc := "([C)V", sig := { parameters := [(.array .char)], returnType := none }, accessFlags := 1, code := some k7c1 }
def k7c2 : Code := { maxStack := 4, maxLocals := 3, code := jdk_42_method_18_code, exceptionTable := #[], attributes := #[] }
def k7m2 : Method := { name := "encode", desc := "(Ljava/nio/charset/Charset;B[B)[B", sig := { parameters := [(.object "java/nio/charset/Charset"), .byte, (.array .byte)], returnType := some (.array .byte) }, accessFlags := 10, code := some k7c2 }
def k7c3 : Code := { maxStack := 5, maxLocals := 9, code := jdk_42_method_46_code, exceptionTable := #[], attributes := #[] }
def k7m3 : Method := { name := "encodeUTF8", desc := "(B[BZ)[B", sig := { parameters := [.byte, (.array .byte), .boolean], returnType := some (.array .byte) }, accessFlags := 10, code := some k7c3 }
def k7c4 : Code := { maxStack := 3, maxLocals := 2, code := jdk_42_method_53_code, exceptionTable := #[], attributes := #[] }
def k7m4 : Method := { name := "<init>", desc := "(Ljava/lang/StringBuilder;)V", sig := { parameters := [(.object "java/lang/StringBuilder")], returnType := none }, accessFlags := 1, code := some k7c4 }
def k7c5 : Code := { maxStack := 2, maxLocals := 1, code := jdk_42_method_54_code, exceptionTable := #[], attributes := #[] }
def k7m5 : Method := { name := "length", desc := "()I", sig := { parameters := [], returnType := some .int }, accessFlags := 1, code := some k7c5 }
def k7c6 : Code := { maxStack := 3, maxLocals := 2, code := jdk_42_method_64_code, exceptionTable := #[], attributes := #[] }
def k7m6 : Method := { name := "getBytes", desc := "(Ljava/nio/charset/Charset;)[B", sig := { parameters := [(.object "java/nio/charset/Charset")], returnType := some (.array .byte) }, accessFlags := 1, code := some k7c6 }
def k7c7 : Code := { maxStack := 5, maxLocals := 4, code := jdk_42_method_147_code, exceptionTable := #[], attributes := #[] }
def k7m7 : Method := { name := "getBytes", desc := "([BIB)V", sig := { parameters := [(.array .byte), .int, .byte], returnType := none }, accessFlags := 0, code := some k7c7 }
def k7c8 : Code := { maxStack := 4, maxLocals := 6, code := jdk_42_method_149_code, exceptionTable := #[], attributes := #[] }
def k7m8 : Method := { name := "<init>", desc := "([CIILjava/lang/Void;)V", sig := { parameters := [(.array .char), .int, .int, (.object "java/lang/Void")], returnType := none }, accessFlags := 2, code := some k7c8 }
def k7c9 : Code := { maxStack := 5, maxLocals := 5, code := jdk_42_method_150_code, exceptionTable := #[], attributes := #[] }
def k7m9 : Method := { name := "<init>", desc := "(Ljava/lang/AbstractStringBuilder;Ljava/lang/Void;)V", sig := { parameters := [(.object "java/lang/AbstractStringBuilder"), (.object "java/lang/Void")], returnType := none }, accessFlags := 0, code := some k7c9 }
def k7c10 : Code := { maxStack := 1, maxLocals := 1, code := jdk_42_method_152_code, exceptionTable := #[], attributes := #[] }
def k7m10 : Method := { name := "coder", desc := "()B", sig := { parameters := [], returnType := some .byte }, accessFlags := 0, code := some k7c10 }
/-- java/lang/String -/
def k7 : Class := { plain "java/lang/String" (some 0) with
  accessFlags := 49
  interfaces := #[2, 3, 4, 5, 6]
  cf := some (fileOf pool7 10 #[.nestMembers #[1103]] #[{ accessFlags := 1, nameIndex := 5, descriptorIndex := 6, attributes := #[] }, { accessFlags := 1, nameIndex := 5, descriptorIndex := 1010, attributes := #[] }, { accessFlags := 10, nameIndex := 317, descriptorIndex := 537, attributes := #[] }, { accessFlags := 10, nameIndex := 254, descriptorIndex := 255, attributes := #[] }, { accessFlags := 1, nameIndex := 5, descriptorIndex := 1233, attributes := #[] }, { accessFlags := 1, nameIndex := 507, descriptorIndex := 334, attributes := #[] }, { accessFlags := 1, nameIndex := 532, descriptorIndex := 1245, attributes := #[] }, { accessFlags := 0, nameIndex := 532, descriptorIndex := 821, attributes := #[] }, { accessFlags := 2, nameIndex := 5, descriptorIndex := 29, attributes := #[] }, { accessFlags := 0, nameIndex := 5, descriptorIndex := 491, attributes := #[] }, { accessFlags := 0, nameIndex := 17, descriptorIndex := 337, attributes := #[] }] 49 2 #[1106, 1108, 575, 1110, 1112] #[{ accessFlags := 18, nameIndex := 13, descriptorIndex := 14, attributes := #[] }, { accessFlags := 18, nameIndex := 17, descriptorIndex := 18, attributes := #[] }, { accessFlags := 2, nameIndex := 21, descriptorIndex := 22, attributes := #[] }, { accessFlags := 2, nameIndex := 25, descriptorIndex := 26, attributes := #[] }, { accessFlags := 26, nameIndex := 1116, descriptorIndex := 1117, attributes := #[] }, { accessFlags := 24, nameIndex := 40, descriptorIndex := 26, attributes := #[] }, { accessFlags := 26, nameIndex := 1101, descriptorIndex := 1102, attributes := #[] }, { accessFlags := 26, nameIndex := 1121, descriptorIndex := 1122, attributes := #[] }, { accessFlags := 25, nameIndex := 599, descriptorIndex := 600, attributes := #[] }, { accessFlags := 24, nameIndex := 1125, descriptorIndex := 18, attributes := #[] }, { accessFlags := 24, nameIndex := 1127, descriptorIndex := 18, attributes := #[] }])
  fields := #[{ name := "value", type := (.array .byte), accessFlags := 18, slot := 0, constantValue := 0 }, { name := "coder", type := .byte, accessFlags := 18, slot := 1, constantValue := 0 }, { name := "hash", type := .int, accessFlags := 2, slot := 2, constantValue := 0 }, { name := "hashIsZero", type := .boolean, accessFlags := 2, slot := 3, constantValue := 0 }, { name := "serialVersionUID", type := .long, accessFlags := 26, slot := 0, constantValue := 0 }, { name := "COMPACT_STRINGS", type := .boolean, accessFlags := 24, slot := 1, constantValue := 0 }, { name := "serialPersistentFields", type := (.array (.object "java/io/ObjectStreamField")), accessFlags := 26, slot := 2, constantValue := 0 }, { name := "REPL", type := .char, accessFlags := 26, slot := 3, constantValue := 0 }, { name := "CASE_INSENSITIVE_ORDER", type := (.object "java/util/Comparator"), accessFlags := 25, slot := 4, constantValue := 0 }, { name := "LATIN1", type := .byte, accessFlags := 24, slot := 5, constantValue := 0 }, { name := "UTF16", type := .byte, accessFlags := 24, slot := 6, constantValue := 0 }]
  methods := #[k7m0, k7m1, k7m2, k7m3, k7m4, k7m5, k7m6, k7m7, k7m8, k7m9, k7m10]
  instanceTypes := #[(.array .byte), .byte, .int, .boolean]
  staticTypes := #[.long, .boolean, (.array (.object "java/io/ObjectStreamField")), .char, (.object "java/util/Comparator"), .byte, .byte]
  resolved := Array.replicate 1451 none
  statics := some 0 }

def pool8 : Array CpInfo := pool [(2, .class_ 4), (0, .nameAndType 5 6), (0, u "java/lang/Object"), (0, u "<init>"), (0, u "()V"), (0, .class_ 8), (0, u "java/lang/StringBuilder"), (0, .methodref 7 3), (2, .methodref 7 13), (0, .nameAndType 14 15), (0, u "append"), (0, u "(Ljava/lang/String;)Ljava/lang/StringBuilder;"), (0, .methodref 7 17), (0, .nameAndType 18 19), (0, u "toString"), (0, u "()Ljava/lang/String;"), (0, .string 21), (0, u "\n"), (0, .fieldref 23 24), (0, .class_ 25), (0, .nameAndType 26 27), (0, u "java/nio/charset/StandardCharsets"), (0, u "UTF_8"), (0, u "Ljava/nio/charset/Charset;"), (0, .methodref 29 30), (0, .class_ 31), (0, .nameAndType 32 33), (0, u "java/lang/String"), (0, u "getBytes"), (0, u "(Ljava/nio/charset/Charset;)[B"), (0, .class_ 35), (0, u "com/example/marshal/marshal/pipelines/LogLines"), (0, u "SUCCEEDED"), (0, u "Ljava/lang/String;"), (7, u "line"), (0, u "(Ljava/lang/String;Z)[B")] 3

def k8m0 : Method := { name := "<init>", desc := "()V", sig := { parameters := [], returnType := none }, accessFlags := 2, code := none }
def k8c1 : Code := { maxStack := 2, maxLocals := 3, code := prog_32_method_3_code, exceptionTable := #[], attributes := #[] }
def k8m1 : Method := { name := "line", desc := "(Ljava/lang/String;Z)[B", sig := { parameters := [(.object "java/lang/String"), .boolean], returnType := some (.array .byte) }, accessFlags := 9, code := some k8c1 }
/-- com/example/marshal/marshal/pipelines/LogLines -/
def k8 : Class := { plain "com/example/marshal/marshal/pipelines/LogLines" (some 0) with
  accessFlags := 49
  interfaces := #[]
  cf := some (fileOf pool8 34 #[] #[{ accessFlags := 2, nameIndex := 5, descriptorIndex := 6, attributes := #[] }, { accessFlags := 9, nameIndex := 45, descriptorIndex := 46, attributes := #[] }] 49 2 #[] #[{ accessFlags := 25, nameIndex := 36, descriptorIndex := 37, attributes := #[] }])
  fields := #[{ name := "SUCCEEDED", type := (.object "java/lang/String"), accessFlags := 25, slot := 0, constantValue := 0 }]
  methods := #[k8m0, k8m1]
  instanceTypes := #[]
  staticTypes := #[(.object "java/lang/String")]
  resolved := Array.replicate 50 none
  statics := none }

def pool9 : Array CpInfo := pool [(1, .class_ 2), (0, u "java/lang/Appendable"), (0, .class_ 4), (0, u "java/lang/Object")] 9

/-- java/lang/Appendable -/
def k9 : Class := { plain "java/lang/Appendable" (some 0) with
  accessFlags := 1537
  interfaces := #[]
  cf := some (fileOf pool9 1 #[] #[] 1537 3 #[] #[])
  fields := #[]
  methods := #[]
  instanceTypes := #[]
  staticTypes := #[]
  resolved := Array.replicate 14 none
  statics := none }

def pool10 : Array CpInfo := pool [(1, .class_ 2), (0, u "java/lang/String"), (0, .methodref 4 5), (0, .class_ 6), (0, .nameAndType 7 8), (0, u "java/lang/Object"), (0, u "<init>"), (0, u "()V"), (1, .class_ 12), (1, u "java/lang/AbstractStringBuilder"), (0, u "EMPTYVALUE"), (0, u "[B"), (0, .fieldref 10 16), (0, .nameAndType 17 14), (0, u "value"), (0, .fieldref 1 19), (0, .nameAndType 20 21), (0, u "COMPACT_STRINGS"), (0, u "Z"), (0, .fieldref 10 23), (0, .nameAndType 24 25), (0, u "coder"), (0, u "B"), (6, .methodref 1 33), (0, .nameAndType 34 35), (0, u "length"), (0, u "()I"), (4, .methodref 1 41), (0, .nameAndType 24 42), (0, u "()B"), (2, u "append"), (0, u "(Ljava/lang/String;)Ljava/lang/AbstractStringBuilder;"), (1, .class_ 49), (0, u "java/lang/CharSequence"), (19, u "(Ljava/lang/String;)V"), (5, u "maybeLatin1"), (3, .fieldref 10 80), (0, .nameAndType 81 82), (0, u "count"), (0, u "I"), (2, u "isLatin1"), (0, u "()Z"), (13, .methodref 10 101), (0, .nameAndType 102 103), (0, u "ensureCapacityInternal"), (0, u "(I)V"), (104, .methodref 10 209), (0, .nameAndType 210 211), (0, u "putStringAt"), (0, u "(ILjava/lang/String;)V"), (5, u "inflateIfNeededFor"), (2, .nameAndType 221 222), (0, u "getBytes"), (0, u "([BIB)V"), (174, .methodref 10 398), (0, .nameAndType 217 69), (0, .methodref 1 220), (3, u "()[B"), (40, .class_ 445), (0, u "java/lang/Appendable"), (106, u "getValue")] 56

def k10m0 : Method := { name := "<init>", desc := "()V", sig := { parameters := [], returnType := none }, accessFlags := 0, code := none }
def k10c1 : Code := { maxStack := 2, maxLocals := 2, code := jdk_68_method_2_code, exceptionTable := #[], attributes := #[] }
def k10m1 : Method := { name := "<init>", desc := "(I)V", sig := { parameters := [.int], returnType := none }, accessFlags := 0, code := some k10c1 }
def k10c2 : Code := { maxStack := 1, maxLocals := 1, code := jdk_68_method_6_code, exceptionTable := #[], attributes := #[] }
def k10m2 : Method := { name := "length", desc := "()I", sig := { parameters := [], returnType := some .int }, accessFlags := 1, code := some k10c2 }
def k10c3 : Code := { maxStack := 4, maxLocals := 3, code := jdk_68_method_9_code, exceptionTable := #[], attributes := #[] }
def k10m3 : Method := { name := "ensureCapacityInternal", desc := "(I)V", sig := { parameters := [.int], returnType := none }, accessFlags := 2, code := some k10c3 }
def k10c4 : Code := { maxStack := 3, maxLocals := 3, code := jdk_68_method_22_code, exceptionTable := #[], attributes := #[] }
def k10m4 : Method := { name := "append", desc := "(Ljava/lang/String;)Ljava/lang/AbstractStringBuilder;", sig := { parameters := [(.object "java/lang/String")], returnType := some (.object "java/lang/AbstractStringBuilder") }, accessFlags := 1, code := some k10c4 }
def k10c5 : Code := { maxStack := 1, maxLocals := 1, code := jdk_68_method_64_code, exceptionTable := #[], attributes := #[] }
def k10m5 : Method := { name := "getValue", desc := "()[B", sig := { parameters := [], returnType := some (.array .byte) }, accessFlags := 16, code := some k10c5 }
def k10c6 : Code := { maxStack := 1, maxLocals := 1, code := jdk_68_method_68_code, exceptionTable := #[], attributes := #[] }
def k10m6 : Method := { name := "isLatin1", desc := "()Z", sig := { parameters := [], returnType := some .boolean }, accessFlags := 16, code := some k10c6 }
def k10c7 : Code := { maxStack := 2, maxLocals := 2, code := jdk_68_method_71_code, exceptionTable := #[], attributes := #[] }
def k10m7 : Method := { name := "inflateIfNeededFor", desc := "(Ljava/lang/String;)V", sig := { parameters := [(.object "java/lang/String")], returnType := none }, accessFlags := 2, code := some k10c7 }
def k10c8 : Code := { maxStack := 4, maxLocals := 3, code := jdk_68_method_73_code, exceptionTable := #[], attributes := #[] }
def k10m8 : Method := { name := "putStringAt", desc := "(ILjava/lang/String;)V", sig := { parameters := [.int, (.object "java/lang/String")], returnType := none }, accessFlags := 2, code := some k10c8 }
/-- java/lang/AbstractStringBuilder -/
def k10 : Class := { plain "java/lang/AbstractStringBuilder" (some 0) with
  accessFlags := 1056
  interfaces := #[9, 4]
  cf := some (fileOf pool10 10 #[] #[{ accessFlags := 0, nameIndex := 7, descriptorIndex := 8, attributes := #[] }, { accessFlags := 0, nameIndex := 7, descriptorIndex := 103, attributes := #[] }, { accessFlags := 1, nameIndex := 34, descriptorIndex := 35, attributes := #[] }, { accessFlags := 2, nameIndex := 102, descriptorIndex := 103, attributes := #[] }, { accessFlags := 1, nameIndex := 45, descriptorIndex := 46, attributes := #[] }, { accessFlags := 16, nameIndex := 552, descriptorIndex := 403, attributes := #[] }, { accessFlags := 16, nameIndex := 85, descriptorIndex := 86, attributes := #[] }, { accessFlags := 2, nameIndex := 217, descriptorIndex := 69, attributes := #[] }, { accessFlags := 2, nameIndex := 210, descriptorIndex := 211, attributes := #[] }] 1056 4 #[444, 48] #[{ accessFlags := 0, nameIndex := 17, descriptorIndex := 14, attributes := #[] }, { accessFlags := 0, nameIndex := 24, descriptorIndex := 25, attributes := #[] }, { accessFlags := 0, nameIndex := 75, descriptorIndex := 21, attributes := #[] }, { accessFlags := 0, nameIndex := 81, descriptorIndex := 82, attributes := #[] }, { accessFlags := 26, nameIndex := 13, descriptorIndex := 14, attributes := #[] }])
  fields := #[{ name := "value", type := (.array .byte), accessFlags := 0, slot := 0, constantValue := 0 }, { name := "coder", type := .byte, accessFlags := 0, slot := 1, constantValue := 0 }, { name := "maybeLatin1", type := .boolean, accessFlags := 0, slot := 2, constantValue := 0 }, { name := "count", type := .int, accessFlags := 0, slot := 3, constantValue := 0 }, { name := "EMPTYVALUE", type := (.array .byte), accessFlags := 26, slot := 0, constantValue := 0 }]
  methods := #[k10m0, k10m1, k10m2, k10m3, k10m4, k10m5, k10m6, k10m7, k10m8]
  instanceTypes := #[(.array .byte), .byte, .boolean, .int]
  staticTypes := #[(.array .byte)]
  resolved := Array.replicate 609 none
  statics := none }

def pool11 : Array CpInfo := pool [(1, .methodref 2 3), (0, .class_ 4), (0, .nameAndType 5 6), (0, u "java/lang/AbstractStringBuilder"), (0, u "<init>"), (0, u "(I)V"), (11, .class_ 20), (1, u "java/lang/String"), (3, .class_ 26), (1, u "java/lang/StringBuilder"), (0, u "append"), (0, u "(Ljava/lang/String;)Ljava/lang/StringBuilder;"), (0, .methodref 2 30), (0, .nameAndType 27 31), (0, u "(Ljava/lang/String;)Ljava/lang/AbstractStringBuilder;"), (105, .methodref 18 138), (0, .nameAndType 5 139), (0, u "(Ljava/lang/StringBuilder;)V"), (5, u "()V"), (10, u "()I"), (186, .methodref 2 344), (0, .nameAndType 345 156), (0, u "length"), (3, .class_ 350), (0, u "java/lang/Appendable"), (0, .class_ 352), (0, u "java/io/Serializable"), (0, .class_ 354), (0, u "java/lang/Comparable"), (0, .class_ 356), (0, u "java/lang/CharSequence"), (0, u "serialVersionUID"), (0, u "J"), (40, u "toString"), (0, u "()Ljava/lang/String;")] 21

def k11c0 : Code := { maxStack := 2, maxLocals := 1, code := jdk_67_method_1_code, exceptionTable := #[], attributes := #[] }
def k11m0 : Method := { name := "<init>", desc := "()V", sig := { parameters := [], returnType := none }, accessFlags := 1, code := some k11c0 }
def k11c1 : Code := { maxStack := 2, maxLocals := 2, code := jdk_67_method_7_code, exceptionTable := #[], attributes := #[] }
def k11m1 : Method := { name := "append", desc := "(Ljava/lang/String;)Ljava/lang/StringBuilder;", sig := { parameters := [(.object "java/lang/String")], returnType := some (.object "java/lang/StringBuilder") }, accessFlags := 1, code := some k11c1 }
def k11c2 : Code := { maxStack := 3, maxLocals := 1, code := jdk_67_method_42_code, exceptionTable := #[], attributes := #[] }
def k11m2 : Method := { name := "toString", desc := "()Ljava/lang/String;", sig := { parameters := [], returnType := some (.object "java/lang/String") }, accessFlags := 1, code := some k11c2 }
def k11c3 : Code := { maxStack := 1, maxLocals := 1, code := jdk_67_method_93_code, exceptionTable := #[], attributes := #[] }
def k11m3 : Method := { name := "length", desc := "()I", sig := { parameters := [], returnType := some .int }, accessFlags := 4161, code := some k11c3 }
/-- java/lang/StringBuilder -/
def k11 : Class := { plain "java/lang/StringBuilder" (some 10) with
  accessFlags := 49
  interfaces := #[9, 2, 3, 4]
  cf := some (fileOf pool11 24 #[] #[{ accessFlags := 1, nameIndex := 5, descriptorIndex := 145, attributes := #[] }, { accessFlags := 1, nameIndex := 27, descriptorIndex := 28, attributes := #[] }, { accessFlags := 1, nameIndex := 399, descriptorIndex := 400, attributes := #[] }, { accessFlags := 4161, nameIndex := 345, descriptorIndex := 156, attributes := #[] }] 49 2 #[349, 351, 353, 355] #[{ accessFlags := 24, nameIndex := 357, descriptorIndex := 358, attributes := #[] }])
  fields := #[{ name := "serialVersionUID", type := .long, accessFlags := 24, slot := 0, constantValue := 0 }]
  methods := #[k11m0, k11m1, k11m2, k11m3]
  instanceTypes := #[(.array .byte), .byte, .boolean, .int]
  staticTypes := #[.long]
  resolved := Array.replicate 422 none
  statics := none }

def pool12 : Array CpInfo := pool [(2, .class_ 4), (1, u "java/lang/Object"), (0, u "<init>"), (0, u "()V"), (1, .class_ 10), (1, u "java/lang/System"), (0, u "allowSecurityManager"), (0, u "I"), (16, u "cons"), (0, u "Ljava/io/Console;"), (77, .class_ 110), (1, u "java/lang/System$CallersHolder"), (43, u "initialErrStream"), (0, u "Ljava/io/PrintStream;"), (19, u "security"), (0, u "Ljava/lang/SecurityManager;"), (31, .class_ 209), (0, u "java/lang/System$1"), (7, u "props"), (0, u "Ljava/util/Properties;"), (2, u "lineSeparator"), (0, u "Ljava/lang/String;"), (96, .class_ 321), (1, u "java/lang/System$LoggerFinder"), (5, .class_ 328), (0, u "java/lang/System$Logger"), (67, u "err"), (2, u "out"), (91, u "notSupportedJnuEncoding"), (15, u "in"), (17, u "initialIn"), (0, u "Ljava/io/InputStream;"), (35, u "bootLayer"), (0, u "Ljava/lang/ModuleLayer;"), (99, .class_ 664), (0, u "java/lang/System$2"), (9, u "NEVER"), (2, u "MAYBE"), (49, u "arraycopy"), (0, u "(Ljava/lang/Object;ILjava/lang/Object;II)V"), (72, .class_ 802), (0, u "java/lang/System$Logger$Level")] 31

def k12m0 : Method := { name := "<init>", desc := "()V", sig := { parameters := [], returnType := none }, accessFlags := 2, code := none }
def k12m1 : Method := { name := "arraycopy", desc := "(Ljava/lang/Object;ILjava/lang/Object;II)V", sig := { parameters := [(.object "java/lang/Object"), .int, (.object "java/lang/Object"), .int, .int], returnType := none }, accessFlags := 265, code := none }
/-- java/lang/System -/
def k12 : Class := { plain "java/lang/System" (some 0) with
  accessFlags := 49
  interfaces := #[]
  cf := some (fileOf pool12 8 #[.nestMembers #[319, 327, 801, 108, 663, 208]] #[{ accessFlags := 2, nameIndex := 5, descriptorIndex := 6, attributes := #[] }, { accessFlags := 265, nameIndex := 727, descriptorIndex := 728, attributes := #[] }] 49 2 #[] #[{ accessFlags := 25, nameIndex := 507, descriptorIndex := 526, attributes := #[] }, { accessFlags := 25, nameIndex := 399, descriptorIndex := 155, attributes := #[] }, { accessFlags := 25, nameIndex := 396, descriptorIndex := 155, attributes := #[] }, { accessFlags := 10, nameIndex := 525, descriptorIndex := 526, attributes := #[] }, { accessFlags := 26, nameIndex := 674, descriptorIndex := 12, attributes := #[] }, { accessFlags := 26, nameIndex := 677, descriptorIndex := 12, attributes := #[] }, { accessFlags := 10, nameIndex := 11, descriptorIndex := 12, attributes := #[] }, { accessFlags := 74, nameIndex := 175, descriptorIndex := 176, attributes := #[] }, { accessFlags := 10, nameIndex := 491, descriptorIndex := 222, attributes := #[] }, { accessFlags := 74, nameIndex := 29, descriptorIndex := 30, attributes := #[] }, { accessFlags := 74, nameIndex := 154, descriptorIndex := 155, attributes := #[] }, { accessFlags := 10, nameIndex := 217, descriptorIndex := 218, attributes := #[] }, { accessFlags := 10, nameIndex := 221, descriptorIndex := 222, attributes := #[] }, { accessFlags := 8, nameIndex := 562, descriptorIndex := 563, attributes := #[] }])
  fields := #[{ name := "in", type := (.object "java/io/InputStream"), accessFlags := 25, slot := 0, constantValue := 0 }, { name := "out", type := (.object "java/io/PrintStream"), accessFlags := 25, slot := 1, constantValue := 0 }, { name := "err", type := (.object "java/io/PrintStream"), accessFlags := 25, slot := 2, constantValue := 0 }, { name := "initialIn", type := (.object "java/io/InputStream"), accessFlags := 10, slot := 3, constantValue := 0 }, { name := "NEVER", type := .int, accessFlags := 26, slot := 4, constantValue := 0 }, { name := "MAYBE", type := .int, accessFlags := 26, slot := 5, constantValue := 0 }, { name := "allowSecurityManager", type := .int, accessFlags := 10, slot := 6, constantValue := 0 }, { name := "security", type := (.object "java/lang/SecurityManager"), accessFlags := 74, slot := 7, constantValue := 0 }, { name := "notSupportedJnuEncoding", type := (.object "java/lang/String"), accessFlags := 10, slot := 8, constantValue := 0 }, { name := "cons", type := (.object "java/io/Console"), accessFlags := 74, slot := 9, constantValue := 0 }, { name := "initialErrStream", type := (.object "java/io/PrintStream"), accessFlags := 74, slot := 10, constantValue := 0 }, { name := "props", type := (.object "java/util/Properties"), accessFlags := 10, slot := 11, constantValue := 0 }, { name := "lineSeparator", type := (.object "java/lang/String"), accessFlags := 10, slot := 12, constantValue := 0 }, { name := "bootLayer", type := (.object "java/lang/ModuleLayer"), accessFlags := 8, slot := 13, constantValue := 0 }]
  methods := #[k12m0, k12m1]
  instanceTypes := #[]
  staticTypes := #[(.object "java/io/InputStream"), (.object "java/io/PrintStream"), (.object "java/io/PrintStream"), (.object "java/io/InputStream"), .int, .int, .int, (.object "java/lang/SecurityManager"), (.object "java/lang/String"), (.object "java/io/Console"), (.object "java/io/PrintStream"), (.object "java/util/Properties"), (.object "java/lang/String"), (.object "java/lang/ModuleLayer")]
  resolved := Array.replicate 834 none
  statics := none }

def pool13 : Array CpInfo := pool [(2, .class_ 4), (1, u "java/lang/Object"), (0, u "<init>"), (0, u "()V"), (7, .class_ 16), (1, u "java/util/Arrays"), (57, .class_ 76), (1, u "java/util/Arrays$NaturalOrder"), (36, .class_ 115), (1, u "java/util/Arrays$LegacyMergeSort"), (1, u "Z"), (21, u "copyOfRange"), (10, .methodref 151 152), (0, .class_ 153), (0, .nameAndType 154 155), (0, u "java/lang/System"), (0, u "arraycopy"), (0, u "(Ljava/lang/Object;ILjava/lang/Object;II)V"), (146, u "copyOf"), (1, .methodref 305 306), (0, .class_ 307), (0, .nameAndType 308 309), (0, u "java/lang/Math"), (0, u "min"), (0, u "(II)I"), (29, .methodref 14 340), (0, .nameAndType 341 342), (0, u "copyOfRangeByte"), (0, u "([BII)[B"), (0, .methodref 14 344), (0, .nameAndType 345 346), (0, u "checkLength"), (0, u "(II)V"), (28, .class_ 376), (0, u "java/util/Arrays$ArrayList"), (68, u "$assertionsDisabled"), (269, u "MIN_ARRAY_SORT_GRAN"), (0, u "I"), (2, u "INSERTIONSORT_THRESHOLD"), (149, u "([BI)[B"), (105, .class_ 976), (0, u "java/util/Arrays$ArrayItr")] 52

def k13m0 : Method := { name := "<init>", desc := "()V", sig := { parameters := [], returnType := none }, accessFlags := 2, code := none }
def k13c1 : Code := { maxStack := 6, maxLocals := 3, code := jdk_65_method_121_code, exceptionTable := #[], attributes := #[] }
def k13m1 : Method := { name := "copyOf", desc := "([BI)[B", sig := { parameters := [(.array .byte), .int], returnType := some (.array .byte) }, accessFlags := 9, code := some k13c1 }
def k13c2 : Code := { maxStack := 4, maxLocals := 2, code := jdk_65_method_131_code, exceptionTable := #[], attributes := #[] }
def k13m2 : Method := { name := "checkLength", desc := "(II)V", sig := { parameters := [.int, .int], returnType := none }, accessFlags := 10, code := some k13c2 }
def k13c3 : Code := { maxStack := 3, maxLocals := 3, code := jdk_65_method_132_code, exceptionTable := #[], attributes := #[] }
def k13m3 : Method := { name := "copyOfRange", desc := "([BII)[B", sig := { parameters := [(.array .byte), .int, .int], returnType := some (.array .byte) }, accessFlags := 9, code := some k13c3 }
def k13c4 : Code := { maxStack := 6, maxLocals := 5, code := jdk_65_method_133_code, exceptionTable := #[], attributes := #[] }
def k13m4 : Method := { name := "copyOfRangeByte", desc := "([BII)[B", sig := { parameters := [(.array .byte), .int, .int], returnType := some (.array .byte) }, accessFlags := 10, code := some k13c4 }
/-- java/util/Arrays -/
def k13 : Class := { plain "java/util/Arrays" (some 0) with
  accessFlags := 49
  interfaces := #[]
  cf := some (fileOf pool13 14 #[.nestMembers #[975, 375, 113, 74]] #[{ accessFlags := 2, nameIndex := 5, descriptorIndex := 6, attributes := #[] }, { accessFlags := 9, nameIndex := 302, descriptorIndex := 869, attributes := #[] }, { accessFlags := 10, nameIndex := 345, descriptorIndex := 346, attributes := #[] }, { accessFlags := 9, nameIndex := 139, descriptorIndex := 342, attributes := #[] }, { accessFlags := 10, nameIndex := 341, descriptorIndex := 342, attributes := #[] }] 49 2 #[] #[{ accessFlags := 26, nameIndex := 715, descriptorIndex := 716, attributes := #[] }, { accessFlags := 26, nameIndex := 719, descriptorIndex := 716, attributes := #[] }, { accessFlags := 4120, nameIndex := 445, descriptorIndex := 117, attributes := #[] }])
  fields := #[{ name := "MIN_ARRAY_SORT_GRAN", type := .int, accessFlags := 26, slot := 0, constantValue := 0 }, { name := "INSERTIONSORT_THRESHOLD", type := .int, accessFlags := 26, slot := 1, constantValue := 0 }, { name := "$assertionsDisabled", type := .boolean, accessFlags := 4120, slot := 2, constantValue := 0 }]
  methods := #[k13m0, k13m1, k13m2, k13m3, k13m4]
  instanceTypes := #[]
  staticTypes := #[.int, .int, .boolean]
  resolved := Array.replicate 1029 none
  statics := none }

def pool14 : Array CpInfo := pool [(1, .class_ 2), (0, u "java/lang/Math"), (1, .class_ 6), (1, u "java/lang/Object"), (0, u "<init>"), (0, u "()V"), (89, .class_ 100), (1, u "java/lang/Math$RandomNumberGeneratorHolder"), (71, u "negativeZeroFloatBits"), (0, u "J"), (2, u "negativeZeroDoubleBits"), (24, u "min"), (43, u "$assertionsDisabled"), (0, u "Z"), (88, u "(II)I"), (2, u "twoToTheDoubleScaleDown"), (0, u "D"), (4, u "twoToTheDoubleScaleUp"), (9, u "E"), (3, u "PI"), (2, u "TAU"), (2, u "DEGREES_TO_RADIANS"), (0, u "RADIANS_TO_DEGREES")] 94

def k14m0 : Method := { name := "<init>", desc := "()V", sig := { parameters := [], returnType := none }, accessFlags := 2, code := none }
def k14c1 : Code := { maxStack := 2, maxLocals := 2, code := jdk_29_method_69_code, exceptionTable := #[], attributes := #[] }
def k14m1 : Method := { name := "min", desc := "(II)I", sig := { parameters := [.int, .int], returnType := some .int }, accessFlags := 9, code := some k14c1 }
/-- java/lang/Math -/
def k14 : Class := { plain "java/lang/Math" (some 0) with
  accessFlags := 49
  interfaces := #[]
  cf := some (fileOf pool14 1 #[.nestMembers #[98]] #[{ accessFlags := 2, nameIndex := 7, descriptorIndex := 8, attributes := #[] }, { accessFlags := 9, nameIndex := 201, descriptorIndex := 335, attributes := #[] }] 49 4 #[] #[{ accessFlags := 25, nameIndex := 354, descriptorIndex := 339, attributes := #[] }, { accessFlags := 25, nameIndex := 358, descriptorIndex := 339, attributes := #[] }, { accessFlags := 25, nameIndex := 361, descriptorIndex := 339, attributes := #[] }, { accessFlags := 26, nameIndex := 364, descriptorIndex := 339, attributes := #[] }, { accessFlags := 26, nameIndex := 365, descriptorIndex := 339, attributes := #[] }, { accessFlags := 26, nameIndex := 172, descriptorIndex := 173, attributes := #[] }, { accessFlags := 26, nameIndex := 176, descriptorIndex := 173, attributes := #[] }, { accessFlags := 8, nameIndex := 344, descriptorIndex := 339, attributes := #[] }, { accessFlags := 8, nameIndex := 338, descriptorIndex := 339, attributes := #[] }, { accessFlags := 4120, nameIndex := 245, descriptorIndex := 246, attributes := #[] }])
  fields := #[{ name := "E", type := .double, accessFlags := 25, slot := 0, constantValue := 0 }, { name := "PI", type := .double, accessFlags := 25, slot := 1, constantValue := 0 }, { name := "TAU", type := .double, accessFlags := 25, slot := 2, constantValue := 0 }, { name := "DEGREES_TO_RADIANS", type := .double, accessFlags := 26, slot := 3, constantValue := 0 }, { name := "RADIANS_TO_DEGREES", type := .double, accessFlags := 26, slot := 4, constantValue := 0 }, { name := "negativeZeroFloatBits", type := .long, accessFlags := 26, slot := 5, constantValue := 0 }, { name := "negativeZeroDoubleBits", type := .long, accessFlags := 26, slot := 6, constantValue := 0 }, { name := "twoToTheDoubleScaleUp", type := .double, accessFlags := 8, slot := 7, constantValue := 0 }, { name := "twoToTheDoubleScaleDown", type := .double, accessFlags := 8, slot := 8, constantValue := 0 }, { name := "$assertionsDisabled", type := .boolean, accessFlags := 4120, slot := 9, constantValue := 0 }]
  methods := #[k14m0, k14m1]
  instanceTypes := #[]
  staticTypes := #[.double, .double, .double, .double, .double, .long, .long, .double, .double, .boolean]
  resolved := Array.replicate 460 none
  statics := none }

def pool15 : Array CpInfo := pool [(2, .class_ 4), (1, u "java/lang/Object"), (0, u "<init>"), (0, u "()V"), (14, .class_ 23), (1, u "java/nio/charset/StandardCharsets"), (0, u "US_ASCII"), (0, u "Ljava/nio/charset/Charset;"), (7, u "ISO_8859_1"), (7, u "UTF_8"), (5, u "UTF_16BE"), (5, u "UTF_16LE"), (5, u "UTF_16")] 8

def k15m0 : Method := { name := "<init>", desc := "()V", sig := { parameters := [], returnType := none }, accessFlags := 2, code := none }
/-- java/nio/charset/StandardCharsets -/
def k15 : Class := { plain "java/nio/charset/StandardCharsets" (some 0) with
  accessFlags := 49
  interfaces := #[]
  cf := some (fileOf pool15 21 #[] #[{ accessFlags := 2, nameIndex := 5, descriptorIndex := 6, attributes := #[] }] 49 2 #[] #[{ accessFlags := 25, nameIndex := 24, descriptorIndex := 25, attributes := #[] }, { accessFlags := 25, nameIndex := 33, descriptorIndex := 25, attributes := #[] }, { accessFlags := 25, nameIndex := 41, descriptorIndex := 25, attributes := #[] }, { accessFlags := 25, nameIndex := 47, descriptorIndex := 25, attributes := #[] }, { accessFlags := 25, nameIndex := 53, descriptorIndex := 25, attributes := #[] }, { accessFlags := 25, nameIndex := 59, descriptorIndex := 25, attributes := #[] }])
  fields := #[{ name := "US_ASCII", type := (.object "java/nio/charset/Charset"), accessFlags := 25, slot := 0, constantValue := 0 }, { name := "ISO_8859_1", type := (.object "java/nio/charset/Charset"), accessFlags := 25, slot := 1, constantValue := 0 }, { name := "UTF_8", type := (.object "java/nio/charset/Charset"), accessFlags := 25, slot := 2, constantValue := 0 }, { name := "UTF_16BE", type := (.object "java/nio/charset/Charset"), accessFlags := 25, slot := 3, constantValue := 0 }, { name := "UTF_16LE", type := (.object "java/nio/charset/Charset"), accessFlags := 25, slot := 4, constantValue := 0 }, { name := "UTF_16", type := (.object "java/nio/charset/Charset"), accessFlags := 25, slot := 5, constantValue := 0 }]
  methods := #[k15m0]
  instanceTypes := #[]
  staticTypes := #[(.object "java/nio/charset/Charset"), (.object "java/nio/charset/Charset"), (.object "java/nio/charset/Charset"), (.object "java/nio/charset/Charset"), (.object "java/nio/charset/Charset"), (.object "java/nio/charset/Charset")]
  resolved := Array.replicate 68 none
  statics := some 1 }

def pool16 : Array CpInfo := pool [(18, .class_ 20), (1, u "java/nio/charset/Charset"), (0, u "cache1"), (0, u "[Ljava/lang/Object;"), (2, u "cache2"), (0, .class_ 27), (0, u "java/lang/Object"), (0, .class_ 29), (0, u "java/nio/charset/Charset$1"), (4, .class_ 36), (1, u "java/nio/charset/Charset$ThreadTrackHolder"), (21, .class_ 59), (0, u "java/nio/charset/Charset$2"), (11, .class_ 73), (1, u "java/nio/charset/Charset$ExtendedProviderHolder"), (22, u "standardProvider"), (0, u "Ljava/nio/charset/spi/CharsetProvider;"), (29, u "name"), (7, .class_ 136), (0, u "java/nio/charset/Charset$3"), (5, u "defaultCharset"), (0, u "Ljava/nio/charset/Charset;"), (14, u "zeroAliases"), (0, u "[Ljava/lang/String;"), (29, u "Ljava/lang/String;"), (2, u "aliases"), (2, u "aliasSet"), (0, u "Ljava/util/Set;"), (82, .class_ 280), (0, u "java/lang/Comparable"), (84, .class_ 366), (0, u "java/nio/charset/Charset$ExtendedProviderHolder$1")] 3

/-- java/nio/charset/Charset -/
def k16 : Class := { plain "java/nio/charset/Charset" (some 0) with
  accessFlags := 1057
  interfaces := #[3]
  cf := some (fileOf pool16 18 #[.nestMembers #[71, 365, 34, 135, 58, 28]] #[] 1057 26 #[279] #[{ accessFlags := 26, nameIndex := 96, descriptorIndex := 97, attributes := #[] }, { accessFlags := 26, nameIndex := 158, descriptorIndex := 159, attributes := #[] }, { accessFlags := 74, nameIndex := 21, descriptorIndex := 22, attributes := #[] }, { accessFlags := 74, nameIndex := 25, descriptorIndex := 22, attributes := #[] }, { accessFlags := 10, nameIndex := 142, descriptorIndex := 143, attributes := #[] }, { accessFlags := 18, nameIndex := 127, descriptorIndex := 189, attributes := #[] }, { accessFlags := 18, nameIndex := 192, descriptorIndex := 159, attributes := #[] }, { accessFlags := 2, nameIndex := 195, descriptorIndex := 196, attributes := #[] }])
  fields := #[{ name := "standardProvider", type := (.object "java/nio/charset/spi/CharsetProvider"), accessFlags := 26, slot := 0, constantValue := 0 }, { name := "zeroAliases", type := (.array (.object "java/lang/String")), accessFlags := 26, slot := 1, constantValue := 0 }, { name := "cache1", type := (.array (.object "java/lang/Object")), accessFlags := 74, slot := 2, constantValue := 0 }, { name := "cache2", type := (.array (.object "java/lang/Object")), accessFlags := 74, slot := 3, constantValue := 0 }, { name := "defaultCharset", type := (.object "java/nio/charset/Charset"), accessFlags := 10, slot := 4, constantValue := 0 }, { name := "name", type := (.object "java/lang/String"), accessFlags := 18, slot := 0, constantValue := 0 }, { name := "aliases", type := (.array (.object "java/lang/String")), accessFlags := 18, slot := 1, constantValue := 0 }, { name := "aliasSet", type := (.object "java/util/Set"), accessFlags := 2, slot := 2, constantValue := 0 }]
  methods := #[]
  instanceTypes := #[(.object "java/lang/String"), (.array (.object "java/lang/String")), (.object "java/util/Set")]
  staticTypes := #[(.object "java/nio/charset/spi/CharsetProvider"), (.array (.object "java/lang/String")), (.array (.object "java/lang/Object")), (.array (.object "java/lang/Object")), (.object "java/nio/charset/Charset")]
  resolved := Array.replicate 370 none
  statics := none }

def pool17 : Array CpInfo := pool [(1, .class_ 2), (0, u "sun/nio/cs/HistoricallyNamedCharset"), (0, .class_ 4), (0, u "java/lang/Object")] 4

/-- sun/nio/cs/HistoricallyNamedCharset -/
def k17 : Class := { plain "sun/nio/cs/HistoricallyNamedCharset" (some 0) with
  accessFlags := 1537
  interfaces := #[]
  cf := some (fileOf pool17 1 #[] #[] 1537 3 #[] #[])
  fields := #[]
  methods := #[]
  instanceTypes := #[]
  staticTypes := #[]
  resolved := Array.replicate 9 none
  statics := none }

def pool18 : Array CpInfo := pool [(2, .class_ 4), (1, u "java/nio/charset/Charset"), (130, .class_ 136), (0, u "sun/nio/cs/Unicode"), (0, .class_ 138), (0, u "sun/nio/cs/HistoricallyNamedCharset")] 15

/-- sun/nio/cs/Unicode -/
def k18 : Class := { plain "sun/nio/cs/Unicode" (some 16) with
  accessFlags := 1056
  interfaces := #[17]
  cf := some (fileOf pool18 135 #[] #[] 1056 2 #[137] #[])
  fields := #[]
  methods := #[]
  instanceTypes := #[(.object "java/lang/String"), (.array (.object "java/lang/String")), (.object "java/util/Set")]
  staticTypes := #[]
  resolved := Array.replicate 154 none
  statics := none }

def pool19 : Array CpInfo := pool [(10, .class_ 12), (1, u "sun/nio/cs/Unicode"), (0, u "<init>"), (3, .class_ 18), (0, u "sun/nio/cs/UTF_8$Decoder"), (3, .class_ 23), (0, u "sun/nio/cs/UTF_8$Encoder"), (15, .class_ 40), (0, u "sun/nio/cs/UTF_8"), (2, u "()V"), (2, u "INSTANCE"), (0, u "Lsun/nio/cs/UTF_8;"), (8, u "JLA"), (0, u "Ljdk/internal/access/JavaLangAccess;")] 26

def k19m0 : Method := { name := "<init>", desc := "()V", sig := { parameters := [], returnType := none }, accessFlags := 1, code := none }
/-- sun/nio/cs/UTF_8 -/
def k19 : Class := { plain "sun/nio/cs/UTF_8" (some 18) with
  accessFlags := 49
  interfaces := #[]
  cf := some (fileOf pool19 39 #[.nestMembers #[22, 17]] #[{ accessFlags := 1, nameIndex := 13, descriptorIndex := 43, attributes := #[] }] 49 10 #[] #[{ accessFlags := 25, nameIndex := 46, descriptorIndex := 47, attributes := #[] }, { accessFlags := 26, nameIndex := 56, descriptorIndex := 57, attributes := #[] }])
  fields := #[{ name := "INSTANCE", type := (.object "sun/nio/cs/UTF_8"), accessFlags := 25, slot := 0, constantValue := 0 }, { name := "JLA", type := (.object "jdk/internal/access/JavaLangAccess"), accessFlags := 26, slot := 1, constantValue := 0 }]
  methods := #[k19m0]
  instanceTypes := #[(.object "java/lang/String"), (.array (.object "java/lang/String")), (.object "java/util/Set")]
  staticTypes := #[(.object "sun/nio/cs/UTF_8"), (.object "jdk/internal/access/JavaLangAccess")]
  resolved := Array.replicate 84 none
  statics := some 2 }

def pool20 : Array CpInfo := pool [(2, .class_ 4), (1, u "java/lang/Object"), (0, u "<init>"), (0, u "()V"), (0, .methodref 8 9), (0, .class_ 10), (0, .nameAndType 11 12), (0, u "java/lang/StringCoding"), (0, u "countPositives"), (0, u "([BII)I"), (11, u "hasNegatives"), (0, u "([BII)Z")] 23

def k20m0 : Method := { name := "<init>", desc := "()V", sig := { parameters := [], returnType := none }, accessFlags := 2, code := none }
def k20c1 : Code := { maxStack := 3, maxLocals := 3, code := jdk_123_method_2_code, exceptionTable := #[], attributes := #[] }
def k20m1 : Method := { name := "hasNegatives", desc := "([BII)Z", sig := { parameters := [(.array .byte), .int, .int], returnType := some .boolean }, accessFlags := 9, code := some k20c1 }
def k20c2 : Code := { maxStack := 2, maxLocals := 5, code := jdk_123_method_3_code, exceptionTable := #[], attributes := #[] }
def k20m2 : Method := { name := "countPositives", desc := "([BII)I", sig := { parameters := [(.array .byte), .int, .int], returnType := some .int }, accessFlags := 9, code := some k20c2 }
/-- java/lang/StringCoding -/
def k20 : Class := { plain "java/lang/StringCoding" (some 0) with
  accessFlags := 32
  interfaces := #[]
  cf := some (fileOf pool20 8 #[] #[{ accessFlags := 2, nameIndex := 5, descriptorIndex := 6, attributes := #[] }, { accessFlags := 9, nameIndex := 24, descriptorIndex := 25, attributes := #[] }, { accessFlags := 9, nameIndex := 11, descriptorIndex := 12, attributes := #[] }] 32 2 #[] #[])
  fields := #[]
  methods := #[k20m0, k20m1, k20m2]
  instanceTypes := #[]
  staticTypes := #[]
  resolved := Array.replicate 49 none
  statics := none }

def pool21 : Array CpInfo := pool [(1, .class_ 2), (0, u "java/lang/Cloneable"), (0, .class_ 4), (0, u "java/lang/Object")] 2

/-- java/lang/Cloneable -/
def k21 : Class := { plain "java/lang/Cloneable" (some 0) with
  accessFlags := 1537
  interfaces := #[]
  cf := some (fileOf pool21 1 #[] #[] 1537 3 #[] #[])
  fields := #[]
  methods := #[]
  instanceTypes := #[]
  staticTypes := #[]
  resolved := Array.replicate 7 none
  statics := none }

def pool22 : Array CpInfo := pool [(6, .class_ 8), (1, u "java/lang/Object"), (0, u "<init>"), (0, u "()V"), (0, .methodref 12 13), (0, .class_ 14), (0, .nameAndType 15 16), (0, u "java/lang/StringUTF16"), (0, u "newBytesLength"), (0, u "(I)I"), (3, .integer 1073741823), (25, u "$assertionsDisabled"), (0, u "Z"), (13, u "HI_BYTE_SHIFT"), (0, u "I"), (2, u "LO_BYTE_SHIFT"), (43, u "newBytesFor"), (0, u "(I)[B"), (4, .methodref 12 116), (0, .nameAndType 117 118), (0, u "compress"), (0, u "([CI[BII)I"), (3, u "([CII)[B"), (138, u "coderFromArrayLen"), (0, u "([BI)B"), (106, .class_ 371), (1, u "java/lang/StringUTF16$LinesSpliterator"), (58, u "MAX_LENGTH"), (196, .class_ 628), (0, u "java/lang/StringUTF16$CodePointsSpliterator"), (0, .class_ 630), (0, u "java/lang/StringUTF16$CharsSpliterator")] 4

def k22m0 : Method := { name := "<init>", desc := "()V", sig := { parameters := [], returnType := none }, accessFlags := 0, code := none }
def k22c1 : Code := { maxStack := 1, maxLocals := 1, code := jdk_52_method_2_code, exceptionTable := #[], attributes := #[] }
def k22m1 : Method := { name := "newBytesFor", desc := "(I)[B", sig := { parameters := [.int], returnType := some (.array .byte) }, accessFlags := 9, code := some k22c1 }
def k22c2 : Code := { maxStack := 4, maxLocals := 1, code := jdk_52_method_3_code, exceptionTable := #[], attributes := #[] }
def k22m2 : Method := { name := "newBytesLength", desc := "(I)I", sig := { parameters := [.int], returnType := some .int }, accessFlags := 9, code := some k22c2 }
def k22c3 : Code := { maxStack := 2, maxLocals := 2, code := jdk_52_method_15_code, exceptionTable := #[], attributes := #[] }
def k22m3 : Method := { name := "coderFromArrayLen", desc := "([BI)B", sig := { parameters := [(.array .byte), .int], returnType := some .byte }, accessFlags := 8, code := some k22c3 }
def k22c4 : Code := { maxStack := 5, maxLocals := 6, code := jdk_52_method_16_code, exceptionTable := #[], attributes := #[] }
def k22m4 : Method := { name := "compress", desc := "([CII)[B", sig := { parameters := [(.array .char), .int, .int], returnType := some (.array .byte) }, accessFlags := 9, code := some k22c4 }
def k22c5 : Code := { maxStack := 3, maxLocals := 7, code := jdk_52_method_21_code, exceptionTable := #[], attributes := #[] }
def k22m5 : Method := { name := "compress", desc := "([CI[BII)I", sig := { parameters := [(.array .char), .int, (.array .byte), .int, .int], returnType := some .int }, accessFlags := 9, code := some k22c5 }
/-- java/lang/StringUTF16 -/
def k22 : Class := { plain "java/lang/StringUTF16" (some 0) with
  accessFlags := 48
  interfaces := #[]
  cf := some (fileOf pool22 12 #[.nestMembers #[627, 629, 369]] #[{ accessFlags := 0, nameIndex := 9, descriptorIndex := 10, attributes := #[] }, { accessFlags := 9, nameIndex := 109, descriptorIndex := 110, attributes := #[] }, { accessFlags := 9, nameIndex := 15, descriptorIndex := 16, attributes := #[] }, { accessFlags := 8, nameIndex := 261, descriptorIndex := 262, attributes := #[] }, { accessFlags := 9, nameIndex := 117, descriptorIndex := 122, attributes := #[] }, { accessFlags := 9, nameIndex := 117, descriptorIndex := 118, attributes := #[] }] 48 6 #[] #[{ accessFlags := 26, nameIndex := 61, descriptorIndex := 62, attributes := #[] }, { accessFlags := 26, nameIndex := 65, descriptorIndex := 62, attributes := #[] }, { accessFlags := 24, nameIndex := 430, descriptorIndex := 62, attributes := #[] }, { accessFlags := 4120, nameIndex := 46, descriptorIndex := 47, attributes := #[] }])
  fields := #[{ name := "HI_BYTE_SHIFT", type := .int, accessFlags := 26, slot := 0, constantValue := 0 }, { name := "LO_BYTE_SHIFT", type := .int, accessFlags := 26, slot := 1, constantValue := 0 }, { name := "MAX_LENGTH", type := .int, accessFlags := 24, slot := 2, constantValue := 0 }, { name := "$assertionsDisabled", type := .boolean, accessFlags := 4120, slot := 3, constantValue := 0 }]
  methods := #[k22m0, k22m1, k22m2, k22m3, k22m4, k22m5]
  instanceTypes := #[]
  staticTypes := #[.int, .int, .int, .boolean]
  resolved := Array.replicate 635 none
  statics := none }

def pool23 : Array CpInfo := pool [(4, .class_ 6), (1, u "java/lang/Object"), (0, u "<init>"), (0, u "()V"), (5, .class_ 16), (1, u "java/lang/StringLatin1"), (104, u "$assertionsDisabled"), (0, u "Z"), (98, .class_ 223), (1, u "java/lang/StringLatin1$LinesSpliterator"), (166, .class_ 391), (0, u "java/lang/StringLatin1$CharsSpliterator")] 3

def k23m0 : Method := { name := "<init>", desc := "()V", sig := { parameters := [], returnType := none }, accessFlags := 0, code := none }
/-- java/lang/StringLatin1 -/
def k23 : Class := { plain "java/lang/StringLatin1" (some 0) with
  accessFlags := 48
  interfaces := #[]
  cf := some (fileOf pool23 14 #[.nestMembers #[390, 221]] #[{ accessFlags := 0, nameIndex := 7, descriptorIndex := 8, attributes := #[] }] 48 4 #[] #[{ accessFlags := 4120, nameIndex := 121, descriptorIndex := 122, attributes := #[] }])
  fields := #[{ name := "$assertionsDisabled", type := .boolean, accessFlags := 4120, slot := 0, constantValue := 0 }]
  methods := #[k23m0]
  instanceTypes := #[]
  staticTypes := #[.boolean]
  resolved := Array.replicate 395 none
  statics := none }

def pool24 : Array CpInfo := pool [(2, .class_ 4), (1, u "java/lang/Object"), (0, u "<init>"), (0, u "()V"), (17, .class_ 26), (1, u "jdk/internal/util/Preconditions"), (28, .class_ 56), (0, u "jdk/internal/util/Preconditions$4"), (57, .class_ 115), (0, u "jdk/internal/util/Preconditions$1"), (7, u "SIOOBE_FORMATTER"), (0, u "Ljava/util/function/BiFunction;"), (0, .class_ 126), (0, u "jdk/internal/util/Preconditions$2"), (3, u "AIOOBE_FORMATTER"), (0, .class_ 132), (0, u "jdk/internal/util/Preconditions$3"), (3, u "IOOBE_FORMATTER")] 57

def k24m0 : Method := { name := "<init>", desc := "()V", sig := { parameters := [], returnType := none }, accessFlags := 1, code := none }
/-- jdk/internal/util/Preconditions -/
def k24 : Class := { plain "jdk/internal/util/Preconditions" (some 0) with
  accessFlags := 33
  interfaces := #[]
  cf := some (fileOf pool24 24 #[.nestMembers #[55, 131, 125, 114]] #[{ accessFlags := 1, nameIndex := 5, descriptorIndex := 6, attributes := #[] }] 33 2 #[] #[{ accessFlags := 25, nameIndex := 123, descriptorIndex := 124, attributes := #[] }, { accessFlags := 25, nameIndex := 130, descriptorIndex := 124, attributes := #[] }, { accessFlags := 25, nameIndex := 136, descriptorIndex := 124, attributes := #[] }])
  fields := #[{ name := "SIOOBE_FORMATTER", type := (.object "java/util/function/BiFunction"), accessFlags := 25, slot := 0, constantValue := 0 }, { name := "AIOOBE_FORMATTER", type := (.object "java/util/function/BiFunction"), accessFlags := 25, slot := 1, constantValue := 0 }, { name := "IOOBE_FORMATTER", type := (.object "java/util/function/BiFunction"), accessFlags := 25, slot := 2, constantValue := 0 }]
  methods := #[k24m0]
  instanceTypes := #[]
  staticTypes := #[(.object "java/util/function/BiFunction"), (.object "java/util/function/BiFunction"), (.object "java/util/function/BiFunction")]
  resolved := Array.replicate 194 none
  statics := some 3 }

def pool25 : Array CpInfo := pool [(9, u "<init>"), (6, .class_ 18), (1, u "java/lang/Object"), (0, u "()V"), (1, .class_ 23), (1, u "jdk/internal/util/ArraysSupport"), (0, u "LOG2_ARRAY_LONG_INDEX_SCALE"), (0, u "I"), (2, u "U"), (0, u "Ljdk/internal/misc/Unsafe;"), (8, u "BIG_ENDIAN"), (0, u "Z"), (8, u "LOG2_BYTE_BIT_SIZE"), (4, u "LOG2_ARRAY_INT_INDEX_SCALE"), (54, u "JLA"), (0, u "Ljdk/internal/access/JavaLangAccess;"), (11, u "LOG2_ARRAY_BOOLEAN_INDEX_SCALE"), (9, u "LOG2_ARRAY_BYTE_INDEX_SCALE"), (5, u "LOG2_ARRAY_CHAR_INDEX_SCALE"), (5, u "LOG2_ARRAY_SHORT_INDEX_SCALE"), (18, u "LOG2_ARRAY_FLOAT_INDEX_SCALE"), (24, u "LOG2_ARRAY_DOUBLE_INDEX_SCALE"), (89, u "T_BOOLEAN"), (2, u "T_CHAR"), (1, u "T_FLOAT"), (1, u "T_DOUBLE"), (1, u "T_BYTE"), (1, u "T_SHORT"), (1, u "T_INT"), (1, u "T_LONG"), (1, u "SOFT_MAX_ARRAY_LENGTH")] 83

def k25m0 : Method := { name := "<init>", desc := "()V", sig := { parameters := [], returnType := none }, accessFlags := 2, code := none }
/-- jdk/internal/util/ArraysSupport -/
def k25 : Class := { plain "jdk/internal/util/ArraysSupport" (some 0) with
  accessFlags := 33
  interfaces := #[]
  cf := some (fileOf pool25 21 #[] #[{ accessFlags := 2, nameIndex := 9, descriptorIndex := 19, attributes := #[] }] 33 16 #[] #[{ accessFlags := 24, nameIndex := 28, descriptorIndex := 29, attributes := #[] }, { accessFlags := 26, nameIndex := 38, descriptorIndex := 39, attributes := #[] }, { accessFlags := 25, nameIndex := 121, descriptorIndex := 25, attributes := #[] }, { accessFlags := 25, nameIndex := 131, descriptorIndex := 25, attributes := #[] }, { accessFlags := 25, nameIndex := 137, descriptorIndex := 25, attributes := #[] }, { accessFlags := 25, nameIndex := 143, descriptorIndex := 25, attributes := #[] }, { accessFlags := 25, nameIndex := 53, descriptorIndex := 25, attributes := #[] }, { accessFlags := 25, nameIndex := 24, descriptorIndex := 25, attributes := #[] }, { accessFlags := 25, nameIndex := 162, descriptorIndex := 25, attributes := #[] }, { accessFlags := 25, nameIndex := 187, descriptorIndex := 25, attributes := #[] }, { accessFlags := 26, nameIndex := 48, descriptorIndex := 25, attributes := #[] }, { accessFlags := 25, nameIndex := 277, descriptorIndex := 25, attributes := #[] }, { accessFlags := 25, nameIndex := 280, descriptorIndex := 25, attributes := #[] }, { accessFlags := 25, nameIndex := 282, descriptorIndex := 25, attributes := #[] }, { accessFlags := 25, nameIndex := 284, descriptorIndex := 25, attributes := #[] }, { accessFlags := 25, nameIndex := 286, descriptorIndex := 25, attributes := #[] }, { accessFlags := 25, nameIndex := 288, descriptorIndex := 25, attributes := #[] }, { accessFlags := 25, nameIndex := 290, descriptorIndex := 25, attributes := #[] }, { accessFlags := 25, nameIndex := 292, descriptorIndex := 25, attributes := #[] }, { accessFlags := 26, nameIndex := 108, descriptorIndex := 109, attributes := #[] }, { accessFlags := 25, nameIndex := 294, descriptorIndex := 25, attributes := #[] }])
  fields := #[{ name := "U", type := (.object "jdk/internal/misc/Unsafe"), accessFlags := 24, slot := 0, constantValue := 0 }, { name := "BIG_ENDIAN", type := .boolean, accessFlags := 26, slot := 1, constantValue := 0 }, { name := "LOG2_ARRAY_BOOLEAN_INDEX_SCALE", type := .int, accessFlags := 25, slot := 2, constantValue := 0 }, { name := "LOG2_ARRAY_BYTE_INDEX_SCALE", type := .int, accessFlags := 25, slot := 3, constantValue := 0 }, { name := "LOG2_ARRAY_CHAR_INDEX_SCALE", type := .int, accessFlags := 25, slot := 4, constantValue := 0 }, { name := "LOG2_ARRAY_SHORT_INDEX_SCALE", type := .int, accessFlags := 25, slot := 5, constantValue := 0 }, { name := "LOG2_ARRAY_INT_INDEX_SCALE", type := .int, accessFlags := 25, slot := 6, constantValue := 0 }, { name := "LOG2_ARRAY_LONG_INDEX_SCALE", type := .int, accessFlags := 25, slot := 7, constantValue := 0 }, { name := "LOG2_ARRAY_FLOAT_INDEX_SCALE", type := .int, accessFlags := 25, slot := 8, constantValue := 0 }, { name := "LOG2_ARRAY_DOUBLE_INDEX_SCALE", type := .int, accessFlags := 25, slot := 9, constantValue := 0 }, { name := "LOG2_BYTE_BIT_SIZE", type := .int, accessFlags := 26, slot := 10, constantValue := 0 }, { name := "T_BOOLEAN", type := .int, accessFlags := 25, slot := 11, constantValue := 0 }, { name := "T_CHAR", type := .int, accessFlags := 25, slot := 12, constantValue := 0 }, { name := "T_FLOAT", type := .int, accessFlags := 25, slot := 13, constantValue := 0 }, { name := "T_DOUBLE", type := .int, accessFlags := 25, slot := 14, constantValue := 0 }, { name := "T_BYTE", type := .int, accessFlags := 25, slot := 15, constantValue := 0 }, { name := "T_SHORT", type := .int, accessFlags := 25, slot := 16, constantValue := 0 }, { name := "T_INT", type := .int, accessFlags := 25, slot := 17, constantValue := 0 }, { name := "T_LONG", type := .int, accessFlags := 25, slot := 18, constantValue := 0 }, { name := "JLA", type := (.object "jdk/internal/access/JavaLangAccess"), accessFlags := 26, slot := 19, constantValue := 0 }, { name := "SOFT_MAX_ARRAY_LENGTH", type := .int, accessFlags := 25, slot := 20, constantValue := 0 }]
  methods := #[k25m0]
  instanceTypes := #[]
  staticTypes := #[(.object "jdk/internal/misc/Unsafe"), .boolean, .int, .int, .int, .int, .int, .int, .int, .int, .int, .int, .int, .int, .int, .int, .int, .int, .int, (.object "jdk/internal/access/JavaLangAccess"), .int]
  resolved := Array.replicate 378 none
  statics := none }

/-- the primitive byte -/
def k26 : Class := { plain "byte" none with kind := .primitive 'B', accessFlags := 0x411 }
/-- [B -/
def k27 : Class := { plain "[B" (some 0) with kind := .array 26 .byte, interfaces := #[21, 2], accessFlags := 1041 }

/-- the primitive char -/
def k28 : Class := { plain "char" none with kind := .primitive 'C', accessFlags := 0x411 }
/-- [C -/
def k29 : Class := { plain "[C" (some 0) with kind := .array 28 .char, interfaces := #[21, 2], accessFlags := 1041 }

/-- the primitive int -/
def k30 : Class := { plain "int" none with kind := .primitive 'I', accessFlags := 0x411 }
/-- [I -/
def k31 : Class := { plain "[I" (some 0) with kind := .array 30 .int, interfaces := #[21, 2], accessFlags := 1041 }

def heap : Heap := #[{ cls := 7, slots := #[.long 0, .int 1, .null, .int 0, .null, .int 0, .int 0], vm := .statics 7 },
  { cls := 15, slots := #[.null, .null, .ref 4, .null, .null, .null], vm := .statics 15 },
  { cls := 19, slots := #[.ref 4, .null], vm := .statics 19 },
  { cls := 24, slots := #[.null, .null, .null], vm := .statics 24 },
  { cls := 19, slots := #[.null, .null, .null], vm := .none }]
def classes : Array Class := #[k0, k1, k2, k3, k4, k5, k6, k7, k8, k9, k10, k11, k12, k13, k14, k15, k16, k17, k18, k19, k20, k21, k22, k23, k24, k25, k26, k27, k28, k29, k30, k31]
def interned : List (Array UInt16 × Addr) := []
def slotsUsed : Nat := 21
def theMethod : MethodId := ⟨1, 1⟩
def args0 : Array Value := #[.int 7, .int 65, .int 233, .int 66]
def aboutOver (below : List Frame) : State where
  vm := { classes := classes, interned := interned.toArray }
  heap := heap
  slotsUsed := slotsUsed
  threads := #[{ frames := .invoking theMethod args0 :: below }]
def below0 : List Frame := [.native { method := ⟨0, 0⟩, args := #[] }]
def about1 : State := aboutOver below0
def p0 : Program := .bare "" "" ""
def e0 : Env := launch0.env 0 0 0
theorem w_frames : about1.frames = Frame.invoking theMethod args0 :: below0 := rfl
set_option maxRecDepth 65536 in
theorem w_args : argsFit about1.vm theMethod args0 = true := by decide +kernel
set_option maxRecDepth 65536 in
theorem w_heap : heapFits about1 = true := by decide +kernel
set_option maxRecDepth 65536 in
theorem w_runnable : about1.curStatus? = some .runnable := by decide +kernel
set_option maxRecDepth 65536 in
theorem w_alone : about1.alone = true := by decide +kernel
set_option maxRecDepth 65536 in
theorem w_named : about1.methodNamed? x = some theMethod := by decide +kernel
set_option maxRecDepth 65536 in
theorem w_hears : about1.hears theMethod below0 = true := by decide +kernel
set_option maxRecDepth 65536 in
theorem w_ripe : about1.ripe theMethod args0 below0 = true := by decide +kernel
theorem w_running : about1.status = .running := rfl
set_option maxRecDepth 65536 in
theorem w_room : about1.hasRoom e0.platform room_1 = true :=
  launch0.hasRoom_least _ room_1 (by decide +kernel) (by decide +kernel) (by decide +kernel) (by decide +kernel) (by decide +kernel) (by decide +kernel)
theorem allAtoms_all (ts : List Jvm.Cond) (a : Array Jvm.Value) (st : Jvm.State) : (allAtoms ts).before a st = ts.all (fun c => c.before a st) := by
  induction ts with
  | nil => rfl
  | cons c t ih =>
    show (Jvm.Cond.and c (allAtoms t)).before a st = _
    rw [Jvm.Cond.before_and, ih, List.all_cons]
def words1 : List Jvm.Cond := Jvm.Cond.code x code maxLocals ret :: tables_1
/-- a 'code' word, met by the world's own term for the bytes: nothing is compared byte by byte -/
theorem code_word {y : MethodName} {bytes : ByteArray} {mx : Nat} {rt : Option FieldType} {a : Array Value} {s : State} {m : MethodId} {meth : Method} {c : Code} (h1 : s.methodNamed? y = some m) (h2 : s.vm.method? m = some meth) (h3 : meth.code = some c) (h4 : c.code = bytes)
    (h5 : (c.maxLocals == mx && c.exceptionTable.isEmpty && decide (c.maxStack ≤ mostOperands) && decide (meth.sig.returnType = rt) && !meth.locks && decide (parseMethodDescriptor y.desc = some meth.sig)) = true) : (Jvm.Cond.code y bytes mx rt).before a s = true := by
  simp only [Bool.and_eq_true, beq_iff_eq, Bool.not_eq_true', decide_eq_true_eq] at h5
  obtain ⟨⟨⟨⟨⟨g1, g2⟩, g3⟩, g4⟩, g5⟩, g6⟩ := h5
  simp [Cond.before, Cond.holds, Cond.value, h1, h2, h3, h4, g1, g2, g3, g4, g5, g6]
def isCode : Jvm.Cond → Bool
  | .code _ _ _ _ => true
  | _ => false
theorem all_split {L : List Jvm.Cond} {P : Jvm.Cond → Bool} (h1 : L.all (fun c => isCode c || P c) = true) (h2 : ∀ c ∈ L.filter isCode, P c = true) : L.all P = true := by
  refine List.all_eq_true.mpr fun c hc => ?_
  have h := List.all_eq_true.mp h1 c hc
  rcases Bool.eq_false_or_eq_true (isCode c) with hi | hi
  · exact h2 c (List.mem_filter.mpr ⟨hc, hi⟩)
  · simpa [hi] using h
set_option maxRecDepth 65536 in
theorem w_c0 : (Jvm.Cond.code x code maxLocals ret).before args0 about1 = true := code_word (m := ⟨1, 1⟩) (meth := k1m1) (c := k1c1) (by decide +kernel) rfl rfl rfl (by decide +kernel)
set_option maxRecDepth 65536 in
theorem w_c1 : (Jvm.Cond.code ({ cls := "java/lang/String", name := "<init>", desc := "([C)V" } : Jvm.MethodName) jdk_42_method_3_code (2 : Nat) (Option.none : Option Jvm.ClassFile.FieldType)).before args0 about1 = true := code_word (m := ⟨7, 1⟩) (meth := k7m1) (c := k7c1) (by decide +kernel) rfl rfl rfl (by decide +kernel)
set_option maxRecDepth 65536 in
theorem w_c2 : (Jvm.Cond.code ({ cls := "java/lang/String", name := "<init>", desc := "([CIILjava/lang/Void;)V" } : Jvm.MethodName) jdk_42_method_149_code (6 : Nat) (Option.none : Option Jvm.ClassFile.FieldType)).before args0 about1 = true := code_word (m := ⟨7, 8⟩) (meth := k7m8) (c := k7c8) (by decide +kernel) rfl rfl rfl (by decide +kernel)
set_option maxRecDepth 65536 in
theorem w_c3 : (Jvm.Cond.code ({ cls := "java/lang/Object", name := "<init>", desc := "()V" } : Jvm.MethodName) object_method_1_code (1 : Nat) (Option.none : Option Jvm.ClassFile.FieldType)).before args0 about1 = true := code_word (m := ⟨0, 0⟩) (meth := k0m0) (c := k0c0) (by decide +kernel) rfl rfl rfl (by decide +kernel)
set_option maxRecDepth 65536 in
theorem w_c4 : (Jvm.Cond.code ({ cls := "com/example/marshal/marshal/pipelines/LogLines", name := "line", desc := "(Ljava/lang/String;Z)[B" } : Jvm.MethodName) prog_32_method_3_code (3 : Nat) (Option.some (Jvm.ClassFile.FieldType.array Jvm.ClassFile.FieldType.byte))).before args0 about1 = true := code_word (m := ⟨8, 1⟩) (meth := k8m1) (c := k8c1) (by decide +kernel) rfl rfl rfl (by decide +kernel)
set_option maxRecDepth 65536 in
theorem w_c5 : (Jvm.Cond.code ({ cls := "java/lang/StringBuilder", name := "<init>", desc := "()V" } : Jvm.MethodName) jdk_67_method_1_code (1 : Nat) (Option.none : Option Jvm.ClassFile.FieldType)).before args0 about1 = true := code_word (m := ⟨11, 0⟩) (meth := k11m0) (c := k11c0) (by decide +kernel) rfl rfl rfl (by decide +kernel)
set_option maxRecDepth 65536 in
theorem w_c6 : (Jvm.Cond.code ({ cls := "java/lang/AbstractStringBuilder", name := "<init>", desc := "(I)V" } : Jvm.MethodName) jdk_68_method_2_code (2 : Nat) (Option.none : Option Jvm.ClassFile.FieldType)).before args0 about1 = true := code_word (m := ⟨10, 1⟩) (meth := k10m1) (c := k10c1) (by decide +kernel) rfl rfl rfl (by decide +kernel)
set_option maxRecDepth 65536 in
theorem w_c7 : (Jvm.Cond.code ({ cls := "java/lang/StringBuilder", name := "append", desc := "(Ljava/lang/String;)Ljava/lang/StringBuilder;" } : Jvm.MethodName) jdk_67_method_7_code (2 : Nat) (Option.some (Jvm.ClassFile.FieldType.object "java/lang/StringBuilder"))).before args0 about1 = true := code_word (m := ⟨11, 1⟩) (meth := k11m1) (c := k11c1) (by decide +kernel) rfl rfl rfl (by decide +kernel)
set_option maxRecDepth 65536 in
theorem w_c8 : (Jvm.Cond.code ({ cls := "java/lang/AbstractStringBuilder", name := "append", desc := "(Ljava/lang/String;)Ljava/lang/AbstractStringBuilder;" } : Jvm.MethodName) jdk_68_method_22_code (3 : Nat) (Option.some (Jvm.ClassFile.FieldType.object "java/lang/AbstractStringBuilder"))).before args0 about1 = true := code_word (m := ⟨10, 4⟩) (meth := k10m4) (c := k10c4) (by decide +kernel) rfl rfl rfl (by decide +kernel)
set_option maxRecDepth 65536 in
theorem w_c9 : (Jvm.Cond.code ({ cls := "java/lang/String", name := "length", desc := "()I" } : Jvm.MethodName) jdk_42_method_54_code (1 : Nat) (Option.some Jvm.ClassFile.FieldType.int)).before args0 about1 = true := code_word (m := ⟨7, 5⟩) (meth := k7m5) (c := k7c5) (by decide +kernel) rfl rfl rfl (by decide +kernel)
set_option maxRecDepth 65536 in
theorem w_c10 : (Jvm.Cond.code ({ cls := "java/lang/String", name := "coder", desc := "()B" } : Jvm.MethodName) jdk_42_method_152_code (1 : Nat) (Option.some Jvm.ClassFile.FieldType.byte)).before args0 about1 = true := code_word (m := ⟨7, 10⟩) (meth := k7m10) (c := k7c10) (by decide +kernel) rfl rfl rfl (by decide +kernel)
set_option maxRecDepth 65536 in
theorem w_c11 : (Jvm.Cond.code ({ cls := "java/lang/AbstractStringBuilder", name := "ensureCapacityInternal", desc := "(I)V" } : Jvm.MethodName) jdk_68_method_9_code (3 : Nat) (Option.none : Option Jvm.ClassFile.FieldType)).before args0 about1 = true := code_word (m := ⟨10, 3⟩) (meth := k10m3) (c := k10c3) (by decide +kernel) rfl rfl rfl (by decide +kernel)
set_option maxRecDepth 65536 in
theorem w_c12 : (Jvm.Cond.code ({ cls := "java/lang/AbstractStringBuilder", name := "putStringAt", desc := "(ILjava/lang/String;)V" } : Jvm.MethodName) jdk_68_method_73_code (3 : Nat) (Option.none : Option Jvm.ClassFile.FieldType)).before args0 about1 = true := code_word (m := ⟨10, 8⟩) (meth := k10m8) (c := k10c8) (by decide +kernel) rfl rfl rfl (by decide +kernel)
set_option maxRecDepth 65536 in
theorem w_c13 : (Jvm.Cond.code ({ cls := "java/lang/AbstractStringBuilder", name := "inflateIfNeededFor", desc := "(Ljava/lang/String;)V" } : Jvm.MethodName) jdk_68_method_71_code (2 : Nat) (Option.none : Option Jvm.ClassFile.FieldType)).before args0 about1 = true := code_word (m := ⟨10, 7⟩) (meth := k10m7) (c := k10c7) (by decide +kernel) rfl rfl rfl (by decide +kernel)
set_option maxRecDepth 65536 in
theorem w_c14 : (Jvm.Cond.code ({ cls := "java/lang/String", name := "getBytes", desc := "([BIB)V" } : Jvm.MethodName) jdk_42_method_147_code (4 : Nat) (Option.none : Option Jvm.ClassFile.FieldType)).before args0 about1 = true := code_word (m := ⟨7, 7⟩) (meth := k7m7) (c := k7c7) (by decide +kernel) rfl rfl rfl (by decide +kernel)
set_option maxRecDepth 65536 in
theorem w_c15 : (Jvm.Cond.code ({ cls := "java/lang/StringBuilder", name := "toString", desc := "()Ljava/lang/String;" } : Jvm.MethodName) jdk_67_method_42_code (1 : Nat) (Option.some (Jvm.ClassFile.FieldType.object "java/lang/String"))).before args0 about1 = true := code_word (m := ⟨11, 2⟩) (meth := k11m2) (c := k11c2) (by decide +kernel) rfl rfl rfl (by decide +kernel)
set_option maxRecDepth 65536 in
theorem w_c16 : (Jvm.Cond.code ({ cls := "java/lang/String", name := "<init>", desc := "(Ljava/lang/StringBuilder;)V" } : Jvm.MethodName) jdk_42_method_53_code (2 : Nat) (Option.none : Option Jvm.ClassFile.FieldType)).before args0 about1 = true := code_word (m := ⟨7, 4⟩) (meth := k7m4) (c := k7c4) (by decide +kernel) rfl rfl rfl (by decide +kernel)
set_option maxRecDepth 65536 in
theorem w_c17 : (Jvm.Cond.code ({ cls := "java/lang/String", name := "<init>", desc := "(Ljava/lang/AbstractStringBuilder;Ljava/lang/Void;)V" } : Jvm.MethodName) jdk_42_method_150_code (5 : Nat) (Option.none : Option Jvm.ClassFile.FieldType)).before args0 about1 = true := code_word (m := ⟨7, 9⟩) (meth := k7m9) (c := k7c9) (by decide +kernel) rfl rfl rfl (by decide +kernel)
set_option maxRecDepth 65536 in
theorem w_c18 : (Jvm.Cond.code ({ cls := "java/lang/AbstractStringBuilder", name := "getValue", desc := "()[B" } : Jvm.MethodName) jdk_68_method_64_code (1 : Nat) (Option.some (Jvm.ClassFile.FieldType.array Jvm.ClassFile.FieldType.byte))).before args0 about1 = true := code_word (m := ⟨10, 5⟩) (meth := k10m5) (c := k10c5) (by decide +kernel) rfl rfl rfl (by decide +kernel)
set_option maxRecDepth 65536 in
theorem w_c19 : (Jvm.Cond.code ({ cls := "java/lang/StringBuilder", name := "length", desc := "()I" } : Jvm.MethodName) jdk_67_method_93_code (1 : Nat) (Option.some Jvm.ClassFile.FieldType.int)).before args0 about1 = true := code_word (m := ⟨11, 3⟩) (meth := k11m3) (c := k11c3) (by decide +kernel) rfl rfl rfl (by decide +kernel)
set_option maxRecDepth 65536 in
theorem w_c20 : (Jvm.Cond.code ({ cls := "java/lang/AbstractStringBuilder", name := "length", desc := "()I" } : Jvm.MethodName) jdk_68_method_6_code (1 : Nat) (Option.some Jvm.ClassFile.FieldType.int)).before args0 about1 = true := code_word (m := ⟨10, 2⟩) (meth := k10m2) (c := k10c2) (by decide +kernel) rfl rfl rfl (by decide +kernel)
set_option maxRecDepth 65536 in
theorem w_c21 : (Jvm.Cond.code ({ cls := "java/lang/AbstractStringBuilder", name := "isLatin1", desc := "()Z" } : Jvm.MethodName) jdk_68_method_68_code (1 : Nat) (Option.some Jvm.ClassFile.FieldType.boolean)).before args0 about1 = true := code_word (m := ⟨10, 6⟩) (meth := k10m6) (c := k10c6) (by decide +kernel) rfl rfl rfl (by decide +kernel)
set_option maxRecDepth 65536 in
theorem w_c22 : (Jvm.Cond.code ({ cls := "java/util/Arrays", name := "copyOfRange", desc := "([BII)[B" } : Jvm.MethodName) jdk_65_method_132_code (3 : Nat) (Option.some (Jvm.ClassFile.FieldType.array Jvm.ClassFile.FieldType.byte))).before args0 about1 = true := code_word (m := ⟨13, 3⟩) (meth := k13m3) (c := k13c3) (by decide +kernel) rfl rfl rfl (by decide +kernel)
set_option maxRecDepth 65536 in
theorem w_c23 : (Jvm.Cond.code ({ cls := "java/util/Arrays", name := "copyOfRangeByte", desc := "([BII)[B" } : Jvm.MethodName) jdk_65_method_133_code (5 : Nat) (Option.some (Jvm.ClassFile.FieldType.array Jvm.ClassFile.FieldType.byte))).before args0 about1 = true := code_word (m := ⟨13, 4⟩) (meth := k13m4) (c := k13c4) (by decide +kernel) rfl rfl rfl (by decide +kernel)
set_option maxRecDepth 65536 in
theorem w_c24 : (Jvm.Cond.code ({ cls := "java/util/Arrays", name := "checkLength", desc := "(II)V" } : Jvm.MethodName) jdk_65_method_131_code (2 : Nat) (Option.none : Option Jvm.ClassFile.FieldType)).before args0 about1 = true := code_word (m := ⟨13, 2⟩) (meth := k13m2) (c := k13c2) (by decide +kernel) rfl rfl rfl (by decide +kernel)
set_option maxRecDepth 65536 in
theorem w_c25 : (Jvm.Cond.code ({ cls := "java/lang/Math", name := "min", desc := "(II)I" } : Jvm.MethodName) jdk_29_method_69_code (2 : Nat) (Option.some Jvm.ClassFile.FieldType.int)).before args0 about1 = true := code_word (m := ⟨14, 1⟩) (meth := k14m1) (c := k14c1) (by decide +kernel) rfl rfl rfl (by decide +kernel)
set_option maxRecDepth 65536 in
theorem w_c26 : (Jvm.Cond.code ({ cls := "java/lang/String", name := "getBytes", desc := "(Ljava/nio/charset/Charset;)[B" } : Jvm.MethodName) jdk_42_method_64_code (2 : Nat) (Option.some (Jvm.ClassFile.FieldType.array Jvm.ClassFile.FieldType.byte))).before args0 about1 = true := code_word (m := ⟨7, 6⟩) (meth := k7m6) (c := k7c6) (by decide +kernel) rfl rfl rfl (by decide +kernel)
set_option maxRecDepth 65536 in
theorem w_c27 : (Jvm.Cond.code ({ cls := "java/lang/String", name := "encode", desc := "(Ljava/nio/charset/Charset;B[B)[B" } : Jvm.MethodName) jdk_42_method_18_code (3 : Nat) (Option.some (Jvm.ClassFile.FieldType.array Jvm.ClassFile.FieldType.byte))).before args0 about1 = true := code_word (m := ⟨7, 2⟩) (meth := k7m2) (c := k7c2) (by decide +kernel) rfl rfl rfl (by decide +kernel)
set_option maxRecDepth 65536 in
theorem w_c28 : (Jvm.Cond.code ({ cls := "java/lang/String", name := "encodeUTF8", desc := "(B[BZ)[B" } : Jvm.MethodName) jdk_42_method_46_code (9 : Nat) (Option.some (Jvm.ClassFile.FieldType.array Jvm.ClassFile.FieldType.byte))).before args0 about1 = true := code_word (m := ⟨7, 3⟩) (meth := k7m3) (c := k7c3) (by decide +kernel) rfl rfl rfl (by decide +kernel)
set_option maxRecDepth 65536 in
theorem w_c29 : (Jvm.Cond.code ({ cls := "java/lang/StringCoding", name := "hasNegatives", desc := "([BII)Z" } : Jvm.MethodName) jdk_123_method_2_code (3 : Nat) (Option.some Jvm.ClassFile.FieldType.boolean)).before args0 about1 = true := code_word (m := ⟨20, 1⟩) (meth := k20m1) (c := k20c1) (by decide +kernel) rfl rfl rfl (by decide +kernel)
set_option maxRecDepth 65536 in
theorem w_c30 : (Jvm.Cond.code ({ cls := "java/lang/StringCoding", name := "countPositives", desc := "([BII)I" } : Jvm.MethodName) jdk_123_method_3_code (5 : Nat) (Option.some Jvm.ClassFile.FieldType.int)).before args0 about1 = true := code_word (m := ⟨20, 2⟩) (meth := k20m2) (c := k20c2) (by decide +kernel) rfl rfl rfl (by decide +kernel)
set_option maxRecDepth 65536 in
theorem w_c31 : (Jvm.Cond.code ({ cls := "com/example/marshal/marshal/pipelines/LogLinesLinePinLaw", name := "same", desc := "([B[BI)Z" } : Jvm.MethodName) method_4_code (3 : Nat) (Option.some Jvm.ClassFile.FieldType.boolean)).before args0 about1 = true := code_word (m := ⟨1, 3⟩) (meth := k1m3) (c := k1c3) (by decide +kernel) rfl rfl rfl (by decide +kernel)
set_option maxRecDepth 65536 in
theorem w_c32 : (Jvm.Cond.code ({ cls := "com/example/marshal/marshal/pipelines/LogLinesLinePinLaw", name := "at", desc := "([B[BII)Z" } : Jvm.MethodName) method_5_code (4 : Nat) (Option.some Jvm.ClassFile.FieldType.boolean)).before args0 about1 = true := code_word (m := ⟨1, 4⟩) (meth := k1m4) (c := k1c4) (by decide +kernel) rfl rfl rfl (by decide +kernel)
set_option maxRecDepth 65536 in
theorem w_c33 : (Jvm.Cond.code ({ cls := "java/lang/StringUTF16", name := "compress", desc := "([CII)[B" } : Jvm.MethodName) jdk_52_method_16_code (6 : Nat) (Option.some (Jvm.ClassFile.FieldType.array Jvm.ClassFile.FieldType.byte))).before args0 about1 = true := code_word (m := ⟨22, 4⟩) (meth := k22m4) (c := k22c4) (by decide +kernel) rfl rfl rfl (by decide +kernel)
set_option maxRecDepth 65536 in
theorem w_c34 : (Jvm.Cond.code ({ cls := "java/lang/StringUTF16", name := "compress", desc := "([CI[BII)I" } : Jvm.MethodName) jdk_52_method_21_code (7 : Nat) (Option.some Jvm.ClassFile.FieldType.int)).before args0 about1 = true := code_word (m := ⟨22, 5⟩) (meth := k22m5) (c := k22c5) (by decide +kernel) rfl rfl rfl (by decide +kernel)
set_option maxRecDepth 65536 in
theorem w_c35 : (Jvm.Cond.code ({ cls := "java/lang/StringUTF16", name := "coderFromArrayLen", desc := "([BI)B" } : Jvm.MethodName) jdk_52_method_15_code (2 : Nat) (Option.some Jvm.ClassFile.FieldType.byte)).before args0 about1 = true := code_word (m := ⟨22, 3⟩) (meth := k22m3) (c := k22c3) (by decide +kernel) rfl rfl rfl (by decide +kernel)
set_option maxRecDepth 65536 in
theorem w_c36 : (Jvm.Cond.code ({ cls := "com/example/marshal/marshal/pipelines/LogLinesLinePinLaw", name := "put", desc := "([BIC)I" } : Jvm.MethodName) method_3_code (3 : Nat) (Option.some Jvm.ClassFile.FieldType.int)).before args0 about1 = true := code_word (m := ⟨1, 2⟩) (meth := k1m2) (c := k1c2) (by decide +kernel) rfl rfl rfl (by decide +kernel)
set_option maxRecDepth 65536 in
theorem w_c37 : (Jvm.Cond.code ({ cls := "java/lang/StringUTF16", name := "newBytesFor", desc := "(I)[B" } : Jvm.MethodName) jdk_52_method_2_code (1 : Nat) (Option.some (Jvm.ClassFile.FieldType.array Jvm.ClassFile.FieldType.byte))).before args0 about1 = true := code_word (m := ⟨22, 1⟩) (meth := k22m1) (c := k22c1) (by decide +kernel) rfl rfl rfl (by decide +kernel)
set_option maxRecDepth 65536 in
theorem w_c38 : (Jvm.Cond.code ({ cls := "java/lang/StringUTF16", name := "newBytesLength", desc := "(I)I" } : Jvm.MethodName) jdk_52_method_3_code (1 : Nat) (Option.some Jvm.ClassFile.FieldType.int)).before args0 about1 = true := code_word (m := ⟨22, 2⟩) (meth := k22m2) (c := k22c2) (by decide +kernel) rfl rfl rfl (by decide +kernel)
set_option maxRecDepth 65536 in
theorem w_c39 : (Jvm.Cond.code ({ cls := "java/util/Arrays", name := "copyOf", desc := "([BI)[B" } : Jvm.MethodName) jdk_65_method_121_code (3 : Nat) (Option.some (Jvm.ClassFile.FieldType.array Jvm.ClassFile.FieldType.byte))).before args0 about1 = true := code_word (m := ⟨13, 1⟩) (meth := k13m1) (c := k13c1) (by decide +kernel) rfl rfl rfl (by decide +kernel)
def codes1 : List Jvm.Cond := [Jvm.Cond.code x code maxLocals ret, Jvm.Cond.code ({ cls := "java/lang/String", name := "<init>", desc := "([C)V" } : Jvm.MethodName) jdk_42_method_3_code (2 : Nat) (Option.none : Option Jvm.ClassFile.FieldType), Jvm.Cond.code ({ cls := "java/lang/String", name := "<init>", desc := "([CIILjava/lang/Void;)V" } : Jvm.MethodName) jdk_42_method_149_code (6 : Nat) (Option.none : Option Jvm.ClassFile.FieldType), Jvm.Cond.code ({ cls := "java/lang/Object", name := "<init>", desc := "()V" } : Jvm.MethodName) object_method_1_code (1 : Nat) (Option.none : Option Jvm.ClassFile.FieldType), Jvm.Cond.code ({ cls := "com/example/marshal/marshal/pipelines/LogLines", name := "line", desc := "(Ljava/lang/String;Z)[B" } : Jvm.MethodName) prog_32_method_3_code (3 : Nat) (Option.some (Jvm.ClassFile.FieldType.array Jvm.ClassFile.FieldType.byte)), Jvm.Cond.code ({ cls := "java/lang/StringBuilder", name := "<init>", desc := "()V" } : Jvm.MethodName) jdk_67_method_1_code (1 : Nat) (Option.none : Option Jvm.ClassFile.FieldType), Jvm.Cond.code ({ cls := "java/lang/AbstractStringBuilder", name := "<init>", desc := "(I)V" } : Jvm.MethodName) jdk_68_method_2_code (2 : Nat) (Option.none : Option Jvm.ClassFile.FieldType), Jvm.Cond.code ({ cls := "java/lang/StringBuilder", name := "append", desc := "(Ljava/lang/String;)Ljava/lang/StringBuilder;" } : Jvm.MethodName) jdk_67_method_7_code (2 : Nat) (Option.some (Jvm.ClassFile.FieldType.object "java/lang/StringBuilder")), Jvm.Cond.code ({ cls := "java/lang/AbstractStringBuilder", name := "append", desc := "(Ljava/lang/String;)Ljava/lang/AbstractStringBuilder;" } : Jvm.MethodName) jdk_68_method_22_code (3 : Nat) (Option.some (Jvm.ClassFile.FieldType.object "java/lang/AbstractStringBuilder")), Jvm.Cond.code ({ cls := "java/lang/String", name := "length", desc := "()I" } : Jvm.MethodName) jdk_42_method_54_code (1 : Nat) (Option.some Jvm.ClassFile.FieldType.int), Jvm.Cond.code ({ cls := "java/lang/String", name := "coder", desc := "()B" } : Jvm.MethodName) jdk_42_method_152_code (1 : Nat) (Option.some Jvm.ClassFile.FieldType.byte), Jvm.Cond.code ({ cls := "java/lang/AbstractStringBuilder", name := "ensureCapacityInternal", desc := "(I)V" } : Jvm.MethodName) jdk_68_method_9_code (3 : Nat) (Option.none : Option Jvm.ClassFile.FieldType), Jvm.Cond.code ({ cls := "java/lang/AbstractStringBuilder", name := "putStringAt", desc := "(ILjava/lang/String;)V" } : Jvm.MethodName) jdk_68_method_73_code (3 : Nat) (Option.none : Option Jvm.ClassFile.FieldType), Jvm.Cond.code ({ cls := "java/lang/AbstractStringBuilder", name := "inflateIfNeededFor", desc := "(Ljava/lang/String;)V" } : Jvm.MethodName) jdk_68_method_71_code (2 : Nat) (Option.none : Option Jvm.ClassFile.FieldType), Jvm.Cond.code ({ cls := "java/lang/String", name := "getBytes", desc := "([BIB)V" } : Jvm.MethodName) jdk_42_method_147_code (4 : Nat) (Option.none : Option Jvm.ClassFile.FieldType), Jvm.Cond.code ({ cls := "java/lang/StringBuilder", name := "toString", desc := "()Ljava/lang/String;" } : Jvm.MethodName) jdk_67_method_42_code (1 : Nat) (Option.some (Jvm.ClassFile.FieldType.object "java/lang/String")), Jvm.Cond.code ({ cls := "java/lang/String", name := "<init>", desc := "(Ljava/lang/StringBuilder;)V" } : Jvm.MethodName) jdk_42_method_53_code (2 : Nat) (Option.none : Option Jvm.ClassFile.FieldType), Jvm.Cond.code ({ cls := "java/lang/String", name := "<init>", desc := "(Ljava/lang/AbstractStringBuilder;Ljava/lang/Void;)V" } : Jvm.MethodName) jdk_42_method_150_code (5 : Nat) (Option.none : Option Jvm.ClassFile.FieldType), Jvm.Cond.code ({ cls := "java/lang/AbstractStringBuilder", name := "getValue", desc := "()[B" } : Jvm.MethodName) jdk_68_method_64_code (1 : Nat) (Option.some (Jvm.ClassFile.FieldType.array Jvm.ClassFile.FieldType.byte)), Jvm.Cond.code ({ cls := "java/lang/StringBuilder", name := "length", desc := "()I" } : Jvm.MethodName) jdk_67_method_93_code (1 : Nat) (Option.some Jvm.ClassFile.FieldType.int), Jvm.Cond.code ({ cls := "java/lang/AbstractStringBuilder", name := "length", desc := "()I" } : Jvm.MethodName) jdk_68_method_6_code (1 : Nat) (Option.some Jvm.ClassFile.FieldType.int), Jvm.Cond.code ({ cls := "java/lang/AbstractStringBuilder", name := "isLatin1", desc := "()Z" } : Jvm.MethodName) jdk_68_method_68_code (1 : Nat) (Option.some Jvm.ClassFile.FieldType.boolean), Jvm.Cond.code ({ cls := "java/util/Arrays", name := "copyOfRange", desc := "([BII)[B" } : Jvm.MethodName) jdk_65_method_132_code (3 : Nat) (Option.some (Jvm.ClassFile.FieldType.array Jvm.ClassFile.FieldType.byte)), Jvm.Cond.code ({ cls := "java/util/Arrays", name := "copyOfRangeByte", desc := "([BII)[B" } : Jvm.MethodName) jdk_65_method_133_code (5 : Nat) (Option.some (Jvm.ClassFile.FieldType.array Jvm.ClassFile.FieldType.byte)), Jvm.Cond.code ({ cls := "java/util/Arrays", name := "checkLength", desc := "(II)V" } : Jvm.MethodName) jdk_65_method_131_code (2 : Nat) (Option.none : Option Jvm.ClassFile.FieldType), Jvm.Cond.code ({ cls := "java/lang/Math", name := "min", desc := "(II)I" } : Jvm.MethodName) jdk_29_method_69_code (2 : Nat) (Option.some Jvm.ClassFile.FieldType.int), Jvm.Cond.code ({ cls := "java/lang/String", name := "getBytes", desc := "(Ljava/nio/charset/Charset;)[B" } : Jvm.MethodName) jdk_42_method_64_code (2 : Nat) (Option.some (Jvm.ClassFile.FieldType.array Jvm.ClassFile.FieldType.byte)), Jvm.Cond.code ({ cls := "java/lang/String", name := "encode", desc := "(Ljava/nio/charset/Charset;B[B)[B" } : Jvm.MethodName) jdk_42_method_18_code (3 : Nat) (Option.some (Jvm.ClassFile.FieldType.array Jvm.ClassFile.FieldType.byte)), Jvm.Cond.code ({ cls := "java/lang/String", name := "encodeUTF8", desc := "(B[BZ)[B" } : Jvm.MethodName) jdk_42_method_46_code (9 : Nat) (Option.some (Jvm.ClassFile.FieldType.array Jvm.ClassFile.FieldType.byte)), Jvm.Cond.code ({ cls := "java/lang/StringCoding", name := "hasNegatives", desc := "([BII)Z" } : Jvm.MethodName) jdk_123_method_2_code (3 : Nat) (Option.some Jvm.ClassFile.FieldType.boolean), Jvm.Cond.code ({ cls := "java/lang/StringCoding", name := "countPositives", desc := "([BII)I" } : Jvm.MethodName) jdk_123_method_3_code (5 : Nat) (Option.some Jvm.ClassFile.FieldType.int), Jvm.Cond.code ({ cls := "com/example/marshal/marshal/pipelines/LogLinesLinePinLaw", name := "same", desc := "([B[BI)Z" } : Jvm.MethodName) method_4_code (3 : Nat) (Option.some Jvm.ClassFile.FieldType.boolean), Jvm.Cond.code ({ cls := "com/example/marshal/marshal/pipelines/LogLinesLinePinLaw", name := "at", desc := "([B[BII)Z" } : Jvm.MethodName) method_5_code (4 : Nat) (Option.some Jvm.ClassFile.FieldType.boolean), Jvm.Cond.code ({ cls := "java/lang/StringUTF16", name := "compress", desc := "([CII)[B" } : Jvm.MethodName) jdk_52_method_16_code (6 : Nat) (Option.some (Jvm.ClassFile.FieldType.array Jvm.ClassFile.FieldType.byte)), Jvm.Cond.code ({ cls := "java/lang/StringUTF16", name := "compress", desc := "([CI[BII)I" } : Jvm.MethodName) jdk_52_method_21_code (7 : Nat) (Option.some Jvm.ClassFile.FieldType.int), Jvm.Cond.code ({ cls := "java/lang/StringUTF16", name := "coderFromArrayLen", desc := "([BI)B" } : Jvm.MethodName) jdk_52_method_15_code (2 : Nat) (Option.some Jvm.ClassFile.FieldType.byte), Jvm.Cond.code ({ cls := "com/example/marshal/marshal/pipelines/LogLinesLinePinLaw", name := "put", desc := "([BIC)I" } : Jvm.MethodName) method_3_code (3 : Nat) (Option.some Jvm.ClassFile.FieldType.int), Jvm.Cond.code ({ cls := "java/lang/StringUTF16", name := "newBytesFor", desc := "(I)[B" } : Jvm.MethodName) jdk_52_method_2_code (1 : Nat) (Option.some (Jvm.ClassFile.FieldType.array Jvm.ClassFile.FieldType.byte)), Jvm.Cond.code ({ cls := "java/lang/StringUTF16", name := "newBytesLength", desc := "(I)I" } : Jvm.MethodName) jdk_52_method_3_code (1 : Nat) (Option.some Jvm.ClassFile.FieldType.int), Jvm.Cond.code ({ cls := "java/util/Arrays", name := "copyOf", desc := "([BI)[B" } : Jvm.MethodName) jdk_65_method_121_code (3 : Nat) (Option.some (Jvm.ClassFile.FieldType.array Jvm.ClassFile.FieldType.byte))]
set_option maxRecDepth 65536 in
theorem codes_eq : words1.filter isCode = codes1 := rfl
theorem w_codes : ∀ c ∈ words1.filter isCode, c.before args0 about1 = true := by
  rw [codes_eq]
  intro c hc
  simp only [codes1, List.mem_cons, List.not_mem_nil, or_false] at hc
  rcases hc with rfl | rfl | rfl | rfl | rfl | rfl | rfl | rfl | rfl | rfl | rfl | rfl | rfl | rfl | rfl | rfl | rfl | rfl | rfl | rfl | rfl | rfl | rfl | rfl | rfl | rfl | rfl | rfl | rfl | rfl | rfl | rfl | rfl | rfl | rfl | rfl | rfl | rfl | rfl | rfl
  · exact w_c0
  · exact w_c1
  · exact w_c2
  · exact w_c3
  · exact w_c4
  · exact w_c5
  · exact w_c6
  · exact w_c7
  · exact w_c8
  · exact w_c9
  · exact w_c10
  · exact w_c11
  · exact w_c12
  · exact w_c13
  · exact w_c14
  · exact w_c15
  · exact w_c16
  · exact w_c17
  · exact w_c18
  · exact w_c19
  · exact w_c20
  · exact w_c21
  · exact w_c22
  · exact w_c23
  · exact w_c24
  · exact w_c25
  · exact w_c26
  · exact w_c27
  · exact w_c28
  · exact w_c29
  · exact w_c30
  · exact w_c31
  · exact w_c32
  · exact w_c33
  · exact w_c34
  · exact w_c35
  · exact w_c36
  · exact w_c37
  · exact w_c38
  · exact w_c39
set_option maxRecDepth 65536 in
theorem w_t1 : (words1.take 24).all (fun c => isCode c || c.before args0 about1) = true := by decide +kernel
set_option maxRecDepth 65536 in
theorem w_t2 : ((words1.drop 24).take 24).all (fun c => isCode c || c.before args0 about1) = true := by decide +kernel
set_option maxRecDepth 65536 in
theorem w_t3 : (((words1.drop 24).drop 24).take 24).all (fun c => isCode c || c.before args0 about1) = true := by decide +kernel
set_option maxRecDepth 65536 in
theorem w_t4 : ((((words1.drop 24).drop 24).drop 24).take 24).all (fun c => isCode c || c.before args0 about1) = true := by decide +kernel
set_option maxRecDepth 65536 in
theorem w_t5 : (((((words1.drop 24).drop 24).drop 24).drop 24).take 24).all (fun c => isCode c || c.before args0 about1) = true := by decide +kernel
set_option maxRecDepth 65536 in
theorem w_t6 : ((((((words1.drop 24).drop 24).drop 24).drop 24).drop 24).take 24).all (fun c => isCode c || c.before args0 about1) = true := by decide +kernel
set_option maxRecDepth 65536 in
theorem w_t7 : (((((((words1.drop 24).drop 24).drop 24).drop 24).drop 24).drop 24).take 24).all (fun c => isCode c || c.before args0 about1) = true := by decide +kernel
set_option maxRecDepth 65536 in
theorem w_t8 : ((((((((words1.drop 24).drop 24).drop 24).drop 24).drop 24).drop 24).drop 24).take 24).all (fun c => isCode c || c.before args0 about1) = true := by decide +kernel
set_option maxRecDepth 65536 in
theorem w_t9 : ((((((((words1.drop 24).drop 24).drop 24).drop 24).drop 24).drop 24).drop 24).drop 24).all (fun c => isCode c || c.before args0 about1) = true := by decide +kernel
theorem w_tables : (allAtoms (Jvm.Cond.code x code maxLocals ret :: tables_1)).before args0 about1 = true := by
  rw [allAtoms_all]
  show words1.all (fun c => c.before args0 about1) = true
  refine all_split ?_ w_codes
  rw [← List.take_append_drop 24 words1, List.all_append, w_t1, ← List.take_append_drop 24 (words1.drop 24), List.all_append, w_t2, ← List.take_append_drop 24 ((words1.drop 24).drop 24), List.all_append, w_t3, ← List.take_append_drop 24 (((words1.drop 24).drop 24).drop 24), List.all_append, w_t4, ← List.take_append_drop 24 ((((words1.drop 24).drop 24).drop 24).drop 24), List.all_append, w_t5, ← List.take_append_drop 24 (((((words1.drop 24).drop 24).drop 24).drop 24).drop 24), List.all_append, w_t6, ← List.take_append_drop 24 ((((((words1.drop 24).drop 24).drop 24).drop 24).drop 24).drop 24), List.all_append, w_t7, ← List.take_append_drop 24 (((((((words1.drop 24).drop 24).drop 24).drop 24).drop 24).drop 24).drop 24), List.all_append, w_t8, w_t9]
  rfl
set_option maxRecDepth 65536 in
theorem w_rest : rest_1_c.before args0 about1 = true := by decide +kernel
set_option maxRecDepth 65536 in
theorem w_case : (Jvm.Cond.and given_1 narrow_1).before args0 about1 = true := by decide +kernel
set_option maxRecDepth 65536 in
theorem w_consts : constsHeld consts_1 about1 := Jvm.Lit.constsHeldB_iff.mp (by decide +kernel)
theorem w_applies : (headSpec (Jvm.Cond.code x code maxLocals ret :: tables_1) room_1).applies x e0.platform about1 = true :=
  (Spec.applies_iff w_frames).mpr ⟨w_running, w_runnable, w_alone, w_named, w_hears, w_ripe, w_room, w_tables⟩
theorem atStart : AtStart classFile x code maxLocals ret World_1 tables_1 room_1 Calls_1 rest_1 Pre_1 launch0 p0 e0 about1 theMethod args0 below0 :=
  ⟨lists_1, trivial, launch0.admits_env _ _ _, launch0.least_env, fairChoices_fair.cas, fairChoices_fair.clock, w_frames, w_args, w_heap, w_applies, ⟨w_consts, trivial⟩, w_rest, w_case⟩
end start1
theorem witness_1 : WitnessClaimed_1 := ⟨start1.p0, start1.e0, start1.about1, start1.theMethod, start1.args0, start1.below0, start1.atStart⟩
end Jvm.Pilot.@@N@@
