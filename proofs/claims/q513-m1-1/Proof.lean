import JvmDerived
import JvmDerived.Pilot.@@N@@Statement
import JvmDerived.Pilot.@@N@@Code
set_option linter.unusedVariables false
set_option linter.unusedSimpArgs false
namespace Jvm.RoadKit
open Sem ClassFile Op Lib Jvm.Stand Jvm.Free Jvm.LawKit
section Own
/-- from here the run comes to an end of which P holds -/
def own_Go (p : Program) (e : Env) (below : List Frame) (P : Outcome → State → Prop) (t : State) : Prop :=
  ∃ s₂ o, Steps p.tables e below t s₂ ∧ s₂.status = .running ∧ Ended s₂ below o ∧ P o s₂
variable {p : Program} {l : Launch} {e : Env} {R : Room} {s : State} {m : MethodId} {args : Array Value} {below : List Frame} {meth : Method} {c : Code} {T : State} {locs : List Loc} {cells slots : Nat}
theorem own_Go.st {P : Outcome → State → Prop} {t t' : State} (h : ∀ target, Steps p.tables e below t' target → Steps p.tables e below t target) (k : own_Go p e below P t') : own_Go p e below P t := by
  obtain ⟨a, b, h1, h2⟩ := k
  exact ⟨a, b, h _ h1, h2⟩
variable {C N : Nat} {Q : Option Value → Heap → List Loc → Prop}
theorem own_ret {v : Option Value} {g : JFrame} (X : Stand p l e R s m args below meth c T locs cells slots) (hlk : meth.locks = false) (hv : meth.sig.returnType = none → v = none)
    (hl : ∀ fs : List Frame, (∀ (f : JFrame) (acts : List Action), f.method = m → f.locked = none → f.entered = [] → (doReturn e (T.setTop f) acts v).1 = T.setFrames fs) → Steps p.tables e below (T.setTop g) (T.setFrames fs))
    (hc : cells ≤ C) (hn : slots ≤ N) (q : Q v T.heap locs) : own_Go p e below (fun o U' => ∃ v L, o = .returned v ∧ Q v U'.heap L ∧ FrameEnd s o U' L C N) (T.setTop g) := by
  obtain ⟨fs, hr, hrun, hended, hW, hsame⟩ := X.leave (v := v) hv hlk
  exact ⟨_, _, hl fs hr, hrun, hended, _, _, rfl, q, ⟨_, rfl⟩, hW, hsame.mono hc hn⟩
theorem own_retI {pc : Nat} {Ls : Array Slot} {z : Int32} {rest : List Value} (X : Stand p l e R s m args below meth c T locs cells slots) (hx : p.tables.exec = Jvm.exec) (hlk : meth.locks = false) (hret : meth.sig.returnType = some .int) (hd : decode c.code pc = .ok (.ireturn, 1))
    (hc : cells ≤ C) (hn : slots ≤ N) (q : Q (some (.int z)) T.heap locs) : own_Go p e below (fun o U' => ∃ v L, o = .returned v ∧ Q v U'.heap L ∧ FrameEnd s o U' L C N) (T.setTop (mkF m pc Ls (.int z :: rest))) :=
  own_ret X hlk (fun h => by rw [hret] at h; cases h) (fun fs hr => retOut X hx hret rfl (Or.inl ⟨rfl, Or.inl rfl, z, rfl⟩) hd hr) hc hn q
theorem own_retN {t : FieldType} {pc : Nat} {Ls : Array Slot} {z : Int32} {rest : List Value} (X : Stand p l e R s m args below meth c T locs cells slots) (hx : p.tables.exec = Jvm.exec) (hlk : meth.locks = false) (hret : meth.sig.returnType = some t) (ht : t = .boolean ∨ t = .byte ∨ t = .char ∨ t = .short) (hz : nar t z = z) (hd : decode c.code pc = .ok (.ireturn, 1))
    (hc : cells ≤ C) (hn : slots ≤ N) (q : Q (some (.int z)) T.heap locs) : own_Go p e below (fun o U' => ∃ v L, o = .returned v ∧ Q v U'.heap L ∧ FrameEnd s o U' L C N) (T.setTop (mkF m pc Ls (.int z :: rest))) :=
  own_ret X hlk (fun h => by rw [hret] at h; cases h) (fun fs hr => retN X hx (z := z) hret ht hd (by rw [hz]; exact hr)) hc hn q
theorem own_retZ {pc : Nat} {Ls : Array Slot} {z : Int32} {rest : List Value} (X : Stand p l e R s m args below meth c T locs cells slots) (hx : p.tables.exec = Jvm.exec) (hlk : meth.locks = false) (hret : meth.sig.returnType = some .boolean) (hz : z = 0 ∨ z = 1) (hd : decode c.code pc = .ok (.ireturn, 1))
    (hc : cells ≤ C) (hn : slots ≤ N) (q : Q (some (.int z)) T.heap locs) : own_Go p e below (fun o U' => ∃ v L, o = .returned v ∧ Q v U'.heap L ∧ FrameEnd s o U' L C N) (T.setTop (mkF m pc Ls (.int z :: rest))) :=
  own_retN X hx hlk hret (Or.inl rfl) (by rcases hz with rfl | rfl <;> rfl) hd hc hn q
theorem own_retJ {pc : Nat} {Ls : Array Slot} {z : Int64} {rest : List Value} (X : Stand p l e R s m args below meth c T locs cells slots) (hx : p.tables.exec = Jvm.exec) (hlk : meth.locks = false) (hret : meth.sig.returnType = some .long) (hd : decode c.code pc = .ok (.lreturn, 1))
    (hc : cells ≤ C) (hn : slots ≤ N) (q : Q (some (.long z)) T.heap locs) : own_Go p e below (fun o U' => ∃ v L, o = .returned v ∧ Q v U'.heap L ∧ FrameEnd s o U' L C N) (T.setTop (mkF m pc Ls (.long z :: rest))) :=
  own_ret X hlk (fun h => by rw [hret] at h; cases h) (fun fs hr => retOut X hx hret rfl (Or.inr (Or.inl ⟨rfl, rfl, z, rfl⟩)) hd hr) hc hn q
theorem own_retD {pc : Nat} {Ls : Array Slot} {z : UInt64} {rest : List Value} (X : Stand p l e R s m args below meth c T locs cells slots) (hx : p.tables.exec = Jvm.exec) (hlk : meth.locks = false) (hret : meth.sig.returnType = some .double) (hd : decode c.code pc = .ok (.dreturn, 1))
    (hc : cells ≤ C) (hn : slots ≤ N) (q : Q (some (.double z)) T.heap locs) : own_Go p e below (fun o U' => ∃ v L, o = .returned v ∧ Q v U'.heap L ∧ FrameEnd s o U' L C N) (T.setTop (mkF m pc Ls (.double z :: rest))) :=
  own_ret X hlk (fun h => by rw [hret] at h; cases h) (fun fs hr => retOut X hx hret rfl (Or.inr (Or.inr (Or.inl ⟨rfl, rfl, z, rfl⟩))) hd hr) hc hn q
theorem own_retA {t : FieldType} {pc : Nat} {Ls : Array Slot} {w : Value} {rest : List Value} (X : Stand p l e R s m args below meth c T locs cells slots) (hx : p.tables.exec = Jvm.exec) (hlk : meth.locks = false) (hret : meth.sig.returnType = some t) (ht : t.isReference = true) (hw : w.isRef = true) (hd : decode c.code pc = .ok (.areturn, 1))
    (hc : cells ≤ C) (hn : slots ≤ N) (q : Q (some w) T.heap locs) : own_Go p e below (fun o U' => ∃ v L, o = .returned v ∧ Q v U'.heap L ∧ FrameEnd s o U' L C N) (T.setTop (mkF m pc Ls (w :: rest))) :=
  own_ret X hlk (fun h => by rw [hret] at h; cases h) (fun fs hr => retOut X hx hret (by rcases ref_cases hw with rfl | ⟨z, rfl⟩ <;> cases t <;> rfl) (Or.inr (Or.inr (Or.inr (Or.inr ⟨rfl, ht, hw⟩)))) hd hr) hc hn q
theorem own_retV {pc : Nat} {Ls : Array Slot} (X : Stand p l e R s m args below meth c T locs cells slots) (hx : p.tables.exec = Jvm.exec) (hlk : meth.locks = false) (hret : meth.sig.returnType = none) (hd : decode c.code pc = .ok (.return_, 1))
    (hc : cells ≤ C) (hn : slots ≤ N) (q : Q none T.heap locs) : own_Go p e below (fun o U' => ∃ v L, o = .returned v ∧ Q v U'.heap L ∧ FrameEnd s o U' L C N) (T.setTop (mkF m pc Ls [])) :=
  own_ret X hlk (fun _ => rfl) (fun fs hr => X.returnOut hx hret hd hr) hc hn q
theorem own_retW {vm0 : Vm} {k0 : Nat} {v : Option Value} {g : JFrame} (X : Stand p l e R (s.setVm vm0) m args below meth c T locs cells slots) (hlk : meth.locks = false) (hv : meth.sig.returnType = none → v = none) (hS : s.Since vm0 k0) (hk : k0 ≤ T.heap.size)
    (hl : ∀ fs : List Frame, (∀ (f : JFrame) (acts : List Action), f.method = m → f.locked = none → f.entered = [] → (doReturn e (T.setTop f) acts v).1 = T.setFrames fs) → Steps p.tables e below (T.setTop g) (T.setFrames fs))
    (hc : cells ≤ C) (hn : slots ≤ N) (q : Q v T.heap locs) : own_Go p e below (fun o U' => ∃ v L, o = .returned v ∧ Q v U'.heap L ∧ ReturnedEndW s o U' L C N) (T.setTop g) := by
  obtain ⟨fs, hr, hrun, hended, h1, h2, h3, h4⟩ := X.leaveW hS hk (v := v) hv hlk
  exact ⟨_, _, hl fs hr, hrun, hended, _, _, rfl, q, h1, h2, h3, h4.mono hc hn⟩
theorem own_retWV {vm0 : Vm} {k0 : Nat} {pc : Nat} {Ls : Array Slot} (X : Stand p l e R (s.setVm vm0) m args below meth c T locs cells slots) (hx : p.tables.exec = Jvm.exec) (hlk : meth.locks = false) (hret : meth.sig.returnType = none) (hS : s.Since vm0 k0) (hk : k0 ≤ T.heap.size) (hd : decode c.code pc = .ok (.return_, 1))
    (hc : cells ≤ C) (hn : slots ≤ N) (q : Q none T.heap locs) : own_Go p e below (fun o U' => ∃ v L, o = .returned v ∧ Q v U'.heap L ∧ ReturnedEndW s o U' L C N) (T.setTop (mkF m pc Ls [])) :=
  own_retW X hlk (fun _ => rfl) hS hk (fun fs hr => X.returnOut hx hret hd hr) hc hn q
theorem own_retWZ {vm0 : Vm} {k0 : Nat} {pc : Nat} {Ls : Array Slot} {z : Int32} {rest : List Value} (X : Stand p l e R (s.setVm vm0) m args below meth c T locs cells slots) (hx : p.tables.exec = Jvm.exec) (hlk : meth.locks = false) (hret : meth.sig.returnType = some .boolean) (hS : s.Since vm0 k0) (hk : k0 ≤ T.heap.size) (hz : z = 0 ∨ z = 1) (hd : decode c.code pc = .ok (.ireturn, 1))
    (hc : cells ≤ C) (hn : slots ≤ N) (q : Q (some (.int z)) T.heap locs) : own_Go p e below (fun o U' => ∃ v L, o = .returned v ∧ Q v U'.heap L ∧ ReturnedEndW s o U' L C N) (T.setTop (mkF m pc Ls (.int z :: rest))) :=
  own_retW X hlk (fun h => by rw [hret] at h; cases h) hS hk (fun fs hr => retN X hx (z := z) (t := .boolean) hret (Or.inl rfl) hd (by rw [show nar .boolean z = z by rcases hz with rfl | rfl <;> rfl]; exact hr)) hc hn q
/-- an array: its length, and what each place holds -/
def own_Ar (Z : State) (h : Heap) (a : Addr) (ty : FieldType) (n : Nat) (f : Nat → Value) : Prop := ∃ c : Cell, Arr Z h a c ty ∧ c.slots.size = n ∧ ∀ j, j < n → c.slots[j]? = some (f j)
section OwnAr
variable {Z : State} {h h' : Heap} {a b : Addr} {ty : FieldType} {n : Nat} {f f' : Nat → Value} {ws : List Addr}
theorem own_Ar.lt (F : own_Ar Z h a ty n f) : a < h.size := by obtain ⟨c, A, -⟩ := F; exact A.lt
theorem own_Ar.ext (F : own_Ar Z h a ty n f) (E : Ext h h') : own_Ar Z h' a ty n f := by obtain ⟨c, A, r⟩ := F; exact ⟨c, A.ext E, r⟩
theorem own_Ar.other {sl : Nat} {v : Value} (F : own_Ar Z h b ty n f) (W : Wr h h' a sl v) (q : b ≠ a) : own_Ar Z h' b ty n f := by obtain ⟨c, A, r⟩ := F; exact ⟨c, A.other W q, r⟩
theorem own_Ar.keep (F : own_Ar Z h a ty n f) (K : Keep h h' ws) (q : a ∉ ws) : own_Ar Z h' a ty n f := by obtain ⟨c, A, r⟩ := F; exact ⟨c, ⟨K.2.1 a c A.1 q, A.2⟩, r⟩
theorem own_Ar.congr (F : own_Ar Z h a ty n f) (q : ∀ j, j < n → f j = f' j) : own_Ar Z h a ty n f' := by obtain ⟨c, A, S, r⟩ := F; exact ⟨c, A, S, fun j hj => by rw [← q j hj]; exact r j hj⟩
theorem own_Ar.new {cA : ClassId} {z : Int32} (A : Arr Z h a (newA cA ty z) ty) (hz : z.toInt = (n : Int)) : own_Ar Z h a ty n (fun _ => defaultValue ty) := by
  have e : z.toNatClampNeg = n := by show z.toInt.toNat = n; omega
  exact ⟨_, A, by rw [sz_new, e], fun j hj => by simp [newA, e, hj]⟩
theorem own_Ar.set {i : Nat} {v : Value} (F : own_Ar Z h a ty n f) (W : Wr h h' a i v) : own_Ar Z h' a ty n (fun j => if j = i then v else f j) := by
  obtain ⟨c, A, S, r⟩ := F
  refine ⟨c.setSlot i v, A.same W, by rw [sz_set, S], fun j hj => ?_⟩
  show (c.slots.setIfInBounds i v)[j]? = _
  by_cases q : j = i
  · subst q; simp [S, hj]
  · rw [Array.getElem?_setIfInBounds_ne (Ne.symm q), r j hj]; simp [q]
theorem own_inb {c : Cell} {j : Int32} {i : Nat} (S : c.slots.size = n) (hj : j.toInt = (i : Int)) (hi : i < n) : ¬ (j < 0 ∨ c.slots.size ≤ j.toNatClampNeg) := by
  have e : j.toNatClampNeg = i := by show j.toInt.toNat = i; omega
  rw [e, S, Int32.lt_iff_toInt_lt, hj, show (0 : Int32).toInt = 0 by decide]
  omega
theorem own_clamp {j : Int32} {i : Nat} (hj : j.toInt = (i : Int)) : j.toNatClampNeg = i := by show j.toInt.toNat = i; omega
theorem own_alen (X : Stand p l e R s m args below meth c T locs cells slots) (hx : p.tables.exec = Jvm.exec) (hZ : Z.Warmed39 s.vm) (eT : T.heap = h) (F : own_Ar Z h a ty n f) {z : Int32} (hz : z.toInt = (n : Int))
    {g : JFrame} (hg : g.method = m) {rest : List Value} (hs : g.stack = .ref a :: rest) (hd : decode c.code g.pc = .ok (.arraylength, 1)) (target : State)
    (hr : Steps p.tables e below (T.setTop { g with pc := g.pc + 1, stack := .int z :: rest }) target) : Steps p.tables e below (T.setTop g) target := by
  obtain ⟨cl, A, S, -⟩ := F
  refine X.arraylength hx (by rw [eT]; exact A.1) (State.isArrayOf_alike hZ.alike A.2.1) hg hs hd target ?_
  have q : cl.slots.size.toInt32 = z := by
    rw [← Int32.toInt_inj, S, hz]
    have := z.toInt_lt
    exact len_toInt (by omega)
  rw [q]; exact hr
theorem own_dld (X : Stand p l e R s m args below meth c T locs cells slots) (hx : p.tables.exec = Jvm.exec) (hZ : Z.Warmed39 s.vm) (eT : T.heap = h) (F : own_Ar Z h a .double n f) {j : Int32} {i : Nat} (hj : j.toInt = (i : Int)) (hi : i < n) {v : Value} (hv : f i = v)
    {g : JFrame} (hg : g.method = m) {rest : List Value} (hs : g.stack = .int j :: .ref a :: rest) (hd : decode c.code g.pc = .ok (.daload, 1)) (target : State)
    (hr : Steps p.tables e below (T.setTop { g with pc := g.pc + 1, stack := v :: rest }) target) : Steps p.tables e below (T.setTop g) target := by
  obtain ⟨cl, A, S, H⟩ := F
  exact X.daload hx (by rw [eT]; exact A.1) (State.isArrayOf_alike hZ.alike A.2.1) A.2.2 (own_inb S hj hi) (by rw [own_clamp hj, H i hi, hv]) hg hs hd target hr
theorem own_lld (X : Stand p l e R s m args below meth c T locs cells slots) (hx : p.tables.exec = Jvm.exec) (hZ : Z.Warmed39 s.vm) (eT : T.heap = h) (F : own_Ar Z h a .long n f) {j : Int32} {i : Nat} (hj : j.toInt = (i : Int)) (hi : i < n) {v : Value} (hv : f i = v)
    {g : JFrame} (hg : g.method = m) {rest : List Value} (hs : g.stack = .int j :: .ref a :: rest) (hd : decode c.code g.pc = .ok (.laload, 1)) (target : State)
    (hr : Steps p.tables e below (T.setTop { g with pc := g.pc + 1, stack := v :: rest }) target) : Steps p.tables e below (T.setTop g) target := by
  obtain ⟨cl, A, S, H⟩ := F
  exact X.laload hx (by rw [eT]; exact A.1) (State.isArrayOf_alike hZ.alike A.2.1) A.2.2 (own_inb S hj hi) (by rw [own_clamp hj, H i hi, hv]) hg hs hd target hr
theorem own_dst (X : Stand p l e R s m args below meth c T locs cells slots) (hx : p.tables.exec = Jvm.exec) (hZ : Z.Warmed39 s.vm) (eT : T.heap = h) (F : own_Ar Z h a .double n f) {j : Int32} {i : Nat} (hj : j.toInt = (i : Int)) (hi : i < n) {x : UInt64}
    {g : JFrame} (hg : g.method = m) {rest : List Value} (hs : g.stack = .double x :: .int j :: .ref a :: rest) (hd : decode c.code g.pc = .ok (.dastore, 1)) :
    ∃ T' h', Stand p l e R s m args below meth c T' (locs ++ [⟨a, i⟩]) cells slots ∧ T'.heap = h' ∧ Wr h h' a i (.double x) ∧ ∀ target, Steps p.tables e below (T'.setTop { g with pc := g.pc + 1, stack := rest }) target → Steps p.tables e below (T.setTop g) target := by
  obtain ⟨cl, A, S, H⟩ := F
  have q := stD X hx hZ eT A (x := x) (own_inb S hj hi) hg hs hd
  rw [own_clamp hj] at q
  exact q
theorem own_lst (X : Stand p l e R s m args below meth c T locs cells slots) (hx : p.tables.exec = Jvm.exec) (hZ : Z.Warmed39 s.vm) (eT : T.heap = h) (F : own_Ar Z h a .long n f) {j : Int32} {i : Nat} (hj : j.toInt = (i : Int)) (hi : i < n) {x : Int64}
    {g : JFrame} (hg : g.method = m) {rest : List Value} (hs : g.stack = .long x :: .int j :: .ref a :: rest) (hd : decode c.code g.pc = .ok (.lastore, 1)) :
    ∃ T' h', Stand p l e R s m args below meth c T' (locs ++ [⟨a, i⟩]) cells slots ∧ T'.heap = h' ∧ Wr h h' a i (.long x) ∧ ∀ target, Steps p.tables e below (T'.setTop { g with pc := g.pc + 1, stack := rest }) target → Steps p.tables e below (T.setTop g) target := by
  obtain ⟨cl, A, S, H⟩ := F
  have q := stJ X hx hZ eT A (x := x) (own_inb S hj hi) hg hs hd
  rw [own_clamp hj] at q
  exact q
end OwnAr
theorem own_stakeep {Z : State} {h h' : Heap} {C n d : String} {v : Value} {ws : List Addr} (F : Sta Z h C n d v) (K : Keep h h' ws) (q : ∀ x ∈ ws, ∀ c : Cell, h[x]? = some c → c.vm.isStatics = false) : Sta Z h' C n d v := by
  obtain ⟨cf, i, k, f, st, cell, h1, h2, h3, h4, h5, h6, h7⟩ := F
  exact ⟨cf, i, k, f, st, cell, h1, h2, h3, h4, K.2.1 st cell h5 (fun hm => by rw [q st hm cell h5] at h6; cases h6), h6, h7⟩
end Own
end Jvm.RoadKit
namespace Jvm.Pilot.@@N@@
open Jvm Jvm.ClassFile Sem Op Lib Jvm.Free Jvm.Stand Jvm.LawKit Jvm.RoadKit Bundle Jvm.Pilot.@@N@@.Jvm.D
/-- i times A and e times B, as a long -/
def own_v (A B : Int) (i e : Nat) : Int64 := Int64.ofInt ((i : Int) * A + (e : Int) * B)
/-- what stands at place j when the rows below i are made, and e columns of row i -/
def own_f (A B : Int) (i e : Nat) (j : Nat) : Value := .double (if (j / 32 < i ∧ j / 32 + j % 32 ≤ 31) ∨ (j / 32 = i ∧ j % 32 < e) then FP.l2d (own_v A B (j / 32) (j % 32)) else 0)
theorem own_mulb {A : Int} (hA : -2147483648 ≤ A ∧ A < 2147483648) (i : Nat) (hi : i ≤ 32) : -68719476736 ≤ (i : Int) * A ∧ (i : Int) * A ≤ 68719476736 := by
  have h0 : (0 : Int) ≤ i := by omega
  have h1 := Int.mul_le_mul_of_nonneg_left (show A ≤ 2147483648 by omega) h0
  have h2 := Int.mul_le_mul_of_nonneg_left (show -2147483648 ≤ A by omega) h0
  omega
theorem own_v_toInt {A B : Int} (hA : -2147483648 ≤ A ∧ A < 2147483648) (hB : -2147483648 ≤ B ∧ B < 2147483648) (i e : Nat) (hi : i ≤ 32) (he : e ≤ 32) : (own_v A B i e).toInt = (i : Int) * A + (e : Int) * B := by
  have h1 := own_mulb hA i hi
  have h2 := own_mulb hB e he
  unfold own_v
  rw [Int64.toInt_ofInt]
  exact Int.bmod_eq_of_le (by show -9223372036854775808 ≤ _; omega) (by show _ < 9223372036854775808; omega)
theorem own_v_B {A B : Int} (hA : -2147483648 ≤ A ∧ A < 2147483648) (hB : -2147483648 ≤ B ∧ B < 2147483648) (i e : Nat) (hi : i ≤ 32) (he : e ≤ 32) : B53 (own_v A B i e) := by
  have h1 := own_mulb hA i hi
  have h2 := own_mulb hB e he
  have h3 := own_v_toInt hA hB i e hi he
  exact ⟨by omega, by omega⟩
theorem own_v_col {x : Int64} {A B : Int} (hx : x.toInt = B) (i e : Nat) : own_v A B i e + x = own_v A B i (e + 1) := by
  unfold own_v
  rw [show x = Int64.ofInt B by rw [← hx, Int64.ofInt_toInt], ← Int64.ofInt_add]
  congr 1
  rw [Int.natCast_add, Int.add_mul]
  omega
theorem own_v_row {x : Int64} {A B : Int} (hx : x.toInt = A) (i : Nat) : own_v A B i 0 + x = own_v A B (i + 1) 0 := by
  unfold own_v
  rw [show x = Int64.ofInt A by rw [← hx, Int64.ofInt_toInt], ← Int64.ofInt_add]
  congr 1
  rw [Int.natCast_add, Int.add_mul]
  omega
theorem own_f_set (A B : Int) (i e : Nat) (hi : i ≤ 31) (he : i + e ≤ 31) (j : Nat) (hj : j < 1024) : (if j = 32 * i + e then Value.double (FP.l2d (own_v A B i e)) else own_f A B i e j) = own_f A B i (e + 1) j := by
  unfold own_f
  by_cases q : j = 32 * i + e
  · have h1 : j / 32 = i := by omega
    have h2 : j % 32 = e := by omega
    rw [if_pos q, h1, h2, if_pos (Or.inr ⟨rfl, by omega⟩)]
  · rw [if_neg q]
    congr 1
    by_cases r : (j / 32 < i ∧ j / 32 + j % 32 ≤ 31) ∨ (j / 32 = i ∧ j % 32 < e)
    · rw [if_pos r, if_pos (by omega)]
    · rw [if_neg r, if_neg (by omega)]
theorem own_f_row (A B : Int) (i e : Nat) (he : 31 < i + e) (h32 : i + e ≤ 32) (j : Nat) (hj : j < 1024) : own_f A B i e j = own_f A B (i + 1) 0 j := by
  unfold own_f
  congr 1
  by_cases r : (j / 32 < i ∧ j / 32 + j % 32 ≤ 31) ∨ (j / 32 = i ∧ j % 32 < e)
  · rw [if_pos r, if_pos (by omega)]
  · rw [if_neg r, if_neg (by omega)]
theorem own_i32 {x : Int32} {i : Nat} (h : x.toInt = (i : Int)) (hi : i < 1000) : (x + (1 : Int32)).toInt = ((i + 1 : Nat) : Int) := by
  have h1 := c_iadd x 1
  have h2 := rng32 (x + 1)
  rw [show (1 : Int32).toInt = 1 by decide] at h1
  omega
theorem own_add {x y : Int32} {i e : Nat} (h : x.toInt = (i : Int)) (h' : y.toInt = (e : Int)) (hi : i < 1000) (he : e < 1000) : (x + y).toInt = ((i + e : Nat) : Int) := by
  have h1 := c_iadd x y
  have h2 := rng32 (x + y)
  omega
theorem own_idx {x y : Int32} {i e : Nat} (h : x.toInt = (i : Int)) (h' : y.toInt = (e : Int)) (hi : i < 1000) (he : e < 1000) : (x * (32 : Int32) + y).toInt = ((32 * i + e : Nat) : Int) := by
  have h1 := c_imul x 32
  have h2 := rng32 (x * 32)
  rw [show (32 : Int32).toInt = 32 by decide] at h1
  have h3 : (x * 32).toInt = 32 * (i : Int) := by omega
  have h4 := c_iadd (x * 32) y
  have h5 := rng32 (x * 32 + y)
  omega
theorem own_31 {x : Int32} {i : Nat} (h : x.toInt = (i : Int)) : ((31 : Int32) < x) ↔ 31 < i := by
  rw [Int32.lt_iff_toInt_lt, h, show (31 : Int32).toInt = 31 by decide]
  omega
theorem own_and31 (x y : Int32) : ∃ i e : Nat, (x &&& (31 : Int32)).toInt = (i : Int) ∧ (y &&& (31 : Int32)).toInt = (e : Int) ∧ i < 32 ∧ e < 32 := by
  have h1 := c_mask x 31 5 (by decide) (by decide)
  have h2 := c_mask y 31 5 (by decide) (by decide)
  exact ⟨(x &&& 31).toInt.toNat, (y &&& 31).toInt.toNat, by omega, by omega, by omega, by omega⟩
theorem own_pn0 : plainName "com/example/passagewise/passagewise/index/PassageCounts" = true := by first | (simp [plainName, overriddenIn]; done) | decide +kernel
theorem own_ef1 (m : MethodId) (x0 : UInt64) (x1 : UInt64) : entryFrame m #[(.double x0), (.double x1)] 11 = mkF m 0 #[.val (.double x0), .second, .val (.double x1), .second, .unset, .unset, .unset, .unset, .unset, .unset, .unset] [] := by first | (simp [entryFrame, mkF, argsToLocals, Value.category]; done) | rfl
theorem own_d_prog_29_11_0 : decode prog_29_method_11_code 0 = .ok (.sipush 1024, 3) := by decide +kernel
theorem own_d_prog_29_11_3 : decode prog_29_method_11_code 3 = .ok (.newarray .double, 2) := by decide +kernel
theorem own_d_prog_29_11_5 : decode prog_29_method_11_code 5 = .ok (.astore 4, 2) := by decide +kernel
theorem own_d_prog_29_11_7 : decode prog_29_method_11_code 7 = .ok (.dconst 0, 1) := by decide +kernel
theorem own_d_prog_29_11_8 : decode prog_29_method_11_code 8 = .ok (.dstore 5, 2) := by decide +kernel
theorem own_d_prog_29_11_10 : decode prog_29_method_11_code 10 = .ok (.iconst 0, 1) := by decide +kernel
theorem own_d_prog_29_11_11 : decode prog_29_method_11_code 11 = .ok (.istore 7, 2) := by decide +kernel
theorem own_d_prog_29_11_13 : decode prog_29_method_11_code 13 = .ok (.iload 7, 2) := by decide +kernel
theorem own_d_prog_29_11_15 : decode prog_29_method_11_code 15 = .ok (.bipush 31, 2) := by decide +kernel
theorem own_d_prog_29_11_17 : decode prog_29_method_11_code 17 = .ok (.if_icmp .gt 57, 3) := by decide +kernel
theorem own_d_prog_29_11_74 : decode prog_29_method_11_code 74 = .ok (.aload 4, 2) := by decide +kernel
theorem own_d_prog_29_11_76 : decode prog_29_method_11_code 76 = .ok (.areturn, 1) := by decide +kernel
theorem own_d_prog_29_11_20 : decode prog_29_method_11_code 20 = .ok (.dload 5, 2) := by decide +kernel
theorem own_d_prog_29_11_22 : decode prog_29_method_11_code 22 = .ok (.dstore 8, 2) := by decide +kernel
theorem own_d_prog_29_11_24 : decode prog_29_method_11_code 24 = .ok (.iconst 0, 1) := by decide +kernel
theorem own_d_prog_29_11_25 : decode prog_29_method_11_code 25 = .ok (.istore 10, 2) := by decide +kernel
theorem own_d_prog_29_11_27 : decode prog_29_method_11_code 27 = .ok (.iload 7, 2) := by decide +kernel
theorem own_d_prog_29_11_29 : decode prog_29_method_11_code 29 = .ok (.iload 10, 2) := by decide +kernel
theorem own_d_prog_29_11_31 : decode prog_29_method_11_code 31 = .ok (.iadd, 1) := by decide +kernel
theorem own_d_prog_29_11_32 : decode prog_29_method_11_code 32 = .ok (.bipush 31, 2) := by decide +kernel
theorem own_d_prog_29_11_34 : decode prog_29_method_11_code 34 = .ok (.if_icmp .gt 28, 3) := by decide +kernel
theorem own_d_prog_29_11_62 : decode prog_29_method_11_code 62 = .ok (.dload 5, 2) := by decide +kernel
theorem own_d_prog_29_11_64 : decode prog_29_method_11_code 64 = .ok (.dload_n 0, 1) := by decide +kernel
theorem own_d_prog_29_11_65 : decode prog_29_method_11_code 65 = .ok (.dadd, 1) := by decide +kernel
theorem own_d_prog_29_11_66 : decode prog_29_method_11_code 66 = .ok (.dstore 5, 2) := by decide +kernel
theorem own_d_prog_29_11_68 : decode prog_29_method_11_code 68 = .ok (.iinc 7 1, 3) := by decide +kernel
theorem own_d_prog_29_11_71 : decode prog_29_method_11_code 71 = .ok (.goto (-58), 3) := by decide +kernel
theorem own_d_prog_29_11_37 : decode prog_29_method_11_code 37 = .ok (.aload 4, 2) := by decide +kernel
theorem own_d_prog_29_11_39 : decode prog_29_method_11_code 39 = .ok (.iload 7, 2) := by decide +kernel
theorem own_d_prog_29_11_41 : decode prog_29_method_11_code 41 = .ok (.bipush 32, 2) := by decide +kernel
theorem own_d_prog_29_11_43 : decode prog_29_method_11_code 43 = .ok (.imul, 1) := by decide +kernel
theorem own_d_prog_29_11_44 : decode prog_29_method_11_code 44 = .ok (.iload 10, 2) := by decide +kernel
theorem own_d_prog_29_11_46 : decode prog_29_method_11_code 46 = .ok (.iadd, 1) := by decide +kernel
theorem own_d_prog_29_11_47 : decode prog_29_method_11_code 47 = .ok (.dload 8, 2) := by decide +kernel
theorem own_d_prog_29_11_49 : decode prog_29_method_11_code 49 = .ok (.dastore, 1) := by decide +kernel
theorem own_d_prog_29_11_50 : decode prog_29_method_11_code 50 = .ok (.dload 8, 2) := by decide +kernel
theorem own_d_prog_29_11_52 : decode prog_29_method_11_code 52 = .ok (.dload_n 2, 1) := by decide +kernel
theorem own_d_prog_29_11_53 : decode prog_29_method_11_code 53 = .ok (.dadd, 1) := by decide +kernel
theorem own_d_prog_29_11_54 : decode prog_29_method_11_code 54 = .ok (.dstore 8, 2) := by decide +kernel
theorem own_d_prog_29_11_56 : decode prog_29_method_11_code 56 = .ok (.iinc 10 1, 3) := by decide +kernel
theorem own_d_prog_29_11_59 : decode prog_29_method_11_code 59 = .ok (.goto (-32), 3) := by decide +kernel
def own_Q_own_sums (Z : State) (xa xb : Int64) (h0 : Heap) (n0 : Nat) (v : Option Value) (h : Heap) (L : List Loc) : Prop := ∃ r, v = some (.ref r) ∧ Fr n0 L ∧ own_Ar Z h r .double 1024 (own_f xa.toInt xb.toInt 32 0) ∧ Keep h0 h []
set_option maxRecDepth 65536 in
set_option maxHeartbeats 40000000 in
theorem own_sums (l : Launch) (Z : State) (a0 : Array Value) (hw : ∀ d ∈ tables_1, d.before a0 Z = true) (ws : List Jvm.Cond) (xa xb : Int64) (h0 : Heap) (n0 : Nat) (Z0 : n0 ≤ h0.size) (hA : -2147483648 ≤ xa.toInt ∧ xa.toInt < 2147483648) (hB : -2147483648 ≤ xb.toInt ∧ xb.toInt < 2147483648) :
    MetFree l (⟨"com/example/passagewise/passagewise/index/PassageCounts", "leadAndRestSums", "(DD)[D"⟩ : MethodName) (head1 (Jvm.Cond.code (⟨"com/example/passagewise/passagewise/index/PassageCounts", "leadAndRestSums", "(DD)[D"⟩ : MethodName) prog_29_method_11_code 11 (some (.array .double)) :: ws) ({ frames := 0, cells := 1, slots := 1024, locals := 0 } : Room)) (fun av_ U => av_ = #[(.double (FP.l2d xa)), (.double (FP.l2d xb))] ∧ Z.Warmed39 U.vm ∧ U.heap = h0) (fun _ _ _ _ _ => True) (fun _ U o U' => ∃ v L, o = .returned v ∧ own_Q_own_sums Z xa xb h0 n0 v U'.heap L ∧ FrameEnd U o U' L ({ frames := 0, cells := 1, slots := 1024, locals := 0 } : Room).cells ({ frames := 0, cells := 1, slots := 1024, locals := 0 } : Room).slots) := by
  refine MetFree.of_bodySF (plainFor_of_name own_pn0) hisR ?_
  intro p e s m args below meth c s₁ Bd hml0 hP hK
  obtain ⟨rfl, hZ, hh⟩ := hP
  have hx := Bd.exec
  have hby := Bd.bytes
  have hml : c.maxLocals = 11 := hml0
  have hown : s.vm.findClass "com/example/passagewise/passagewise/index/PassageCounts" = some m.cls := findClass_of_methodNamed Bd.named
  have hnm := (name_of_methodNamed Bd.named Bd.method).1
  have X0 : Stand p l e ({ frames := 0, cells := 1, slots := 1024, locals := 0 } : Room) s m #[(.double (FP.l2d xa)), (.double (FP.l2d xb))] below meth c s₁ [] 0 0 := Stand.of_body Bd
  have e0 : s₁.heap = h0 := by rw [← hh, Bd.state]; rfl
  have N0 := Fr.nil n0
  suffices hgo : own_Go p e below (fun o U' => ∃ v L, o = .returned v ∧ own_Q_own_sums Z xa xb h0 n0 v U'.heap L ∧ FrameEnd s o U' L ({ frames := 0, cells := 1, slots := 1024, locals := 0 } : Room).cells ({ frames := 0, cells := 1, slots := 1024, locals := 0 } : Room).slots) (s₁.setTop (mkF m 0 #[.val (.double (FP.l2d xa)), .second, .val (.double (FP.l2d xb)), .second, .unset, .unset, .unset, .unset, .unset, .unset, .unset] [])) by
    obtain ⟨s₂, o, h1, h2, h3, h4⟩ := hgo
    exact ⟨s₂, o, castTop (own_ef1 m (FP.l2d xa) (FP.l2d xb)) h1, h2, h3, h4⟩
  have kk0 : Keep h0 h0 [] := Keep.refl _ _
  show own_Go p e below _ (s₁.setTop (mkF m 0 #[.val (.double (FP.l2d xa)), .second, .val (.double (FP.l2d xb)), .second, .unset, .unset, .unset, .unset, .unset, .unset, .unset] []))
  refine own_Go.st (fun _ kt => XS.sipush X0.here hx rfl (hb hby own_d_prog_29_11_0) kt) ?_
  show own_Go p e below _ (s₁.setTop (mkF m 3 #[.val (.double (FP.l2d xa)), .second, .val (.double (FP.l2d xb)), .second, .unset, .unset, .unset, .unset, .unset, .unset, .unset] [(.int (1024 : Int32))]))
  obtain ⟨T1, h1, k1, X1, e1, E1, A1, st1⟩ := newP X0 hx hZ (hw _ (List.mem_of_getElem? (i := 4) rfl)) e0 (g := (mkF m 3 #[.val (.double (FP.l2d xa)), .second, .val (.double (FP.l2d xb)), .second, .unset, .unset, .unset, .unset, .unset, .unset, .unset] [(.int (1024 : Int32))])) rfl (hb hby own_d_prog_29_11_3) rfl (by decide) (cap := 1024) (by decide) (by decide) (by decide) (by decide)
  obtain ⟨r, g1⟩ : ∃ z, z = Array.size h0 := ⟨_, rfl⟩
  rw [← g1] at A1 st1
  refine own_Go.st st1 ?_
  have n0_r : n0 ≤ r := Nat.le_trans Z0 (Nat.le_of_eq g1.symm)
  have b_r : Array.size h0 ≤ r := Nat.le_trans kk0.1 (Nat.le_of_eq g1.symm)
  have zz2 : n0 ≤ Array.size h1 := Nat.le_trans Z0 E1.1
  have kk2 : Keep h0 h1 [] := kk0.ext E1
  show own_Go p e below _ (T1.setTop (mkF m 5 #[.val (.double (FP.l2d xa)), .second, .val (.double (FP.l2d xb)), .second, .unset, .unset, .unset, .unset, .unset, .unset, .unset] [(.ref r)]))
  have a0r : own_Ar Z h1 r .double 1024 (own_f xa.toInt xb.toInt 0 0) := (own_Ar.new A1 (by decide)).congr fun j _ => by unfold own_f; rw [if_neg (by omega)]; rfl
  refine own_Go.st (fun _ kt => XS.astore X1.here hx rfl (hb hby own_d_prog_29_11_5) rfl rfl (l' := #[.val (.double (FP.l2d xa)), .second, .val (.double (FP.l2d xb)), .second, .val (.ref r), .unset, .unset, .unset, .unset, .unset, .unset]) rfl kt) ?_
  show own_Go p e below _ (T1.setTop (mkF m 7 #[.val (.double (FP.l2d xa)), .second, .val (.double (FP.l2d xb)), .second, .val (.ref r), .unset, .unset, .unset, .unset, .unset, .unset] []))
  refine own_Go.st (fun _ kt => XS.dconst0 X1.here hx rfl (hb hby own_d_prog_29_11_7) rfl kt) ?_
  show own_Go p e below _ (T1.setTop (mkF m 8 #[.val (.double (FP.l2d xa)), .second, .val (.double (FP.l2d xb)), .second, .val (.ref r), .unset, .unset, .unset, .unset, .unset, .unset] [(.double FP.dconst0)]))
  refine own_Go.st (fun _ kt => XS.dstore X1.here hx rfl (hb hby own_d_prog_29_11_8) rfl (l' := #[.val (.double (FP.l2d xa)), .second, .val (.double (FP.l2d xb)), .second, .val (.ref r), .val (.double FP.dconst0), .second, .unset, .unset, .unset, .unset]) rfl kt) ?_
  show own_Go p e below _ (T1.setTop (mkF m 10 #[.val (.double (FP.l2d xa)), .second, .val (.double (FP.l2d xb)), .second, .val (.ref r), .val (.double FP.dconst0), .second, .unset, .unset, .unset, .unset] []))
  refine own_Go.st (fun _ kt => XS.iconst X1.here hx rfl (hb hby own_d_prog_29_11_10) kt) ?_
  show own_Go p e below _ (T1.setTop (mkF m 11 #[.val (.double (FP.l2d xa)), .second, .val (.double (FP.l2d xb)), .second, .val (.ref r), .val (.double FP.dconst0), .second, .unset, .unset, .unset, .unset] [(.int (0 : Int32))]))
  refine own_Go.st (fun _ kt => XS.istore X1.here hx rfl (hb hby own_d_prog_29_11_11) rfl (l' := #[.val (.double (FP.l2d xa)), .second, .val (.double (FP.l2d xb)), .second, .val (.ref r), .val (.double FP.dconst0), .second, .val (.int (0 : Int32)), .unset, .unset, .unset]) rfl kt) ?_
  show own_Go p e below _ (T1.setTop (mkF m 13 #[.val (.double (FP.l2d xa)), .second, .val (.double (FP.l2d xb)), .second, .val (.ref r), .val (.double FP.dconst0), .second, .val (.int (0 : Int32)), .unset, .unset, .unset] []))
  rw [show FP.dconst0 = (FP.l2d (own_v xa.toInt xb.toInt 0 0)) from (by rw [show own_v xa.toInt xb.toInt 0 0 = 0 by unfold own_v; simp, l2d_zero]; rfl)]
  show own_Go p e below _ (T1.setTop (mkF m 13 #[.val (.double (FP.l2d xa)), .second, .val (.double (FP.l2d xb)), .second, .val (.ref r), .val (.double (FP.l2d (own_v xa.toInt xb.toInt 0 0))), .second, .val (.int (0 : Int32)), .unset, .unset, .unset] []))
  have LO : ∀ (t : Nat) (T3 : State) (lc3 : List Loc) (h3 : Heap) (X3 : Stand p l e ({ frames := 0, cells := 1, slots := 1024, locals := 0 } : Room) s m #[(.double (FP.l2d xa)), (.double (FP.l2d xb))] below meth c T3 lc3 1 1024) (e3 : T3.heap = h3) (N3 : Fr n0 lc3) (i : Nat) (xi : Int32) (s8 : Slot) (s9 : Slot) (s10 : Slot) (ht : i + t = 32) (hxi : xi.toInt = (i : Int)) (h8 : (s8 = .unset ∧ s9 = .unset) ∨ ∃ y8, s8 = .val (.double y8) ∧ s9 = .second) (h10 : s10 = .unset ∨ ∃ y10, s10 = .val (.int y10)) (ar : own_Ar Z h3 r .double 1024 (own_f xa.toInt xb.toInt i 0)) (zz : n0 ≤ Array.size h3) (kk : Keep h0 h3 []), own_Go p e below (fun o U' => ∃ v L, o = .returned v ∧ own_Q_own_sums Z xa xb h0 n0 v U'.heap L ∧ FrameEnd s o U' L ({ frames := 0, cells := 1, slots := 1024, locals := 0 } : Room).cells ({ frames := 0, cells := 1, slots := 1024, locals := 0 } : Room).slots) (T3.setTop (mkF m 13 #[.val (.double (FP.l2d xa)), .second, .val (.double (FP.l2d xb)), .second, .val (.ref r), .val (.double (FP.l2d (own_v xa.toInt xb.toInt i 0))), .second, .val (.int xi), s8, s9, s10] [])) := by
    intro t
    induction t using Nat.strongRecOn with
    | ind t IHo =>
      intro T3 lc3 h3 X3 e3 N3 i xi s8 s9 s10 ht hxi h8 h10 ar zz kk
      show own_Go p e below _ (T3.setTop (mkF m 13 #[.val (.double (FP.l2d xa)), .second, .val (.double (FP.l2d xb)), .second, .val (.ref r), .val (.double (FP.l2d (own_v xa.toInt xb.toInt i 0))), .second, .val (.int xi), s8, s9, s10] []))
      refine own_Go.st (fun _ kt => XS.iload X3.here hx rfl (hb hby own_d_prog_29_11_13) rfl kt) ?_
      show own_Go p e below _ (T3.setTop (mkF m 15 #[.val (.double (FP.l2d xa)), .second, .val (.double (FP.l2d xb)), .second, .val (.ref r), .val (.double (FP.l2d (own_v xa.toInt xb.toInt i 0))), .second, .val (.int xi), s8, s9, s10] [(.int xi)]))
      refine own_Go.st (fun _ kt => XS.bipush X3.here hx rfl (hb hby own_d_prog_29_11_15) kt) ?_
      show own_Go p e below _ (T3.setTop (mkF m 17 #[.val (.double (FP.l2d xa)), .second, .val (.double (FP.l2d xb)), .second, .val (.ref r), .val (.double (FP.l2d (own_v xa.toInt xb.toInt i 0))), .second, .val (.int xi), s8, s9, s10] [(.int (31 : Int32)), (.int xi)]))
      by_cases hc17 : (31 : Int32) < xi
      · refine own_Go.st (fun _ kt => XS.icmpYes X3.here hx rfl (pc0 := 17) (pc' := 74) rfl (hb hby own_d_prog_29_11_17) rfl (tlt hc17).2.2.1 (by decide) (by decide) kt) ?_
        show own_Go p e below _ (T3.setTop (mkF m 74 #[.val (.double (FP.l2d xa)), .second, .val (.double (FP.l2d xb)), .second, .val (.ref r), .val (.double (FP.l2d (own_v xa.toInt xb.toInt i 0))), .second, .val (.int xi), s8, s9, s10] []))
        refine own_Go.st (fun _ kt => XS.aload X3.here hx rfl (hb hby own_d_prog_29_11_74) rfl rfl kt) ?_
        show own_Go p e below _ (T3.setTop (mkF m 76 #[.val (.double (FP.l2d xa)), .second, .val (.double (FP.l2d xb)), .second, .val (.ref r), .val (.double (FP.l2d (own_v xa.toInt xb.toInt i 0))), .second, .val (.int xi), s8, s9, s10] [(.ref r)]))
        have hi : i = 32 := by have := (own_31 hxi).mp hc17; omega
        subst hi
        have fin := ar
        rw [← e3] at fin kk
        exact own_retA X3 hx Bd.notSynchronized Bd.returns rfl rfl (hb hby own_d_prog_29_11_76) (by decide) (by decide) ⟨r, rfl, N3, fin, kk⟩
      · refine own_Go.st (fun _ kt => XS.icmpNo X3.here hx rfl (hb hby own_d_prog_29_11_17) rfl (flt hc17).2.2.1 kt) ?_
        show own_Go p e below _ (T3.setTop (mkF m 20 #[.val (.double (FP.l2d xa)), .second, .val (.double (FP.l2d xb)), .second, .val (.ref r), .val (.double (FP.l2d (own_v xa.toInt xb.toInt i 0))), .second, .val (.int xi), s8, s9, s10] []))
        have hi : i ≤ 31 := by have := mt (own_31 hxi).mpr hc17; omega
        refine own_Go.st (fun _ kt => XS.dload X3.here hx rfl (hb hby own_d_prog_29_11_20) rfl kt) ?_
        show own_Go p e below _ (T3.setTop (mkF m 22 #[.val (.double (FP.l2d xa)), .second, .val (.double (FP.l2d xb)), .second, .val (.ref r), .val (.double (FP.l2d (own_v xa.toInt xb.toInt i 0))), .second, .val (.int xi), s8, s9, s10] [(.double (FP.l2d (own_v xa.toInt xb.toInt i 0)))]))
        refine own_Go.st (fun _ kt => XS.dstore X3.here hx rfl (hb hby own_d_prog_29_11_22) rfl (l' := #[.val (.double (FP.l2d xa)), .second, .val (.double (FP.l2d xb)), .second, .val (.ref r), .val (.double (FP.l2d (own_v xa.toInt xb.toInt i 0))), .second, .val (.int xi), .val (.double (FP.l2d (own_v xa.toInt xb.toInt i 0))), .second, s10]) (by rcases h8 with ⟨rfl, rfl⟩ | ⟨y8, rfl, rfl⟩ <;> rfl) kt) ?_
        show own_Go p e below _ (T3.setTop (mkF m 24 #[.val (.double (FP.l2d xa)), .second, .val (.double (FP.l2d xb)), .second, .val (.ref r), .val (.double (FP.l2d (own_v xa.toInt xb.toInt i 0))), .second, .val (.int xi), .val (.double (FP.l2d (own_v xa.toInt xb.toInt i 0))), .second, s10] []))
        refine own_Go.st (fun _ kt => XS.iconst X3.here hx rfl (hb hby own_d_prog_29_11_24) kt) ?_
        show own_Go p e below _ (T3.setTop (mkF m 25 #[.val (.double (FP.l2d xa)), .second, .val (.double (FP.l2d xb)), .second, .val (.ref r), .val (.double (FP.l2d (own_v xa.toInt xb.toInt i 0))), .second, .val (.int xi), .val (.double (FP.l2d (own_v xa.toInt xb.toInt i 0))), .second, s10] [(.int (0 : Int32))]))
        refine own_Go.st (fun _ kt => XS.istore X3.here hx rfl (hb hby own_d_prog_29_11_25) rfl (l' := #[.val (.double (FP.l2d xa)), .second, .val (.double (FP.l2d xb)), .second, .val (.ref r), .val (.double (FP.l2d (own_v xa.toInt xb.toInt i 0))), .second, .val (.int xi), .val (.double (FP.l2d (own_v xa.toInt xb.toInt i 0))), .second, .val (.int (0 : Int32))]) (by rcases h10 with rfl | ⟨y10, rfl⟩ <;> rfl) kt) ?_
        show own_Go p e below _ (T3.setTop (mkF m 27 #[.val (.double (FP.l2d xa)), .second, .val (.double (FP.l2d xb)), .second, .val (.ref r), .val (.double (FP.l2d (own_v xa.toInt xb.toInt i 0))), .second, .val (.int xi), .val (.double (FP.l2d (own_v xa.toInt xb.toInt i 0))), .second, .val (.int (0 : Int32))] []))
        have LI : ∀ (t2 : Nat) (T4 : State) (lc4 : List Loc) (h4 : Heap) (X4 : Stand p l e ({ frames := 0, cells := 1, slots := 1024, locals := 0 } : Room) s m #[(.double (FP.l2d xa)), (.double (FP.l2d xb))] below meth c T4 lc4 1 1024) (e4 : T4.heap = h4) (N4 : Fr n0 lc4) (e2 : Nat) (xe : Int32) (ht2 : e2 + t2 = 32 - i) (hxe : xe.toInt = (e2 : Int)) (ar2 : own_Ar Z h4 r .double 1024 (own_f xa.toInt xb.toInt i e2)) (zz2 : n0 ≤ Array.size h4) (kk2 : Keep h0 h4 []), own_Go p e below (fun o U' => ∃ v L, o = .returned v ∧ own_Q_own_sums Z xa xb h0 n0 v U'.heap L ∧ FrameEnd s o U' L ({ frames := 0, cells := 1, slots := 1024, locals := 0 } : Room).cells ({ frames := 0, cells := 1, slots := 1024, locals := 0 } : Room).slots) (T4.setTop (mkF m 27 #[.val (.double (FP.l2d xa)), .second, .val (.double (FP.l2d xb)), .second, .val (.ref r), .val (.double (FP.l2d (own_v xa.toInt xb.toInt i 0))), .second, .val (.int xi), .val (.double (FP.l2d (own_v xa.toInt xb.toInt i e2))), .second, .val (.int xe)] [])) := by
          intro t2
          induction t2 using Nat.strongRecOn with
          | ind t2 IH =>
            intro T4 lc4 h4 X4 e4 N4 e2 xe ht2 hxe ar2 zz2 kk2
            show own_Go p e below _ (T4.setTop (mkF m 27 #[.val (.double (FP.l2d xa)), .second, .val (.double (FP.l2d xb)), .second, .val (.ref r), .val (.double (FP.l2d (own_v xa.toInt xb.toInt i 0))), .second, .val (.int xi), .val (.double (FP.l2d (own_v xa.toInt xb.toInt i e2))), .second, .val (.int xe)] []))
            refine own_Go.st (fun _ kt => XS.iload X4.here hx rfl (hb hby own_d_prog_29_11_27) rfl kt) ?_
            show own_Go p e below _ (T4.setTop (mkF m 29 #[.val (.double (FP.l2d xa)), .second, .val (.double (FP.l2d xb)), .second, .val (.ref r), .val (.double (FP.l2d (own_v xa.toInt xb.toInt i 0))), .second, .val (.int xi), .val (.double (FP.l2d (own_v xa.toInt xb.toInt i e2))), .second, .val (.int xe)] [(.int xi)]))
            refine own_Go.st (fun _ kt => XS.iload X4.here hx rfl (hb hby own_d_prog_29_11_29) rfl kt) ?_
            show own_Go p e below _ (T4.setTop (mkF m 31 #[.val (.double (FP.l2d xa)), .second, .val (.double (FP.l2d xb)), .second, .val (.ref r), .val (.double (FP.l2d (own_v xa.toInt xb.toInt i 0))), .second, .val (.int xi), .val (.double (FP.l2d (own_v xa.toInt xb.toInt i e2))), .second, .val (.int xe)] [(.int xe), (.int xi)]))
            refine own_Go.st (fun _ kt => XS.iadd X4.here hx rfl (hb hby own_d_prog_29_11_31) rfl kt) ?_
            show own_Go p e below _ (T4.setTop (mkF m 32 #[.val (.double (FP.l2d xa)), .second, .val (.double (FP.l2d xb)), .second, .val (.ref r), .val (.double (FP.l2d (own_v xa.toInt xb.toInt i 0))), .second, .val (.int xi), .val (.double (FP.l2d (own_v xa.toInt xb.toInt i e2))), .second, .val (.int xe)] [(.int (xi + xe))]))
            refine own_Go.st (fun _ kt => XS.bipush X4.here hx rfl (hb hby own_d_prog_29_11_32) kt) ?_
            show own_Go p e below _ (T4.setTop (mkF m 34 #[.val (.double (FP.l2d xa)), .second, .val (.double (FP.l2d xb)), .second, .val (.ref r), .val (.double (FP.l2d (own_v xa.toInt xb.toInt i 0))), .second, .val (.int xi), .val (.double (FP.l2d (own_v xa.toInt xb.toInt i e2))), .second, .val (.int xe)] [(.int (31 : Int32)), (.int (xi + xe))]))
            have hs := own_add hxi hxe (by omega) (by omega)
            by_cases hc34 : (31 : Int32) < (xi + xe)
            · refine own_Go.st (fun _ kt => XS.icmpYes X4.here hx rfl (pc0 := 34) (pc' := 62) rfl (hb hby own_d_prog_29_11_34) rfl (tlt hc34).2.2.1 (by decide) (by decide) kt) ?_
              show own_Go p e below _ (T4.setTop (mkF m 62 #[.val (.double (FP.l2d xa)), .second, .val (.double (FP.l2d xb)), .second, .val (.ref r), .val (.double (FP.l2d (own_v xa.toInt xb.toInt i 0))), .second, .val (.int xi), .val (.double (FP.l2d (own_v xa.toInt xb.toInt i e2))), .second, .val (.int xe)] []))
              have he : 31 < i + e2 := (own_31 hs).mp hc34
              refine own_Go.st (fun _ kt => XS.dload X4.here hx rfl (hb hby own_d_prog_29_11_62) rfl kt) ?_
              show own_Go p e below _ (T4.setTop (mkF m 64 #[.val (.double (FP.l2d xa)), .second, .val (.double (FP.l2d xb)), .second, .val (.ref r), .val (.double (FP.l2d (own_v xa.toInt xb.toInt i 0))), .second, .val (.int xi), .val (.double (FP.l2d (own_v xa.toInt xb.toInt i e2))), .second, .val (.int xe)] [(.double (FP.l2d (own_v xa.toInt xb.toInt i 0)))]))
              refine own_Go.st (fun _ kt => XS.dloadN X4.here hx rfl (hb hby own_d_prog_29_11_64) rfl kt) ?_
              show own_Go p e below _ (T4.setTop (mkF m 65 #[.val (.double (FP.l2d xa)), .second, .val (.double (FP.l2d xb)), .second, .val (.ref r), .val (.double (FP.l2d (own_v xa.toInt xb.toInt i 0))), .second, .val (.int xi), .val (.double (FP.l2d (own_v xa.toInt xb.toInt i e2))), .second, .val (.int xe)] [(.double (FP.l2d xa)), (.double (FP.l2d (own_v xa.toInt xb.toInt i 0)))]))
              have bv := own_v_B hA hB i 0 (by omega) (by omega)
              have bx : B53 xa := ⟨by omega, by omega⟩
              refine own_Go.st (fun _ kt => XS.daddS X4.here hx rfl (hb hby own_d_prog_29_11_65) rfl (nn_w (dadd_w bv bx)) ((dadd_w bv bx).trans (by rw [own_v_row rfl])) kt) ?_
              show own_Go p e below _ (T4.setTop (mkF m 66 #[.val (.double (FP.l2d xa)), .second, .val (.double (FP.l2d xb)), .second, .val (.ref r), .val (.double (FP.l2d (own_v xa.toInt xb.toInt i 0))), .second, .val (.int xi), .val (.double (FP.l2d (own_v xa.toInt xb.toInt i e2))), .second, .val (.int xe)] [(.double (FP.l2d (own_v xa.toInt xb.toInt (i + 1) 0)))]))
              refine own_Go.st (fun _ kt => XS.dstore X4.here hx rfl (hb hby own_d_prog_29_11_66) rfl (l' := #[.val (.double (FP.l2d xa)), .second, .val (.double (FP.l2d xb)), .second, .val (.ref r), .val (.double (FP.l2d (own_v xa.toInt xb.toInt (i + 1) 0))), .second, .val (.int xi), .val (.double (FP.l2d (own_v xa.toInt xb.toInt i e2))), .second, .val (.int xe)]) rfl kt) ?_
              show own_Go p e below _ (T4.setTop (mkF m 68 #[.val (.double (FP.l2d xa)), .second, .val (.double (FP.l2d xb)), .second, .val (.ref r), .val (.double (FP.l2d (own_v xa.toInt xb.toInt (i + 1) 0))), .second, .val (.int xi), .val (.double (FP.l2d (own_v xa.toInt xb.toInt i e2))), .second, .val (.int xe)] []))
              refine own_Go.st (fun _ kt => XS.iinc X4.here hx rfl (hb hby own_d_prog_29_11_68) rfl (l' := #[.val (.double (FP.l2d xa)), .second, .val (.double (FP.l2d xb)), .second, .val (.ref r), .val (.double (FP.l2d (own_v xa.toInt xb.toInt (i + 1) 0))), .second, .val (.int (xi + (1 : Int32))), .val (.double (FP.l2d (own_v xa.toInt xb.toInt i e2))), .second, .val (.int xe)]) rfl kt) ?_
              show own_Go p e below _ (T4.setTop (mkF m 71 #[.val (.double (FP.l2d xa)), .second, .val (.double (FP.l2d xb)), .second, .val (.ref r), .val (.double (FP.l2d (own_v xa.toInt xb.toInt (i + 1) 0))), .second, .val (.int (xi + (1 : Int32))), .val (.double (FP.l2d (own_v xa.toInt xb.toInt i e2))), .second, .val (.int xe)] []))
              refine own_Go.st (fun _ kt => XS.goto X4.here hx rfl (pc0 := 71) (pc' := 13) rfl (hb hby own_d_prog_29_11_71) (by decide) (by decide) kt) ?_
              show own_Go p e below _ (T4.setTop (mkF m 13 #[.val (.double (FP.l2d xa)), .second, .val (.double (FP.l2d xb)), .second, .val (.ref r), .val (.double (FP.l2d (own_v xa.toInt xb.toInt (i + 1) 0))), .second, .val (.int (xi + (1 : Int32))), .val (.double (FP.l2d (own_v xa.toInt xb.toInt i e2))), .second, .val (.int xe)] []))
              exact IHo (t - 1) (by omega) _ _ _ X4 e4 N4 (i + 1) _ _ _ _ (by omega) (own_i32 hxi (by omega)) (Or.inr ⟨_, rfl, rfl⟩) (Or.inr ⟨_, rfl⟩) (ar2.congr fun j hj => own_f_row _ _ i e2 he (by omega) j hj) zz2 kk2
            · refine own_Go.st (fun _ kt => XS.icmpNo X4.here hx rfl (hb hby own_d_prog_29_11_34) rfl (flt hc34).2.2.1 kt) ?_
              show own_Go p e below _ (T4.setTop (mkF m 37 #[.val (.double (FP.l2d xa)), .second, .val (.double (FP.l2d xb)), .second, .val (.ref r), .val (.double (FP.l2d (own_v xa.toInt xb.toInt i 0))), .second, .val (.int xi), .val (.double (FP.l2d (own_v xa.toInt xb.toInt i e2))), .second, .val (.int xe)] []))
              have he : i + e2 ≤ 31 := by have := mt (own_31 hs).mpr hc34; omega
              refine own_Go.st (fun _ kt => XS.aload X4.here hx rfl (hb hby own_d_prog_29_11_37) rfl rfl kt) ?_
              show own_Go p e below _ (T4.setTop (mkF m 39 #[.val (.double (FP.l2d xa)), .second, .val (.double (FP.l2d xb)), .second, .val (.ref r), .val (.double (FP.l2d (own_v xa.toInt xb.toInt i 0))), .second, .val (.int xi), .val (.double (FP.l2d (own_v xa.toInt xb.toInt i e2))), .second, .val (.int xe)] [(.ref r)]))
              refine own_Go.st (fun _ kt => XS.iload X4.here hx rfl (hb hby own_d_prog_29_11_39) rfl kt) ?_
              show own_Go p e below _ (T4.setTop (mkF m 41 #[.val (.double (FP.l2d xa)), .second, .val (.double (FP.l2d xb)), .second, .val (.ref r), .val (.double (FP.l2d (own_v xa.toInt xb.toInt i 0))), .second, .val (.int xi), .val (.double (FP.l2d (own_v xa.toInt xb.toInt i e2))), .second, .val (.int xe)] [(.int xi), (.ref r)]))
              refine own_Go.st (fun _ kt => XS.bipush X4.here hx rfl (hb hby own_d_prog_29_11_41) kt) ?_
              show own_Go p e below _ (T4.setTop (mkF m 43 #[.val (.double (FP.l2d xa)), .second, .val (.double (FP.l2d xb)), .second, .val (.ref r), .val (.double (FP.l2d (own_v xa.toInt xb.toInt i 0))), .second, .val (.int xi), .val (.double (FP.l2d (own_v xa.toInt xb.toInt i e2))), .second, .val (.int xe)] [(.int (32 : Int32)), (.int xi), (.ref r)]))
              refine own_Go.st (fun _ kt => XS.imul X4.here hx rfl (hb hby own_d_prog_29_11_43) rfl kt) ?_
              show own_Go p e below _ (T4.setTop (mkF m 44 #[.val (.double (FP.l2d xa)), .second, .val (.double (FP.l2d xb)), .second, .val (.ref r), .val (.double (FP.l2d (own_v xa.toInt xb.toInt i 0))), .second, .val (.int xi), .val (.double (FP.l2d (own_v xa.toInt xb.toInt i e2))), .second, .val (.int xe)] [(.int (xi * (32 : Int32))), (.ref r)]))
              refine own_Go.st (fun _ kt => XS.iload X4.here hx rfl (hb hby own_d_prog_29_11_44) rfl kt) ?_
              show own_Go p e below _ (T4.setTop (mkF m 46 #[.val (.double (FP.l2d xa)), .second, .val (.double (FP.l2d xb)), .second, .val (.ref r), .val (.double (FP.l2d (own_v xa.toInt xb.toInt i 0))), .second, .val (.int xi), .val (.double (FP.l2d (own_v xa.toInt xb.toInt i e2))), .second, .val (.int xe)] [(.int xe), (.int (xi * (32 : Int32))), (.ref r)]))
              refine own_Go.st (fun _ kt => XS.iadd X4.here hx rfl (hb hby own_d_prog_29_11_46) rfl kt) ?_
              show own_Go p e below _ (T4.setTop (mkF m 47 #[.val (.double (FP.l2d xa)), .second, .val (.double (FP.l2d xb)), .second, .val (.ref r), .val (.double (FP.l2d (own_v xa.toInt xb.toInt i 0))), .second, .val (.int xi), .val (.double (FP.l2d (own_v xa.toInt xb.toInt i e2))), .second, .val (.int xe)] [(.int ((xi * (32 : Int32)) + xe)), (.ref r)]))
              refine own_Go.st (fun _ kt => XS.dload X4.here hx rfl (hb hby own_d_prog_29_11_47) rfl kt) ?_
              show own_Go p e below _ (T4.setTop (mkF m 49 #[.val (.double (FP.l2d xa)), .second, .val (.double (FP.l2d xb)), .second, .val (.ref r), .val (.double (FP.l2d (own_v xa.toInt xb.toInt i 0))), .second, .val (.int xi), .val (.double (FP.l2d (own_v xa.toInt xb.toInt i e2))), .second, .val (.int xe)] [(.double (FP.l2d (own_v xa.toInt xb.toInt i e2))), (.int ((xi * (32 : Int32)) + xe)), (.ref r)]))
              obtain ⟨T5, h5, X5, e5, W5, st5⟩ := own_dst X4 hx hZ e4 ar2 (own_idx hxi hxe (by omega) (by omega)) (by omega) (g := (mkF m 49 #[.val (.double (FP.l2d xa)), .second, .val (.double (FP.l2d xb)), .second, .val (.ref r), .val (.double (FP.l2d (own_v xa.toInt xb.toInt i 0))), .second, .val (.int xi), .val (.double (FP.l2d (own_v xa.toInt xb.toInt i e2))), .second, .val (.int xe)] [(.double (FP.l2d (own_v xa.toInt xb.toInt i e2))), (.int ((xi * (32 : Int32)) + xe)), (.ref r)])) rfl rfl (hb hby own_d_prog_29_11_49)
              refine own_Go.st st5 ?_
              have N5 := Fr.snoc X5 N4 n0_r
              have a5 := own_Ar.set ar2 W5
              have zz6 : n0 ≤ Array.size h5 := Nat.le_trans zz2 (Nat.le_of_eq (Wr.size W5).symm)
              have kk6 : Keep h0 h5 [] := kk2.wr W5 (Or.inr b_r)
              show own_Go p e below _ (T5.setTop (mkF m 50 #[.val (.double (FP.l2d xa)), .second, .val (.double (FP.l2d xb)), .second, .val (.ref r), .val (.double (FP.l2d (own_v xa.toInt xb.toInt i 0))), .second, .val (.int xi), .val (.double (FP.l2d (own_v xa.toInt xb.toInt i e2))), .second, .val (.int xe)] []))
              refine own_Go.st (fun _ kt => XS.dload X5.here hx rfl (hb hby own_d_prog_29_11_50) rfl kt) ?_
              show own_Go p e below _ (T5.setTop (mkF m 52 #[.val (.double (FP.l2d xa)), .second, .val (.double (FP.l2d xb)), .second, .val (.ref r), .val (.double (FP.l2d (own_v xa.toInt xb.toInt i 0))), .second, .val (.int xi), .val (.double (FP.l2d (own_v xa.toInt xb.toInt i e2))), .second, .val (.int xe)] [(.double (FP.l2d (own_v xa.toInt xb.toInt i e2)))]))
              refine own_Go.st (fun _ kt => XS.dloadN X5.here hx rfl (hb hby own_d_prog_29_11_52) rfl kt) ?_
              show own_Go p e below _ (T5.setTop (mkF m 53 #[.val (.double (FP.l2d xa)), .second, .val (.double (FP.l2d xb)), .second, .val (.ref r), .val (.double (FP.l2d (own_v xa.toInt xb.toInt i 0))), .second, .val (.int xi), .val (.double (FP.l2d (own_v xa.toInt xb.toInt i e2))), .second, .val (.int xe)] [(.double (FP.l2d xb)), (.double (FP.l2d (own_v xa.toInt xb.toInt i e2)))]))
              have bv := own_v_B hA hB i e2 (by omega) (by omega)
              have bx : B53 xb := ⟨by omega, by omega⟩
              refine own_Go.st (fun _ kt => XS.daddS X5.here hx rfl (hb hby own_d_prog_29_11_53) rfl (nn_w (dadd_w bv bx)) ((dadd_w bv bx).trans (by rw [own_v_col rfl])) kt) ?_
              show own_Go p e below _ (T5.setTop (mkF m 54 #[.val (.double (FP.l2d xa)), .second, .val (.double (FP.l2d xb)), .second, .val (.ref r), .val (.double (FP.l2d (own_v xa.toInt xb.toInt i 0))), .second, .val (.int xi), .val (.double (FP.l2d (own_v xa.toInt xb.toInt i e2))), .second, .val (.int xe)] [(.double (FP.l2d (own_v xa.toInt xb.toInt i (e2 + 1))))]))
              refine own_Go.st (fun _ kt => XS.dstore X5.here hx rfl (hb hby own_d_prog_29_11_54) rfl (l' := #[.val (.double (FP.l2d xa)), .second, .val (.double (FP.l2d xb)), .second, .val (.ref r), .val (.double (FP.l2d (own_v xa.toInt xb.toInt i 0))), .second, .val (.int xi), .val (.double (FP.l2d (own_v xa.toInt xb.toInt i (e2 + 1)))), .second, .val (.int xe)]) rfl kt) ?_
              show own_Go p e below _ (T5.setTop (mkF m 56 #[.val (.double (FP.l2d xa)), .second, .val (.double (FP.l2d xb)), .second, .val (.ref r), .val (.double (FP.l2d (own_v xa.toInt xb.toInt i 0))), .second, .val (.int xi), .val (.double (FP.l2d (own_v xa.toInt xb.toInt i (e2 + 1)))), .second, .val (.int xe)] []))
              refine own_Go.st (fun _ kt => XS.iinc X5.here hx rfl (hb hby own_d_prog_29_11_56) rfl (l' := #[.val (.double (FP.l2d xa)), .second, .val (.double (FP.l2d xb)), .second, .val (.ref r), .val (.double (FP.l2d (own_v xa.toInt xb.toInt i 0))), .second, .val (.int xi), .val (.double (FP.l2d (own_v xa.toInt xb.toInt i (e2 + 1)))), .second, .val (.int (xe + (1 : Int32)))]) rfl kt) ?_
              show own_Go p e below _ (T5.setTop (mkF m 59 #[.val (.double (FP.l2d xa)), .second, .val (.double (FP.l2d xb)), .second, .val (.ref r), .val (.double (FP.l2d (own_v xa.toInt xb.toInt i 0))), .second, .val (.int xi), .val (.double (FP.l2d (own_v xa.toInt xb.toInt i (e2 + 1)))), .second, .val (.int (xe + (1 : Int32)))] []))
              refine own_Go.st (fun _ kt => XS.goto X5.here hx rfl (pc0 := 59) (pc' := 27) rfl (hb hby own_d_prog_29_11_59) (by decide) (by decide) kt) ?_
              show own_Go p e below _ (T5.setTop (mkF m 27 #[.val (.double (FP.l2d xa)), .second, .val (.double (FP.l2d xb)), .second, .val (.ref r), .val (.double (FP.l2d (own_v xa.toInt xb.toInt i 0))), .second, .val (.int xi), .val (.double (FP.l2d (own_v xa.toInt xb.toInt i (e2 + 1)))), .second, .val (.int (xe + (1 : Int32)))] []))
              exact IH (t2 - 1) (by omega) _ _ _ X5 e5 N5 (e2 + 1) _ (by omega) (own_i32 hxe (by omega)) (a5.congr fun j hj => own_f_set _ _ i e2 hi he j hj) zz6 kk6
        exact LI (32 - i) _ _ _ X3 e3 N3 0 _ (by omega) (by decide) ar zz kk
  exact LO 32 _ _ _ X1 e1 N0 0 _ _ _ _ (by omega) (by decide) (Or.inl ⟨rfl, rfl⟩) (Or.inl rfl) a0r zz2 kk2
theorem own_pn1 : plainName "com/example/passagewise/passagewise/index/PassageCountsLeadAndRestSumsPinLaw" = true := by first | (simp [plainName, overriddenIn]; done) | decide +kernel
theorem own_ef2 (m : MethodId) (x0 : Addr) (x1 : Int32) (x2 : Int32) (x3 : Int32) (x4 : Int32) : entryFrame m #[(.ref x0), (.int x1), (.int x2), (.int x3), (.int x4)] 7 = mkF m 0 #[.val (.ref x0), .val (.int x1), .val (.int x2), .val (.int x3), .val (.int x4), .unset, .unset] [] := by first | (simp [entryFrame, mkF, argsToLocals, Value.category]; done) | rfl
theorem own_d_method_3_0 : decode method_3_code 0 = .ok (.iload_n 3, 1) := by decide +kernel
theorem own_d_method_3_1 : decode method_3_code 1 = .ok (.iload 4, 2) := by decide +kernel
theorem own_d_method_3_3 : decode method_3_code 3 = .ok (.iadd, 1) := by decide +kernel
theorem own_d_method_3_4 : decode method_3_code 4 = .ok (.bipush 31, 2) := by decide +kernel
theorem own_d_method_3_6 : decode method_3_code 6 = .ok (.if_icmp .gt 21, 3) := by decide +kernel
theorem own_d_method_3_27 : decode method_3_code 27 = .ok (.dconst 0, 1) := by decide +kernel
theorem own_d_method_3_28 : decode method_3_code 28 = .ok (.dstore 5, 2) := by decide +kernel
theorem own_d_method_3_30 : decode method_3_code 30 = .ok (.aload_n 0, 1) := by decide +kernel
theorem own_d_method_3_31 : decode method_3_code 31 = .ok (.iload_n 3, 1) := by decide +kernel
theorem own_d_method_3_32 : decode method_3_code 32 = .ok (.bipush 32, 2) := by decide +kernel
theorem own_d_method_3_34 : decode method_3_code 34 = .ok (.imul, 1) := by decide +kernel
theorem own_d_method_3_35 : decode method_3_code 35 = .ok (.iload 4, 2) := by decide +kernel
theorem own_d_method_3_37 : decode method_3_code 37 = .ok (.iadd, 1) := by decide +kernel
theorem own_d_method_3_38 : decode method_3_code 38 = .ok (.daload, 1) := by decide +kernel
theorem own_d_method_3_39 : decode method_3_code 39 = .ok (.dload 5, 2) := by decide +kernel
theorem own_d_method_3_41 : decode method_3_code 41 = .ok (.dcmp .l, 1) := by decide +kernel
theorem own_d_method_3_42 : decode method_3_code 42 = .ok (.ifCond .ne 7, 3) := by decide +kernel
theorem own_d_method_3_45 : decode method_3_code 45 = .ok (.iconst 1, 1) := by decide +kernel
theorem own_d_method_3_46 : decode method_3_code 46 = .ok (.goto 4, 3) := by decide +kernel
theorem own_d_method_3_50 : decode method_3_code 50 = .ok (.ireturn, 1) := by decide +kernel
theorem own_d_method_3_9 : decode method_3_code 9 = .ok (.iload_n 3, 1) := by decide +kernel
theorem own_d_method_3_10 : decode method_3_code 10 = .ok (.i2l, 1) := by decide +kernel
theorem own_d_method_3_11 : decode method_3_code 11 = .ok (.iload_n 1, 1) := by decide +kernel
theorem own_d_method_3_12 : decode method_3_code 12 = .ok (.i2l, 1) := by decide +kernel
theorem own_d_method_3_13 : decode method_3_code 13 = .ok (.lmul, 1) := by decide +kernel
theorem own_d_method_3_14 : decode method_3_code 14 = .ok (.iload 4, 2) := by decide +kernel
theorem own_d_method_3_16 : decode method_3_code 16 = .ok (.i2l, 1) := by decide +kernel
theorem own_d_method_3_17 : decode method_3_code 17 = .ok (.iload_n 2, 1) := by decide +kernel
theorem own_d_method_3_18 : decode method_3_code 18 = .ok (.i2l, 1) := by decide +kernel
theorem own_d_method_3_19 : decode method_3_code 19 = .ok (.lmul, 1) := by decide +kernel
theorem own_d_method_3_20 : decode method_3_code 20 = .ok (.ladd, 1) := by decide +kernel
theorem own_d_method_3_21 : decode method_3_code 21 = .ok (.l2d, 1) := by decide +kernel
theorem own_d_method_3_22 : decode method_3_code 22 = .ok (.dstore 5, 2) := by decide +kernel
theorem own_d_method_3_24 : decode method_3_code 24 = .ok (.goto 6, 3) := by decide +kernel
def own_Q_own_cell (Z : State) (r : Addr) (xx xy xi xe : Int32) (i e2 : Nat) (h0 : Heap) (n0 : Nat) (v : Option Value) (h : Heap) (L : List Loc) : Prop := v = some (.int 1) ∧ Fr n0 L ∧ h = h0
set_option maxRecDepth 65536 in
set_option maxHeartbeats 40000000 in
theorem own_cell (l : Launch) (Z : State) (a0 : Array Value) (hw : ∀ d ∈ tables_1, d.before a0 Z = true) (ws : List Jvm.Cond) (r : Addr) (xx xy xi xe : Int32) (i e2 : Nat) (h0 : Heap) (n0 : Nat) (Z0 : n0 ≤ h0.size) (hxi : xi.toInt = (i : Int)) (hxe : xe.toInt = (e2 : Int)) (hi : i < 32) (he : e2 < 32) (ar : own_Ar Z h0 r .double 1024 (own_f xx.toInt xy.toInt 32 0)) :
    MetFree l (⟨"com/example/passagewise/passagewise/index/PassageCountsLeadAndRestSumsPinLaw", "cell", "([DIIII)Z"⟩ : MethodName) (head1 (Jvm.Cond.code (⟨"com/example/passagewise/passagewise/index/PassageCountsLeadAndRestSumsPinLaw", "cell", "([DIIII)Z"⟩ : MethodName) method_3_code 7 (some .boolean) :: ws) ({ frames := 0, cells := 0, slots := 0, locals := 0 } : Room)) (fun av_ U => av_ = #[(.ref r), (.int xx), (.int xy), (.int xi), (.int xe)] ∧ Z.Warmed39 U.vm ∧ U.heap = h0) (fun _ _ _ _ _ => True) (fun _ U o U' => ∃ v L, o = .returned v ∧ own_Q_own_cell Z r xx xy xi xe i e2 h0 n0 v U'.heap L ∧ FrameEnd U o U' L ({ frames := 0, cells := 0, slots := 0, locals := 0 } : Room).cells ({ frames := 0, cells := 0, slots := 0, locals := 0 } : Room).slots) := by
  refine MetFree.of_bodySF (plainFor_of_name own_pn1) hisR ?_
  intro p e s m args below meth c s₁ Bd hml0 hP hK
  obtain ⟨rfl, hZ, hh⟩ := hP
  have hx := Bd.exec
  have hby := Bd.bytes
  have hml : c.maxLocals = 7 := hml0
  have hown : s.vm.findClass "com/example/passagewise/passagewise/index/PassageCountsLeadAndRestSumsPinLaw" = some m.cls := findClass_of_methodNamed Bd.named
  have hnm := (name_of_methodNamed Bd.named Bd.method).1
  have X0 : Stand p l e ({ frames := 0, cells := 0, slots := 0, locals := 0 } : Room) s m #[(.ref r), (.int xx), (.int xy), (.int xi), (.int xe)] below meth c s₁ [] 0 0 := Stand.of_body Bd
  have e0 : s₁.heap = h0 := by rw [← hh, Bd.state]; rfl
  have N0 := Fr.nil n0
  suffices hgo : own_Go p e below (fun o U' => ∃ v L, o = .returned v ∧ own_Q_own_cell Z r xx xy xi xe i e2 h0 n0 v U'.heap L ∧ FrameEnd s o U' L ({ frames := 0, cells := 0, slots := 0, locals := 0 } : Room).cells ({ frames := 0, cells := 0, slots := 0, locals := 0 } : Room).slots) (s₁.setTop (mkF m 0 #[.val (.ref r), .val (.int xx), .val (.int xy), .val (.int xi), .val (.int xe), .unset, .unset] [])) by
    obtain ⟨s₂, o, h1, h2, h3, h4⟩ := hgo
    exact ⟨s₂, o, castTop (own_ef2 m r xx xy xi xe) h1, h2, h3, h4⟩
  show own_Go p e below _ (s₁.setTop (mkF m 0 #[.val (.ref r), .val (.int xx), .val (.int xy), .val (.int xi), .val (.int xe), .unset, .unset] []))
  refine own_Go.st (fun _ kt => XS.iloadN X0.here hx rfl (hb hby own_d_method_3_0) rfl kt) ?_
  show own_Go p e below _ (s₁.setTop (mkF m 1 #[.val (.ref r), .val (.int xx), .val (.int xy), .val (.int xi), .val (.int xe), .unset, .unset] [(.int xi)]))
  refine own_Go.st (fun _ kt => XS.iload X0.here hx rfl (hb hby own_d_method_3_1) rfl kt) ?_
  show own_Go p e below _ (s₁.setTop (mkF m 3 #[.val (.ref r), .val (.int xx), .val (.int xy), .val (.int xi), .val (.int xe), .unset, .unset] [(.int xe), (.int xi)]))
  refine own_Go.st (fun _ kt => XS.iadd X0.here hx rfl (hb hby own_d_method_3_3) rfl kt) ?_
  show own_Go p e below _ (s₁.setTop (mkF m 4 #[.val (.ref r), .val (.int xx), .val (.int xy), .val (.int xi), .val (.int xe), .unset, .unset] [(.int (xi + xe))]))
  refine own_Go.st (fun _ kt => XS.bipush X0.here hx rfl (hb hby own_d_method_3_4) kt) ?_
  show own_Go p e below _ (s₁.setTop (mkF m 6 #[.val (.ref r), .val (.int xx), .val (.int xy), .val (.int xi), .val (.int xe), .unset, .unset] [(.int (31 : Int32)), (.int (xi + xe))]))
  have hs := own_add hxi hxe (by omega) (by omega)
  have j1 : (32 * i + e2) / 32 = i := by omega
  have j2 : (32 * i + e2) % 32 = e2 := by omega
  by_cases hc6 : (31 : Int32) < (xi + xe)
  · refine own_Go.st (fun _ kt => XS.icmpYes X0.here hx rfl (pc0 := 6) (pc' := 27) rfl (hb hby own_d_method_3_6) rfl (tlt hc6).2.2.1 (by decide) (by decide) kt) ?_
    show own_Go p e below _ (s₁.setTop (mkF m 27 #[.val (.ref r), .val (.int xx), .val (.int xy), .val (.int xi), .val (.int xe), .unset, .unset] []))
    have he2 : 31 < i + e2 := (own_31 hs).mp hc6
    refine own_Go.st (fun _ kt => XS.dconst0 X0.here hx rfl (hb hby own_d_method_3_27) rfl kt) ?_
    show own_Go p e below _ (s₁.setTop (mkF m 28 #[.val (.ref r), .val (.int xx), .val (.int xy), .val (.int xi), .val (.int xe), .unset, .unset] [(.double FP.dconst0)]))
    refine own_Go.st (fun _ kt => XS.dstore X0.here hx rfl (hb hby own_d_method_3_28) rfl (l' := #[.val (.ref r), .val (.int xx), .val (.int xy), .val (.int xi), .val (.int xe), .val (.double FP.dconst0), .second]) rfl kt) ?_
    show own_Go p e below _ (s₁.setTop (mkF m 30 #[.val (.ref r), .val (.int xx), .val (.int xy), .val (.int xi), .val (.int xe), .val (.double FP.dconst0), .second] []))
    refine own_Go.st (fun _ kt => XS.aloadN X0.here hx rfl (hb hby own_d_method_3_30) rfl rfl kt) ?_
    show own_Go p e below _ (s₁.setTop (mkF m 31 #[.val (.ref r), .val (.int xx), .val (.int xy), .val (.int xi), .val (.int xe), .val (.double FP.dconst0), .second] [(.ref r)]))
    refine own_Go.st (fun _ kt => XS.iloadN X0.here hx rfl (hb hby own_d_method_3_31) rfl kt) ?_
    show own_Go p e below _ (s₁.setTop (mkF m 32 #[.val (.ref r), .val (.int xx), .val (.int xy), .val (.int xi), .val (.int xe), .val (.double FP.dconst0), .second] [(.int xi), (.ref r)]))
    refine own_Go.st (fun _ kt => XS.bipush X0.here hx rfl (hb hby own_d_method_3_32) kt) ?_
    show own_Go p e below _ (s₁.setTop (mkF m 34 #[.val (.ref r), .val (.int xx), .val (.int xy), .val (.int xi), .val (.int xe), .val (.double FP.dconst0), .second] [(.int (32 : Int32)), (.int xi), (.ref r)]))
    refine own_Go.st (fun _ kt => XS.imul X0.here hx rfl (hb hby own_d_method_3_34) rfl kt) ?_
    show own_Go p e below _ (s₁.setTop (mkF m 35 #[.val (.ref r), .val (.int xx), .val (.int xy), .val (.int xi), .val (.int xe), .val (.double FP.dconst0), .second] [(.int (xi * (32 : Int32))), (.ref r)]))
    refine own_Go.st (fun _ kt => XS.iload X0.here hx rfl (hb hby own_d_method_3_35) rfl kt) ?_
    show own_Go p e below _ (s₁.setTop (mkF m 37 #[.val (.ref r), .val (.int xx), .val (.int xy), .val (.int xi), .val (.int xe), .val (.double FP.dconst0), .second] [(.int xe), (.int (xi * (32 : Int32))), (.ref r)]))
    refine own_Go.st (fun _ kt => XS.iadd X0.here hx rfl (hb hby own_d_method_3_37) rfl kt) ?_
    show own_Go p e below _ (s₁.setTop (mkF m 38 #[.val (.ref r), .val (.int xx), .val (.int xy), .val (.int xi), .val (.int xe), .val (.double FP.dconst0), .second] [(.int ((xi * (32 : Int32)) + xe)), (.ref r)]))
    refine own_Go.st (fun _ kt => own_dld X0 hx hZ e0 ar (own_idx hxi hxe (by omega) (by omega)) (by omega) (v := (.double FP.dconst0)) (by unfold own_f; rw [j1, j2, if_neg (by omega)]; rfl) (g := (mkF m 38 #[.val (.ref r), .val (.int xx), .val (.int xy), .val (.int xi), .val (.int xe), .val (.double FP.dconst0), .second] [(.int ((xi * (32 : Int32)) + xe)), (.ref r)])) rfl rfl (hb hby own_d_method_3_38) _ kt) ?_
    show own_Go p e below _ (s₁.setTop (mkF m 39 #[.val (.ref r), .val (.int xx), .val (.int xy), .val (.int xi), .val (.int xe), .val (.double FP.dconst0), .second] [(.double FP.dconst0)]))
    refine own_Go.st (fun _ kt => XS.dload X0.here hx rfl (hb hby own_d_method_3_39) rfl kt) ?_
    show own_Go p e below _ (s₁.setTop (mkF m 41 #[.val (.ref r), .val (.int xx), .val (.int xy), .val (.int xi), .val (.int xe), .val (.double FP.dconst0), .second] [(.double FP.dconst0), (.double FP.dconst0)]))
    refine own_Go.st (fun _ kt => XS.dcmpS X0.here hx rfl (hb hby own_d_method_3_41) rfl (dcmpV_self (by decide) _) kt) ?_
    show own_Go p e below _ (s₁.setTop (mkF m 42 #[.val (.ref r), .val (.int xx), .val (.int xy), .val (.int xi), .val (.int xe), .val (.double FP.dconst0), .second] [(.int (0 : Int32))]))
    refine own_Go.st (fun _ kt => XS.ifNo X0.here hx rfl (hb hby own_d_method_3_42) rfl ((if0 _ _).trans (teq rfl).2) kt) ?_
    show own_Go p e below _ (s₁.setTop (mkF m 45 #[.val (.ref r), .val (.int xx), .val (.int xy), .val (.int xi), .val (.int xe), .val (.double FP.dconst0), .second] []))
    refine own_Go.st (fun _ kt => XS.iconst X0.here hx rfl (hb hby own_d_method_3_45) kt) ?_
    show own_Go p e below _ (s₁.setTop (mkF m 46 #[.val (.ref r), .val (.int xx), .val (.int xy), .val (.int xi), .val (.int xe), .val (.double FP.dconst0), .second] [(.int (1 : Int32))]))
    refine own_Go.st (fun _ kt => XS.goto X0.here hx rfl (pc0 := 46) (pc' := 50) rfl (hb hby own_d_method_3_46) (by decide) (by decide) kt) ?_
    show own_Go p e below _ (s₁.setTop (mkF m 50 #[.val (.ref r), .val (.int xx), .val (.int xy), .val (.int xi), .val (.int xe), .val (.double FP.dconst0), .second] [(.int (1 : Int32))]))
    exact own_retZ X0 hx Bd.notSynchronized Bd.returns (Or.inr rfl) (hb hby own_d_method_3_50) (by decide) (by decide) ⟨rfl, N0, e0⟩
  · refine own_Go.st (fun _ kt => XS.icmpNo X0.here hx rfl (hb hby own_d_method_3_6) rfl (flt hc6).2.2.1 kt) ?_
    show own_Go p e below _ (s₁.setTop (mkF m 9 #[.val (.ref r), .val (.int xx), .val (.int xy), .val (.int xi), .val (.int xe), .unset, .unset] []))
    have he2 : i + e2 ≤ 31 := by have := mt (own_31 hs).mpr hc6; omega
    refine own_Go.st (fun _ kt => XS.iloadN X0.here hx rfl (hb hby own_d_method_3_9) rfl kt) ?_
    show own_Go p e below _ (s₁.setTop (mkF m 10 #[.val (.ref r), .val (.int xx), .val (.int xy), .val (.int xi), .val (.int xe), .unset, .unset] [(.int xi)]))
    refine own_Go.st (fun _ kt => XS.i2l X0.here hx rfl (hb hby own_d_method_3_10) rfl kt) ?_
    show own_Go p e below _ (s₁.setTop (mkF m 11 #[.val (.ref r), .val (.int xx), .val (.int xy), .val (.int xi), .val (.int xe), .unset, .unset] [(.long (xi.toInt64))]))
    refine own_Go.st (fun _ kt => XS.iloadN X0.here hx rfl (hb hby own_d_method_3_11) rfl kt) ?_
    show own_Go p e below _ (s₁.setTop (mkF m 12 #[.val (.ref r), .val (.int xx), .val (.int xy), .val (.int xi), .val (.int xe), .unset, .unset] [(.int xx), (.long (xi.toInt64))]))
    refine own_Go.st (fun _ kt => XS.i2l X0.here hx rfl (hb hby own_d_method_3_12) rfl kt) ?_
    show own_Go p e below _ (s₁.setTop (mkF m 13 #[.val (.ref r), .val (.int xx), .val (.int xy), .val (.int xi), .val (.int xe), .unset, .unset] [(.long (xx.toInt64)), (.long (xi.toInt64))]))
    refine own_Go.st (fun _ kt => XS.lmul X0.here hx rfl (hb hby own_d_method_3_13) rfl kt) ?_
    show own_Go p e below _ (s₁.setTop (mkF m 14 #[.val (.ref r), .val (.int xx), .val (.int xy), .val (.int xi), .val (.int xe), .unset, .unset] [(.long ((xi.toInt64) * (xx.toInt64)))]))
    refine own_Go.st (fun _ kt => XS.iload X0.here hx rfl (hb hby own_d_method_3_14) rfl kt) ?_
    show own_Go p e below _ (s₁.setTop (mkF m 16 #[.val (.ref r), .val (.int xx), .val (.int xy), .val (.int xi), .val (.int xe), .unset, .unset] [(.int xe), (.long ((xi.toInt64) * (xx.toInt64)))]))
    refine own_Go.st (fun _ kt => XS.i2l X0.here hx rfl (hb hby own_d_method_3_16) rfl kt) ?_
    show own_Go p e below _ (s₁.setTop (mkF m 17 #[.val (.ref r), .val (.int xx), .val (.int xy), .val (.int xi), .val (.int xe), .unset, .unset] [(.long (xe.toInt64)), (.long ((xi.toInt64) * (xx.toInt64)))]))
    refine own_Go.st (fun _ kt => XS.iloadN X0.here hx rfl (hb hby own_d_method_3_17) rfl kt) ?_
    show own_Go p e below _ (s₁.setTop (mkF m 18 #[.val (.ref r), .val (.int xx), .val (.int xy), .val (.int xi), .val (.int xe), .unset, .unset] [(.int xy), (.long (xe.toInt64)), (.long ((xi.toInt64) * (xx.toInt64)))]))
    refine own_Go.st (fun _ kt => XS.i2l X0.here hx rfl (hb hby own_d_method_3_18) rfl kt) ?_
    show own_Go p e below _ (s₁.setTop (mkF m 19 #[.val (.ref r), .val (.int xx), .val (.int xy), .val (.int xi), .val (.int xe), .unset, .unset] [(.long (xy.toInt64)), (.long (xe.toInt64)), (.long ((xi.toInt64) * (xx.toInt64)))]))
    refine own_Go.st (fun _ kt => XS.lmul X0.here hx rfl (hb hby own_d_method_3_19) rfl kt) ?_
    show own_Go p e below _ (s₁.setTop (mkF m 20 #[.val (.ref r), .val (.int xx), .val (.int xy), .val (.int xi), .val (.int xe), .unset, .unset] [(.long ((xe.toInt64) * (xy.toInt64))), (.long ((xi.toInt64) * (xx.toInt64)))]))
    refine own_Go.st (fun _ kt => XS.ladd X0.here hx rfl (hb hby own_d_method_3_20) rfl kt) ?_
    show own_Go p e below _ (s₁.setTop (mkF m 21 #[.val (.ref r), .val (.int xx), .val (.int xy), .val (.int xi), .val (.int xe), .unset, .unset] [(.long (((xi.toInt64) * (xx.toInt64)) + ((xe.toInt64) * (xy.toInt64))))]))
    have hv : (((xi.toInt64) * (xx.toInt64)) + ((xe.toInt64) * (xy.toInt64))) = own_v xx.toInt xy.toInt i e2 := by
      have r1 := rng32 xx
      have r2 := rng32 xy
      have m1 := own_mulb r1 i (by omega)
      have m2 := own_mulb r2 e2 (by omega)
      rw [← Int64.toInt_inj, own_v_toInt r1 r2 i e2 (by omega) (by omega)]
      have q1 := c_lmul xi.toInt64 xx.toInt64
      have q2 := c_lmul xe.toInt64 xy.toInt64
      rw [c_i2l, c_i2l, hxi] at q1
      rw [c_i2l, c_i2l, hxe] at q2
      have q3 := c_ladd (xi.toInt64 * xx.toInt64) (xe.toInt64 * xy.toInt64)
      have g1 := rng64 (xi.toInt64 * xx.toInt64)
      have g2 := rng64 (xe.toInt64 * xy.toInt64)
      have g3 := rng64 (xi.toInt64 * xx.toInt64 + xe.toInt64 * xy.toInt64)
      generalize (i : Int) * xx.toInt = u at *
      generalize (e2 : Int) * xy.toInt = w at *
      omega
    rw [show (((xi.toInt64) * (xx.toInt64)) + ((xe.toInt64) * (xy.toInt64))) = (own_v xx.toInt xy.toInt i e2) from hv]
    show own_Go p e below _ (s₁.setTop (mkF m 21 #[.val (.ref r), .val (.int xx), .val (.int xy), .val (.int xi), .val (.int xe), .unset, .unset] [(.long (own_v xx.toInt xy.toInt i e2))]))
    refine own_Go.st (fun _ kt => XS.l2dS X0.here hx rfl (hb hby own_d_method_3_21) rfl rfl kt) ?_
    show own_Go p e below _ (s₁.setTop (mkF m 22 #[.val (.ref r), .val (.int xx), .val (.int xy), .val (.int xi), .val (.int xe), .unset, .unset] [(.double (FP.l2d (own_v xx.toInt xy.toInt i e2)))]))
    refine own_Go.st (fun _ kt => XS.dstore X0.here hx rfl (hb hby own_d_method_3_22) rfl (l' := #[.val (.ref r), .val (.int xx), .val (.int xy), .val (.int xi), .val (.int xe), .val (.double (FP.l2d (own_v xx.toInt xy.toInt i e2))), .second]) rfl kt) ?_
    show own_Go p e below _ (s₁.setTop (mkF m 24 #[.val (.ref r), .val (.int xx), .val (.int xy), .val (.int xi), .val (.int xe), .val (.double (FP.l2d (own_v xx.toInt xy.toInt i e2))), .second] []))
    refine own_Go.st (fun _ kt => XS.goto X0.here hx rfl (pc0 := 24) (pc' := 30) rfl (hb hby own_d_method_3_24) (by decide) (by decide) kt) ?_
    show own_Go p e below _ (s₁.setTop (mkF m 30 #[.val (.ref r), .val (.int xx), .val (.int xy), .val (.int xi), .val (.int xe), .val (.double (FP.l2d (own_v xx.toInt xy.toInt i e2))), .second] []))
    refine own_Go.st (fun _ kt => XS.aloadN X0.here hx rfl (hb hby own_d_method_3_30) rfl rfl kt) ?_
    show own_Go p e below _ (s₁.setTop (mkF m 31 #[.val (.ref r), .val (.int xx), .val (.int xy), .val (.int xi), .val (.int xe), .val (.double (FP.l2d (own_v xx.toInt xy.toInt i e2))), .second] [(.ref r)]))
    refine own_Go.st (fun _ kt => XS.iloadN X0.here hx rfl (hb hby own_d_method_3_31) rfl kt) ?_
    show own_Go p e below _ (s₁.setTop (mkF m 32 #[.val (.ref r), .val (.int xx), .val (.int xy), .val (.int xi), .val (.int xe), .val (.double (FP.l2d (own_v xx.toInt xy.toInt i e2))), .second] [(.int xi), (.ref r)]))
    refine own_Go.st (fun _ kt => XS.bipush X0.here hx rfl (hb hby own_d_method_3_32) kt) ?_
    show own_Go p e below _ (s₁.setTop (mkF m 34 #[.val (.ref r), .val (.int xx), .val (.int xy), .val (.int xi), .val (.int xe), .val (.double (FP.l2d (own_v xx.toInt xy.toInt i e2))), .second] [(.int (32 : Int32)), (.int xi), (.ref r)]))
    refine own_Go.st (fun _ kt => XS.imul X0.here hx rfl (hb hby own_d_method_3_34) rfl kt) ?_
    show own_Go p e below _ (s₁.setTop (mkF m 35 #[.val (.ref r), .val (.int xx), .val (.int xy), .val (.int xi), .val (.int xe), .val (.double (FP.l2d (own_v xx.toInt xy.toInt i e2))), .second] [(.int (xi * (32 : Int32))), (.ref r)]))
    refine own_Go.st (fun _ kt => XS.iload X0.here hx rfl (hb hby own_d_method_3_35) rfl kt) ?_
    show own_Go p e below _ (s₁.setTop (mkF m 37 #[.val (.ref r), .val (.int xx), .val (.int xy), .val (.int xi), .val (.int xe), .val (.double (FP.l2d (own_v xx.toInt xy.toInt i e2))), .second] [(.int xe), (.int (xi * (32 : Int32))), (.ref r)]))
    refine own_Go.st (fun _ kt => XS.iadd X0.here hx rfl (hb hby own_d_method_3_37) rfl kt) ?_
    show own_Go p e below _ (s₁.setTop (mkF m 38 #[.val (.ref r), .val (.int xx), .val (.int xy), .val (.int xi), .val (.int xe), .val (.double (FP.l2d (own_v xx.toInt xy.toInt i e2))), .second] [(.int ((xi * (32 : Int32)) + xe)), (.ref r)]))
    refine own_Go.st (fun _ kt => own_dld X0 hx hZ e0 ar (own_idx hxi hxe (by omega) (by omega)) (by omega) (v := (.double (FP.l2d (own_v xx.toInt xy.toInt i e2)))) (by unfold own_f; rw [j1, j2, if_pos (by omega)]) (g := (mkF m 38 #[.val (.ref r), .val (.int xx), .val (.int xy), .val (.int xi), .val (.int xe), .val (.double (FP.l2d (own_v xx.toInt xy.toInt i e2))), .second] [(.int ((xi * (32 : Int32)) + xe)), (.ref r)])) rfl rfl (hb hby own_d_method_3_38) _ kt) ?_
    show own_Go p e below _ (s₁.setTop (mkF m 39 #[.val (.ref r), .val (.int xx), .val (.int xy), .val (.int xi), .val (.int xe), .val (.double (FP.l2d (own_v xx.toInt xy.toInt i e2))), .second] [(.double (FP.l2d (own_v xx.toInt xy.toInt i e2)))]))
    refine own_Go.st (fun _ kt => XS.dload X0.here hx rfl (hb hby own_d_method_3_39) rfl kt) ?_
    show own_Go p e below _ (s₁.setTop (mkF m 41 #[.val (.ref r), .val (.int xx), .val (.int xy), .val (.int xi), .val (.int xe), .val (.double (FP.l2d (own_v xx.toInt xy.toInt i e2))), .second] [(.double (FP.l2d (own_v xx.toInt xy.toInt i e2))), (.double (FP.l2d (own_v xx.toInt xy.toInt i e2)))]))
    refine own_Go.st (fun _ kt => XS.dcmpS X0.here hx rfl (hb hby own_d_method_3_41) rfl (dcmpV_self (nn_w rfl) _) kt) ?_
    show own_Go p e below _ (s₁.setTop (mkF m 42 #[.val (.ref r), .val (.int xx), .val (.int xy), .val (.int xi), .val (.int xe), .val (.double (FP.l2d (own_v xx.toInt xy.toInt i e2))), .second] [(.int (0 : Int32))]))
    refine own_Go.st (fun _ kt => XS.ifNo X0.here hx rfl (hb hby own_d_method_3_42) rfl ((if0 _ _).trans (teq rfl).2) kt) ?_
    show own_Go p e below _ (s₁.setTop (mkF m 45 #[.val (.ref r), .val (.int xx), .val (.int xy), .val (.int xi), .val (.int xe), .val (.double (FP.l2d (own_v xx.toInt xy.toInt i e2))), .second] []))
    refine own_Go.st (fun _ kt => XS.iconst X0.here hx rfl (hb hby own_d_method_3_45) kt) ?_
    show own_Go p e below _ (s₁.setTop (mkF m 46 #[.val (.ref r), .val (.int xx), .val (.int xy), .val (.int xi), .val (.int xe), .val (.double (FP.l2d (own_v xx.toInt xy.toInt i e2))), .second] [(.int (1 : Int32))]))
    refine own_Go.st (fun _ kt => XS.goto X0.here hx rfl (pc0 := 46) (pc' := 50) rfl (hb hby own_d_method_3_46) (by decide) (by decide) kt) ?_
    show own_Go p e below _ (s₁.setTop (mkF m 50 #[.val (.ref r), .val (.int xx), .val (.int xy), .val (.int xi), .val (.int xe), .val (.double (FP.l2d (own_v xx.toInt xy.toInt i e2))), .second] [(.int (1 : Int32))]))
    exact own_retZ X0 hx Bd.notSynchronized Bd.returns (Or.inr rfl) (hb hby own_d_method_3_50) (by decide) (by decide) ⟨rfl, N0, e0⟩
theorem own_ef3 (m : MethodId) (x0 : Int32) (x1 : Int32) (x2 : Int32) (x3 : Int32) (x4 : Int32) (x5 : Int32) : entryFrame m #[(.int x0), (.int x1), (.int x2), (.int x3), (.int x4), (.int x5)] maxLocals = mkF m 0 #[.val (.int x0), .val (.int x1), .val (.int x2), .val (.int x3), .val (.int x4), .val (.int x5), .unset, .unset, .unset, .unset, .unset] [] := by first | (simp [entryFrame, mkF, argsToLocals, Value.category, maxLocals]; done) | rfl
theorem own_pd0 : parseMethodDescriptor "(DD)[D" = some ⟨[.double, .double], some (.array .double)⟩ := by decide +kernel
theorem own_pd1 : parseMethodDescriptor "([DIIII)Z" = some ⟨[(.array .double), .int, .int, .int, .int], some .boolean⟩ := by decide +kernel
def own_Q_own_law (Z : State) (p0 p1 p2 p3 p4 p5 : Int32) (h0 : Heap) (n0 : Nat) (v : Option Value) (h : Heap) (L : List Loc) : Prop := v = some (.int 1) ∧ Fr n0 L
set_option maxRecDepth 65536 in
set_option maxHeartbeats 40000000 in
theorem own_law (l : Launch) (Z : State) (a0 : Array Value) (hw : ∀ d ∈ tables_1, d.before a0 Z = true) (ws : List Jvm.Cond) (p0 p1 p2 p3 p4 p5 : Int32) (h0 : Heap) (n0 : Nat) (Z0 : n0 ≤ h0.size)  :
    MetFree l x (head1 (Jvm.Cond.code x code maxLocals ret :: ws) room_1) (fun av_ U => av_ = #[(.int p0), (.int p1), (.int p2), (.int p3), (.int p4), (.int p5)] ∧ Z.Warmed39 U.vm ∧ U.heap = h0) (fun _ _ _ _ _ => True) (fun _ U o U' => ∃ v L, o = .returned v ∧ own_Q_own_law Z p0 p1 p2 p3 p4 p5 h0 n0 v U'.heap L ∧ FrameEnd U o U' L room_1.cells room_1.slots) := by
  refine MetFree.of_bodySF (plainFor_of_name own_pn1) hisR ?_
  intro p e s m args below meth c s₁ Bd hml0 hP hK
  obtain ⟨rfl, hZ, hh⟩ := hP
  have hx := Bd.exec
  have hby := Bd.bytes
  have hml : c.maxLocals = 11 := hml0
  have hown : s.vm.findClass "com/example/passagewise/passagewise/index/PassageCountsLeadAndRestSumsPinLaw" = some m.cls := findClass_of_methodNamed Bd.named
  have hnm := (name_of_methodNamed Bd.named Bd.method).1
  have X0 : Stand p l e room_1 s m #[(.int p0), (.int p1), (.int p2), (.int p3), (.int p4), (.int p5)] below meth c s₁ [] 0 0 := Stand.of_body Bd
  have e0 : s₁.heap = h0 := by rw [← hh, Bd.state]; rfl
  have N0 := Fr.nil n0
  suffices hgo : own_Go p e below (fun o U' => ∃ v L, o = .returned v ∧ own_Q_own_law Z p0 p1 p2 p3 p4 p5 h0 n0 v U'.heap L ∧ FrameEnd s o U' L room_1.cells room_1.slots) (s₁.setTop (mkF m 0 #[.val (.int p0), .val (.int p1), .val (.int p2), .val (.int p3), .val (.int p4), .val (.int p5), .unset, .unset, .unset, .unset, .unset] [])) by
    obtain ⟨s₂, o, h1, h2, h3, h4⟩ := hgo
    exact ⟨s₂, o, castTop (own_ef3 m p0 p1 p2 p3 p4 p5) h1, h2, h3, h4⟩
  show own_Go p e below _ (s₁.setTop (mkF m 0 #[.val (.int p0), .val (.int p1), .val (.int p2), .val (.int p3), .val (.int p4), .val (.int p5), .unset, .unset, .unset, .unset, .unset] []))
  refine own_Go.st (fun _ kt => XS.iloadN X0.here hx rfl (hb hby at_0) rfl kt) ?_
  show own_Go p e below _ (s₁.setTop (mkF m 1 #[.val (.int p0), .val (.int p1), .val (.int p2), .val (.int p3), .val (.int p4), .val (.int p5), .unset, .unset, .unset, .unset, .unset] [(.int p0)]))
  refine own_Go.st (fun _ kt => XS.i2dS X0.here hx rfl (hb hby at_1) rfl rfl kt) ?_
  show own_Go p e below _ (s₁.setTop (mkF m 2 #[.val (.int p0), .val (.int p1), .val (.int p2), .val (.int p3), .val (.int p4), .val (.int p5), .unset, .unset, .unset, .unset, .unset] [(.double (FP.i2d p0))]))
  rw [show (FP.i2d p0) = (FP.l2d p0.toInt64) from i2d_w _]
  show own_Go p e below _ (s₁.setTop (mkF m 2 #[.val (.int p0), .val (.int p1), .val (.int p2), .val (.int p3), .val (.int p4), .val (.int p5), .unset, .unset, .unset, .unset, .unset] [(.double (FP.l2d p0.toInt64))]))
  refine own_Go.st (fun _ kt => XS.dstore X0.here hx rfl (hb hby at_2) rfl (l' := #[.val (.int p0), .val (.int p1), .val (.int p2), .val (.int p3), .val (.int p4), .val (.int p5), .val (.double (FP.l2d p0.toInt64)), .second, .unset, .unset, .unset]) rfl kt) ?_
  show own_Go p e below _ (s₁.setTop (mkF m 4 #[.val (.int p0), .val (.int p1), .val (.int p2), .val (.int p3), .val (.int p4), .val (.int p5), .val (.double (FP.l2d p0.toInt64)), .second, .unset, .unset, .unset] []))
  refine own_Go.st (fun _ kt => XS.iloadN X0.here hx rfl (hb hby at_4) rfl kt) ?_
  show own_Go p e below _ (s₁.setTop (mkF m 5 #[.val (.int p0), .val (.int p1), .val (.int p2), .val (.int p3), .val (.int p4), .val (.int p5), .val (.double (FP.l2d p0.toInt64)), .second, .unset, .unset, .unset] [(.int p1)]))
  refine own_Go.st (fun _ kt => XS.i2dS X0.here hx rfl (hb hby at_5) rfl rfl kt) ?_
  show own_Go p e below _ (s₁.setTop (mkF m 6 #[.val (.int p0), .val (.int p1), .val (.int p2), .val (.int p3), .val (.int p4), .val (.int p5), .val (.double (FP.l2d p0.toInt64)), .second, .unset, .unset, .unset] [(.double (FP.i2d p1))]))
  rw [show (FP.i2d p1) = (FP.l2d p1.toInt64) from i2d_w _]
  show own_Go p e below _ (s₁.setTop (mkF m 6 #[.val (.int p0), .val (.int p1), .val (.int p2), .val (.int p3), .val (.int p4), .val (.int p5), .val (.double (FP.l2d p0.toInt64)), .second, .unset, .unset, .unset] [(.double (FP.l2d p1.toInt64))]))
  refine own_Go.st (fun _ kt => XS.dstore X0.here hx rfl (hb hby at_6) rfl (l' := #[.val (.int p0), .val (.int p1), .val (.int p2), .val (.int p3), .val (.int p4), .val (.int p5), .val (.double (FP.l2d p0.toInt64)), .second, .val (.double (FP.l2d p1.toInt64)), .second, .unset]) rfl kt) ?_
  show own_Go p e below _ (s₁.setTop (mkF m 8 #[.val (.int p0), .val (.int p1), .val (.int p2), .val (.int p3), .val (.int p4), .val (.int p5), .val (.double (FP.l2d p0.toInt64)), .second, .val (.double (FP.l2d p1.toInt64)), .second, .unset] []))
  refine own_Go.st (fun _ kt => XS.dload X0.here hx rfl (hb hby at_8) rfl kt) ?_
  show own_Go p e below _ (s₁.setTop (mkF m 10 #[.val (.int p0), .val (.int p1), .val (.int p2), .val (.int p3), .val (.int p4), .val (.int p5), .val (.double (FP.l2d p0.toInt64)), .second, .val (.double (FP.l2d p1.toInt64)), .second, .unset] [(.double (FP.l2d p0.toInt64))]))
  refine own_Go.st (fun _ kt => XS.dload X0.here hx rfl (hb hby at_10) rfl kt) ?_
  show own_Go p e below _ (s₁.setTop (mkF m 12 #[.val (.int p0), .val (.int p1), .val (.int p2), .val (.int p3), .val (.int p4), .val (.int p5), .val (.double (FP.l2d p0.toInt64)), .second, .val (.double (FP.l2d p1.toInt64)), .second, .unset] [(.double (FP.l2d p1.toInt64)), (.double (FP.l2d p0.toInt64))]))
  have b0 : -2147483648 ≤ p0.toInt64.toInt ∧ p0.toInt64.toInt < 2147483648 := by rw [c_i2l]; exact rng32 p0
  have b1 : -2147483648 ≤ p1.toInt64.toInt ∧ p1.toInt64.toInt < 2147483648 := by rw [c_i2l]; exact rng32 p1
  obtain ⟨_, _, ⟨T1, L1, k1, n1⟩, -, X1, ⟨Lc1, hQ1, l1, y1, z1⟩, st1⟩ := Jvm.LawKit.callS X0 hx (y := (⟨"com/example/passagewise/passagewise/index/PassageCounts", "leadAndRestSums", "(DD)[D"⟩ : MethodName)) hown (mvT hZ (hw _ (List.mem_of_getElem? (i := 0) rfl))) (mvT hZ (hw _ (List.mem_of_getElem? (i := 1) rfl))) (mvT hZ (hw _ (List.mem_of_getElem? (i := 2) rfl))) (mvT hZ (hw _ (List.mem_of_getElem? (i := 3) rfl))) (by decide) (backOf (W := 0) (own_sums l Z a0 hw [] p0.toInt64 p1.toInt64 h0 n0 Z0 b0 b1) hZ (hw _ (List.mem_of_getElem? (i := 3) rfl)) (hw _ (List.mem_of_getElem? (i := 2) rfl)) (by decide) (by decide)) (g := (mkF m 12 #[.val (.int p0), .val (.int p1), .val (.int p2), .val (.int p3), .val (.int p4), .val (.int p5), .val (.double (FP.l2d p0.toInt64)), .second, .val (.double (FP.l2d p1.toInt64)), .second, .unset] [(.double (FP.l2d p1.toInt64)), (.double (FP.l2d p0.toInt64))])) rfl (by rw [hml]; rfl) (argsL := [(.double (FP.l2d p0.toInt64)), (.double (FP.l2d p1.toInt64))]) (rest := []) (lenOf own_pd0 rfl) rfl (by show 2 * 0 + _ ≤ _; exact Nat.le_of_eq rfl) (hb hby at_12) (fun _ _ => ⟨rfl, e0, (by decide : 0 + 1 ≤ _), (by decide : 0 + 1024 ≤ _)⟩)
  dsimp only [Pt.U, Pt.locs, Pt.cells, Pt.slots] at X1 l1 y1 z1 st1 hQ1
  subst l1 y1 z1
  obtain ⟨r, rfl, N1q, ar1, KR1⟩ := hQ1
  have N1 := Fr.app N0 N1q
  refine own_Go.st (fun _ kt => st1 _ kt) ?_
  have zz2 : n0 ≤ Array.size T1.heap := Nat.le_trans Z0 KR1.1
  show own_Go p e below _ (T1.setTop (mkF m 15 #[.val (.int p0), .val (.int p1), .val (.int p2), .val (.int p3), .val (.int p4), .val (.int p5), .val (.double (FP.l2d p0.toInt64)), .second, .val (.double (FP.l2d p1.toInt64)), .second, .unset] [(.ref r)]))
  rw [c_i2l, c_i2l] at ar1
  refine own_Go.st (fun _ kt => XS.astore X1.here hx rfl (hb hby at_15) rfl rfl (l' := #[.val (.int p0), .val (.int p1), .val (.int p2), .val (.int p3), .val (.int p4), .val (.int p5), .val (.double (FP.l2d p0.toInt64)), .second, .val (.double (FP.l2d p1.toInt64)), .second, .val (.ref r)]) rfl kt) ?_
  show own_Go p e below _ (T1.setTop (mkF m 17 #[.val (.int p0), .val (.int p1), .val (.int p2), .val (.int p3), .val (.int p4), .val (.int p5), .val (.double (FP.l2d p0.toInt64)), .second, .val (.double (FP.l2d p1.toInt64)), .second, .val (.ref r)] []))
  refine own_Go.st (fun _ kt => XS.aload X1.here hx rfl (hb hby at_17) rfl rfl kt) ?_
  show own_Go p e below _ (T1.setTop (mkF m 19 #[.val (.int p0), .val (.int p1), .val (.int p2), .val (.int p3), .val (.int p4), .val (.int p5), .val (.double (FP.l2d p0.toInt64)), .second, .val (.double (FP.l2d p1.toInt64)), .second, .val (.ref r)] [(.ref r)]))
  refine own_Go.st (fun _ kt => own_alen X1 hx hZ rfl ar1 (z := (1024 : Int32)) (by decide) (g := (mkF m 19 #[.val (.int p0), .val (.int p1), .val (.int p2), .val (.int p3), .val (.int p4), .val (.int p5), .val (.double (FP.l2d p0.toInt64)), .second, .val (.double (FP.l2d p1.toInt64)), .second, .val (.ref r)] [(.ref r)])) rfl rfl (hb hby at_19) _ kt) ?_
  show own_Go p e below _ (T1.setTop (mkF m 20 #[.val (.int p0), .val (.int p1), .val (.int p2), .val (.int p3), .val (.int p4), .val (.int p5), .val (.double (FP.l2d p0.toInt64)), .second, .val (.double (FP.l2d p1.toInt64)), .second, .val (.ref r)] [(.int (1024 : Int32))]))
  refine own_Go.st (fun _ kt => XS.sipush X1.here hx rfl (hb hby at_20) kt) ?_
  show own_Go p e below _ (T1.setTop (mkF m 23 #[.val (.int p0), .val (.int p1), .val (.int p2), .val (.int p3), .val (.int p4), .val (.int p5), .val (.double (FP.l2d p0.toInt64)), .second, .val (.double (FP.l2d p1.toInt64)), .second, .val (.ref r)] [(.int (1024 : Int32)), (.int (1024 : Int32))]))
  refine own_Go.st (fun _ kt => XS.icmpYes X1.here hx rfl (pc0 := 23) (pc' := 28) rfl (hb hby at_23) rfl (teq rfl).1 (by decide) (by decide) kt) ?_
  show own_Go p e below _ (T1.setTop (mkF m 28 #[.val (.int p0), .val (.int p1), .val (.int p2), .val (.int p3), .val (.int p4), .val (.int p5), .val (.double (FP.l2d p0.toInt64)), .second, .val (.double (FP.l2d p1.toInt64)), .second, .val (.ref r)] []))
  refine own_Go.st (fun _ kt => XS.aload X1.here hx rfl (hb hby at_28) rfl rfl kt) ?_
  show own_Go p e below _ (T1.setTop (mkF m 30 #[.val (.int p0), .val (.int p1), .val (.int p2), .val (.int p3), .val (.int p4), .val (.int p5), .val (.double (FP.l2d p0.toInt64)), .second, .val (.double (FP.l2d p1.toInt64)), .second, .val (.ref r)] [(.ref r)]))
  refine own_Go.st (fun _ kt => XS.iloadN X1.here hx rfl (hb hby at_30) rfl kt) ?_
  show own_Go p e below _ (T1.setTop (mkF m 31 #[.val (.int p0), .val (.int p1), .val (.int p2), .val (.int p3), .val (.int p4), .val (.int p5), .val (.double (FP.l2d p0.toInt64)), .second, .val (.double (FP.l2d p1.toInt64)), .second, .val (.ref r)] [(.int p0), (.ref r)]))
  refine own_Go.st (fun _ kt => XS.iloadN X1.here hx rfl (hb hby at_31) rfl kt) ?_
  show own_Go p e below _ (T1.setTop (mkF m 32 #[.val (.int p0), .val (.int p1), .val (.int p2), .val (.int p3), .val (.int p4), .val (.int p5), .val (.double (FP.l2d p0.toInt64)), .second, .val (.double (FP.l2d p1.toInt64)), .second, .val (.ref r)] [(.int p1), (.int p0), (.ref r)]))
  refine own_Go.st (fun _ kt => XS.iloadN X1.here hx rfl (hb hby at_32) rfl kt) ?_
  show own_Go p e below _ (T1.setTop (mkF m 33 #[.val (.int p0), .val (.int p1), .val (.int p2), .val (.int p3), .val (.int p4), .val (.int p5), .val (.double (FP.l2d p0.toInt64)), .second, .val (.double (FP.l2d p1.toInt64)), .second, .val (.ref r)] [(.int p2), (.int p1), (.int p0), (.ref r)]))
  refine own_Go.st (fun _ kt => XS.bipush X1.here hx rfl (hb hby at_33) kt) ?_
  show own_Go p e below _ (T1.setTop (mkF m 35 #[.val (.int p0), .val (.int p1), .val (.int p2), .val (.int p3), .val (.int p4), .val (.int p5), .val (.double (FP.l2d p0.toInt64)), .second, .val (.double (FP.l2d p1.toInt64)), .second, .val (.ref r)] [(.int (31 : Int32)), (.int p2), (.int p1), (.int p0), (.ref r)]))
  refine own_Go.st (fun _ kt => XS.iand X1.here hx rfl (hb hby at_35) rfl kt) ?_
  show own_Go p e below _ (T1.setTop (mkF m 36 #[.val (.int p0), .val (.int p1), .val (.int p2), .val (.int p3), .val (.int p4), .val (.int p5), .val (.double (FP.l2d p0.toInt64)), .second, .val (.double (FP.l2d p1.toInt64)), .second, .val (.ref r)] [(.int (p2 &&& (31 : Int32))), (.int p1), (.int p0), (.ref r)]))
  refine own_Go.st (fun _ kt => XS.iloadN X1.here hx rfl (hb hby at_36) rfl kt) ?_
  show own_Go p e below _ (T1.setTop (mkF m 37 #[.val (.int p0), .val (.int p1), .val (.int p2), .val (.int p3), .val (.int p4), .val (.int p5), .val (.double (FP.l2d p0.toInt64)), .second, .val (.double (FP.l2d p1.toInt64)), .second, .val (.ref r)] [(.int p3), (.int (p2 &&& (31 : Int32))), (.int p1), (.int p0), (.ref r)]))
  refine own_Go.st (fun _ kt => XS.bipush X1.here hx rfl (hb hby at_37) kt) ?_
  show own_Go p e below _ (T1.setTop (mkF m 39 #[.val (.int p0), .val (.int p1), .val (.int p2), .val (.int p3), .val (.int p4), .val (.int p5), .val (.double (FP.l2d p0.toInt64)), .second, .val (.double (FP.l2d p1.toInt64)), .second, .val (.ref r)] [(.int (31 : Int32)), (.int p3), (.int (p2 &&& (31 : Int32))), (.int p1), (.int p0), (.ref r)]))
  refine own_Go.st (fun _ kt => XS.iand X1.here hx rfl (hb hby at_39) rfl kt) ?_
  show own_Go p e below _ (T1.setTop (mkF m 40 #[.val (.int p0), .val (.int p1), .val (.int p2), .val (.int p3), .val (.int p4), .val (.int p5), .val (.double (FP.l2d p0.toInt64)), .second, .val (.double (FP.l2d p1.toInt64)), .second, .val (.ref r)] [(.int (p3 &&& (31 : Int32))), (.int (p2 &&& (31 : Int32))), (.int p1), (.int p0), (.ref r)]))
  obtain ⟨ii0, ee0, gi0, ge0, li0, le0⟩ := own_and31 p2 p3
  obtain ⟨_, _, ⟨T3, L3, k3, n3⟩, -, X3, ⟨Lc3, hQ3, l3, y3, z3⟩, st3⟩ := Jvm.LawKit.callS X1 hx (y := (⟨"com/example/passagewise/passagewise/index/PassageCountsLeadAndRestSumsPinLaw", "cell", "([DIIII)Z"⟩ : MethodName)) hown (mvT hZ (hw _ (List.mem_of_getElem? (i := 5) rfl))) (mvT hZ (hw _ (List.mem_of_getElem? (i := 6) rfl))) (mvT hZ (hw _ (List.mem_of_getElem? (i := 7) rfl))) (mvT hZ (hw _ (List.mem_of_getElem? (i := 8) rfl))) (by decide) (backOf (W := 0) (own_cell l Z a0 hw [] r p0 p1 (p2 &&& 31) (p3 &&& 31) ii0 ee0 T1.heap n0 zz2 gi0 ge0 li0 le0 ar1) hZ (hw _ (List.mem_of_getElem? (i := 8) rfl)) (hw _ (List.mem_of_getElem? (i := 7) rfl)) (by decide) (by decide)) (g := (mkF m 40 #[.val (.int p0), .val (.int p1), .val (.int p2), .val (.int p3), .val (.int p4), .val (.int p5), .val (.double (FP.l2d p0.toInt64)), .second, .val (.double (FP.l2d p1.toInt64)), .second, .val (.ref r)] [(.int (p3 &&& (31 : Int32))), (.int (p2 &&& (31 : Int32))), (.int p1), (.int p0), (.ref r)])) rfl (by rw [hml]; rfl) (argsL := [(.ref r), (.int p0), (.int p1), (.int (p2 &&& (31 : Int32))), (.int (p3 &&& (31 : Int32)))]) (rest := []) (lenOf own_pd1 rfl) rfl (by show 2 * 0 + _ ≤ _; exact Nat.le_of_eq rfl) (hb hby at_40) (fun _ _ => ⟨rfl, rfl, (by decide : 1 + 0 ≤ _), (by decide : 1024 + 0 ≤ _)⟩)
  dsimp only [Pt.U, Pt.locs, Pt.cells, Pt.slots] at X3 l3 y3 z3 st3 hQ3
  subst l3 y3 z3
  obtain ⟨rfl, N3q, hh3⟩ := hQ3
  have N3 := Fr.app N1 N3q
  refine own_Go.st (fun _ kt => st3 _ kt) ?_
  show own_Go p e below _ (T3.setTop (mkF m 43 #[.val (.int p0), .val (.int p1), .val (.int p2), .val (.int p3), .val (.int p4), .val (.int p5), .val (.double (FP.l2d p0.toInt64)), .second, .val (.double (FP.l2d p1.toInt64)), .second, .val (.ref r)] [(.int (1 : Int32))]))
  refine own_Go.st (fun _ kt => XS.ifNo X3.here hx rfl (hb hby at_43) rfl ((if0 _ _).trans (feq (by decide)).1) kt) ?_
  show own_Go p e below _ (T3.setTop (mkF m 46 #[.val (.int p0), .val (.int p1), .val (.int p2), .val (.int p3), .val (.int p4), .val (.int p5), .val (.double (FP.l2d p0.toInt64)), .second, .val (.double (FP.l2d p1.toInt64)), .second, .val (.ref r)] []))
  refine own_Go.st (fun _ kt => XS.aload X3.here hx rfl (hb hby at_46) rfl rfl kt) ?_
  show own_Go p e below _ (T3.setTop (mkF m 48 #[.val (.int p0), .val (.int p1), .val (.int p2), .val (.int p3), .val (.int p4), .val (.int p5), .val (.double (FP.l2d p0.toInt64)), .second, .val (.double (FP.l2d p1.toInt64)), .second, .val (.ref r)] [(.ref r)]))
  refine own_Go.st (fun _ kt => XS.iloadN X3.here hx rfl (hb hby at_48) rfl kt) ?_
  show own_Go p e below _ (T3.setTop (mkF m 49 #[.val (.int p0), .val (.int p1), .val (.int p2), .val (.int p3), .val (.int p4), .val (.int p5), .val (.double (FP.l2d p0.toInt64)), .second, .val (.double (FP.l2d p1.toInt64)), .second, .val (.ref r)] [(.int p0), (.ref r)]))
  refine own_Go.st (fun _ kt => XS.iloadN X3.here hx rfl (hb hby at_49) rfl kt) ?_
  show own_Go p e below _ (T3.setTop (mkF m 50 #[.val (.int p0), .val (.int p1), .val (.int p2), .val (.int p3), .val (.int p4), .val (.int p5), .val (.double (FP.l2d p0.toInt64)), .second, .val (.double (FP.l2d p1.toInt64)), .second, .val (.ref r)] [(.int p1), (.int p0), (.ref r)]))
  refine own_Go.st (fun _ kt => XS.iload X3.here hx rfl (hb hby at_50) rfl kt) ?_
  show own_Go p e below _ (T3.setTop (mkF m 52 #[.val (.int p0), .val (.int p1), .val (.int p2), .val (.int p3), .val (.int p4), .val (.int p5), .val (.double (FP.l2d p0.toInt64)), .second, .val (.double (FP.l2d p1.toInt64)), .second, .val (.ref r)] [(.int p4), (.int p1), (.int p0), (.ref r)]))
  refine own_Go.st (fun _ kt => XS.bipush X3.here hx rfl (hb hby at_52) kt) ?_
  show own_Go p e below _ (T3.setTop (mkF m 54 #[.val (.int p0), .val (.int p1), .val (.int p2), .val (.int p3), .val (.int p4), .val (.int p5), .val (.double (FP.l2d p0.toInt64)), .second, .val (.double (FP.l2d p1.toInt64)), .second, .val (.ref r)] [(.int (31 : Int32)), (.int p4), (.int p1), (.int p0), (.ref r)]))
  refine own_Go.st (fun _ kt => XS.iand X3.here hx rfl (hb hby at_54) rfl kt) ?_
  show own_Go p e below _ (T3.setTop (mkF m 55 #[.val (.int p0), .val (.int p1), .val (.int p2), .val (.int p3), .val (.int p4), .val (.int p5), .val (.double (FP.l2d p0.toInt64)), .second, .val (.double (FP.l2d p1.toInt64)), .second, .val (.ref r)] [(.int (p4 &&& (31 : Int32))), (.int p1), (.int p0), (.ref r)]))
  refine own_Go.st (fun _ kt => XS.iload X3.here hx rfl (hb hby at_55) rfl kt) ?_
  show own_Go p e below _ (T3.setTop (mkF m 57 #[.val (.int p0), .val (.int p1), .val (.int p2), .val (.int p3), .val (.int p4), .val (.int p5), .val (.double (FP.l2d p0.toInt64)), .second, .val (.double (FP.l2d p1.toInt64)), .second, .val (.ref r)] [(.int p5), (.int (p4 &&& (31 : Int32))), (.int p1), (.int p0), (.ref r)]))
  refine own_Go.st (fun _ kt => XS.bipush X3.here hx rfl (hb hby at_57) kt) ?_
  show own_Go p e below _ (T3.setTop (mkF m 59 #[.val (.int p0), .val (.int p1), .val (.int p2), .val (.int p3), .val (.int p4), .val (.int p5), .val (.double (FP.l2d p0.toInt64)), .second, .val (.double (FP.l2d p1.toInt64)), .second, .val (.ref r)] [(.int (31 : Int32)), (.int p5), (.int (p4 &&& (31 : Int32))), (.int p1), (.int p0), (.ref r)]))
  refine own_Go.st (fun _ kt => XS.iand X3.here hx rfl (hb hby at_59) rfl kt) ?_
  show own_Go p e below _ (T3.setTop (mkF m 60 #[.val (.int p0), .val (.int p1), .val (.int p2), .val (.int p3), .val (.int p4), .val (.int p5), .val (.double (FP.l2d p0.toInt64)), .second, .val (.double (FP.l2d p1.toInt64)), .second, .val (.ref r)] [(.int (p5 &&& (31 : Int32))), (.int (p4 &&& (31 : Int32))), (.int p1), (.int p0), (.ref r)]))
  obtain ⟨ii1, ee1, gi1, ge1, li1, le1⟩ := own_and31 p4 p5
  obtain ⟨_, _, ⟨T4, L4, k4, n4⟩, -, X4, ⟨Lc4, hQ4, l4, y4, z4⟩, st4⟩ := Jvm.LawKit.callS X3 hx (y := (⟨"com/example/passagewise/passagewise/index/PassageCountsLeadAndRestSumsPinLaw", "cell", "([DIIII)Z"⟩ : MethodName)) hown (mvT hZ (hw _ (List.mem_of_getElem? (i := 5) rfl))) (mvT hZ (hw _ (List.mem_of_getElem? (i := 6) rfl))) (mvT hZ (hw _ (List.mem_of_getElem? (i := 7) rfl))) (mvT hZ (hw _ (List.mem_of_getElem? (i := 8) rfl))) (by decide) (backOf (W := 0) (own_cell l Z a0 hw [] r p0 p1 (p4 &&& 31) (p5 &&& 31) ii1 ee1 T1.heap n0 zz2 gi1 ge1 li1 le1 ar1) hZ (hw _ (List.mem_of_getElem? (i := 8) rfl)) (hw _ (List.mem_of_getElem? (i := 7) rfl)) (by decide) (by decide)) (g := (mkF m 60 #[.val (.int p0), .val (.int p1), .val (.int p2), .val (.int p3), .val (.int p4), .val (.int p5), .val (.double (FP.l2d p0.toInt64)), .second, .val (.double (FP.l2d p1.toInt64)), .second, .val (.ref r)] [(.int (p5 &&& (31 : Int32))), (.int (p4 &&& (31 : Int32))), (.int p1), (.int p0), (.ref r)])) rfl (by rw [hml]; rfl) (argsL := [(.ref r), (.int p0), (.int p1), (.int (p4 &&& (31 : Int32))), (.int (p5 &&& (31 : Int32)))]) (rest := []) (lenOf own_pd1 rfl) rfl (by show 2 * 0 + _ ≤ _; exact Nat.le_of_eq rfl) (hb hby at_60) (fun _ _ => ⟨rfl, hh3, (by decide : 1 + 0 ≤ _), (by decide : 1024 + 0 ≤ _)⟩)
  dsimp only [Pt.U, Pt.locs, Pt.cells, Pt.slots] at X4 l4 y4 z4 st4 hQ4
  subst l4 y4 z4
  obtain ⟨rfl, N4q, hh4⟩ := hQ4
  have N4 := Fr.app N3 N4q
  refine own_Go.st (fun _ kt => st4 _ kt) ?_
  show own_Go p e below _ (T4.setTop (mkF m 63 #[.val (.int p0), .val (.int p1), .val (.int p2), .val (.int p3), .val (.int p4), .val (.int p5), .val (.double (FP.l2d p0.toInt64)), .second, .val (.double (FP.l2d p1.toInt64)), .second, .val (.ref r)] [(.int (1 : Int32))]))
  refine own_Go.st (fun _ kt => XS.ifNo X4.here hx rfl (hb hby at_63) rfl ((if0 _ _).trans (feq (by decide)).1) kt) ?_
  show own_Go p e below _ (T4.setTop (mkF m 66 #[.val (.int p0), .val (.int p1), .val (.int p2), .val (.int p3), .val (.int p4), .val (.int p5), .val (.double (FP.l2d p0.toInt64)), .second, .val (.double (FP.l2d p1.toInt64)), .second, .val (.ref r)] []))
  refine own_Go.st (fun _ kt => XS.iconst X4.here hx rfl (hb hby at_66) kt) ?_
  show own_Go p e below _ (T4.setTop (mkF m 67 #[.val (.int p0), .val (.int p1), .val (.int p2), .val (.int p3), .val (.int p4), .val (.int p5), .val (.double (FP.l2d p0.toInt64)), .second, .val (.double (FP.l2d p1.toInt64)), .second, .val (.ref r)] [(.int (1 : Int32))]))
  refine own_Go.st (fun _ kt => XS.goto X4.here hx rfl (pc0 := 67) (pc' := 71) rfl (hb hby at_67) (by decide) (by decide) kt) ?_
  show own_Go p e below _ (T4.setTop (mkF m 71 #[.val (.int p0), .val (.int p1), .val (.int p2), .val (.int p3), .val (.int p4), .val (.int p5), .val (.double (FP.l2d p0.toInt64)), .second, .val (.double (FP.l2d p1.toInt64)), .second, .val (.ref r)] [(.int (1 : Int32))]))
  exact own_retZ X4 hx Bd.notSynchronized Bd.returns (Or.inr rfl) (hb hby at_71) (by decide) (by decide) ⟨rfl, N4⟩
set_option maxRecDepth 65536 in
set_option maxHeartbeats 40000000 in
theorem own_comes_1 {Post : Tables → Env → Array Value → State → Outcome → State → Prop} (hpost : ∀ tb e args s v u, (limb_1_1.after args s (.returned v) u = true ∧ limb_1_2.after args s (.returned v) u = true ∧ True) → FrameEnd s (.returned v) u (Jvm.fieldLocs frame_1_writes args s ++ Jvm.arrayLocs frame_1_arrays args s ++ Jvm.staticLocs frame_1_statics s) 16 2112 → Post tb e args s (.returned v) u) :
    ArmFor flags0 classFile x code maxLocals ret World_1 tables_1 room_1 Calls_1 rest_1 Pre_1 Post := by
  intro l hfl _ _ p e ha hc hk s m args below hf hA hF happ hP
  obtain ⟨hcalls, hrest, hpre⟩ := hP
  obtain ⟨-, -, -, hnamed, -, -, -, hat⟩ := (Spec.applies_iff hf).mp happ
  obtain ⟨hg, hn⟩ := and_e (Cond.before_iff.mp (show (Jvm.Cond.and given_1 narrow_1).before args s = true from hpre))
  obtain ⟨hg0, hg1⟩ := and_e hg
  obtain ⟨ha0, hb0⟩ := and_e hg1
  obtain ⟨ha1, hb1⟩ := and_e hb0
  obtain ⟨ha2, hb2⟩ := and_e hb1
  obtain ⟨ha3, hb3⟩ := and_e hb2
  obtain ⟨ha4, hb4⟩ := and_e hb3
  obtain ⟨w0, w1, w2, w3, w4, w5, rfl⟩ : ∃ w0 w1 w2 w3 w4 w5 : Value, args = #[w0, w1, w2, w3, w4, w5] := by
    have hs : args.size = 6 := by simpa [Cond.value, given_1] using hg0
    obtain ⟨L⟩ := args
    match L, hs with
    | [w0, w1, w2, w3, w4, w5], _ => exact ⟨w0, w1, w2, w3, w4, w5, rfl⟩
  have hw := fun d (hd : d ∈ tables_1) => atoms_spec (ws := Jvm.Cond.code x code maxLocals ret :: tables_1) hat d (List.mem_cons_of_mem _ hd)
  have hfit : Fit s := fun {y c} hc i hi => by
    obtain ⟨ha, rfl⟩ := Array.getElem?_eq_some_iff.mp hc
    have q := List.all_eq_true.mp ((Array.all_eq_true_iff_forall_mem.mp hF) _ (Array.getElem_mem ha)) i (List.mem_range.mpr hi)
    simpa [Array.getElem?_eq_getElem hi] using q
  obtain ⟨p0, ep0⟩ := is_v ha0
  obtain rfl : w0 = (.int p0) := Option.some.inj ep0
  obtain ⟨p1, ep1⟩ := is_v ha1
  obtain rfl : w1 = (.int p1) := Option.some.inj ep1
  obtain ⟨p2, ep2⟩ := is_v ha2
  obtain rfl : w2 = (.int p2) := Option.some.inj ep2
  obtain ⟨p3, ep3⟩ := is_v ha3
  obtain rfl : w3 = (.int p3) := Option.some.inj ep3
  obtain ⟨p4, ep4⟩ := is_v ha4
  obtain rfl : w4 = (.int p4) := Option.some.inj ep4
  obtain ⟨p5, ep5⟩ := is_v hb4
  obtain rfl : w5 = (.int p5) := Option.some.inj ep5

  obtain ⟨n, o, h1, h2, h3, _, L, rfl, ⟨rfl, N⟩, hq⟩ := own_law l s _ hw tables_1 p0 p1 p2 p3 p4 p5  s.heap s.heap.size (Nat.le_refl _)  p e ha hc hk s m _ below hf ((Spec.applies_iff_loose hf).mp happ).1 ⟨rfl, State.Warmed39.refl s, rfl⟩ trivial
  refine ⟨n, _, h1, h2, h3, hpost _ _ _ _ _ _ ⟨Cond.after_iff.mpr rfl, Cond.after_iff.mpr (eq_i res_at (Term.int_eval (1)) rfl), trivial⟩ ⟨hq.1, hq.2.1, (hq.2.2.sift fun y hy => Or.inr (N y hy)).mono (by decide) (by decide)⟩⟩
theorem main_1_1 : Claimed_1_1 := own_comes_1 fun _ _ _ _ _ _ h hF => ⟨h.1, hF⟩
theorem main_1_2 : Claimed_1_2 := own_comes_1 fun _ _ _ _ _ _ h hF => ⟨h.2.1, hF⟩

end Jvm.Pilot.@@N@@
namespace Jvm.Pilot.@@N@@
open Jvm Jvm.ClassFile Sem Op Lib Jvm.Free Jvm.Stand Jvm.Pilot.@@N@@.Jvm.D
/-! MADE BY PROGRAM (witnessworld.py) out of the Statement's table words and the real class files: 11 classes; the members and pool entries that the words name. The judged class is class 1, her method 1. -/
namespace start1
open Jvm.ClassFile
def u (s : String) : CpInfo := .utf8 (stringToUtf16 s)
/-- a pool by its gaps: so many unusable entries, then the entry; so many at the end -/
def gap : Nat → List CpInfo → List CpInfo
  | 0, r => r
  | n + 1, r => .unusable :: gap n r
def poolList (es : List (Nat × CpInfo)) (last : Nat) : List CpInfo := es.foldr (fun e r => gap e.1 (e.2 :: r)) (gap last [])
def pool (es : List (Nat × CpInfo)) (last : Nat) : Array CpInfo := ⟨poolList es last⟩
def fileOf (pool : Array CpInfo) (this : Nat) (attrs : Array Attribute := #[]) (ms : Array MethodInfo := #[]) (fl : Nat := 33) (sup : Nat := 0) (ifs : Array Nat := #[]) (fds : Array FieldInfo := #[]) : ClassFile where
  minorVersion := 0
  majorVersion := 65
  constantPool := pool
  accessFlags := fl
  thisClass := this
  superClass := sup
  interfaces := ifs
  fields := fds
  methods := ms
  attributes := attrs
def plain (name : String) (sup : Option ClassId) : Class where
  name := name
  kind := .ordinary
  loader := none
  accessFlags := 33
  super := sup
  interfaces := #[]
  cf := none
  fields := #[]
  methods := #[]
  instanceTypes := #[]
  staticTypes := #[]
  resolved := #[]
  callSites := []
  init := .initialized
  statics := none
  mirror := none

def pool0 : Array CpInfo := pool [(5, u "<init>"), (0, u "()V"), (1, .class_ 10), (1, u "java/lang/Object")] 113

def k0m0 : Method := { name := "<init>", desc := "()V", sig := { parameters := [], returnType := none }, accessFlags := 1, code := none }
/-- java/lang/Object -/
def k0 : Class := { plain "java/lang/Object" none with
  accessFlags := 33
  interfaces := #[]
  cf := some (fileOf pool0 8 #[] #[{ accessFlags := 1, nameIndex := 5, descriptorIndex := 6, attributes := #[] }] 33 0 #[] #[])
  fields := #[]
  methods := #[k0m0]
  instanceTypes := #[]
  staticTypes := #[]
  resolved := Array.replicate 124 none
  statics := none }

def pool1 : Array CpInfo := pool [(2, .class_ 4), (1, u "java/lang/Object"), (0, u "<init>"), (0, u "()V"), (0, .methodref 8 9), (0, .class_ 10), (0, .nameAndType 11 12), (0, u "com/example/passagewise/passagewise/index/PassageCounts"), (0, u "leadAndRestSums"), (0, u "(DD)[D"), (0, .methodref 14 15), (0, .class_ 16), (0, .nameAndType 17 18), (0, u "com/example/passagewise/passagewise/index/PassageCountsLeadAndRestSumsPinLaw"), (0, u "cell"), (0, u "([DIIII)Z"), (2, u "law"), (0, u "(IIIIII)Z")] 5

def k1m0 : Method := { name := "<init>", desc := "()V", sig := { parameters := [], returnType := none }, accessFlags := 1, code := none }
def k1c1 : Code := { maxStack := 6, maxLocals := 11, code := code, exceptionTable := #[], attributes := #[] }
def k1m1 : Method := { name := "law", desc := "(IIIIII)Z", sig := { parameters := [.int, .int, .int, .int, .int, .int], returnType := some .boolean }, accessFlags := 9, code := some k1c1 }
def k1c2 : Code := { maxStack := 6, maxLocals := 7, code := method_3_code, exceptionTable := #[], attributes := #[] }
def k1m2 : Method := { name := "cell", desc := "([DIIII)Z", sig := { parameters := [(.array .double), .int, .int, .int, .int], returnType := some .boolean }, accessFlags := 10, code := some k1c2 }
/-- com/example/passagewise/passagewise/index/PassageCountsLeadAndRestSumsPinLaw -/
def k1 : Class := { plain "com/example/passagewise/passagewise/index/PassageCountsLeadAndRestSumsPinLaw" (some 0) with
  accessFlags := 49
  interfaces := #[]
  cf := some (fileOf pool1 14 #[] #[{ accessFlags := 1, nameIndex := 5, descriptorIndex := 6, attributes := #[] }, { accessFlags := 9, nameIndex := 21, descriptorIndex := 22, attributes := #[] }, { accessFlags := 10, nameIndex := 17, descriptorIndex := 18, attributes := #[] }] 49 2 #[] #[])
  fields := #[]
  methods := #[k1m0, k1m1, k1m2]
  instanceTypes := #[]
  staticTypes := #[]
  resolved := Array.replicate 28 none
  statics := none }

def pool2 : Array CpInfo := pool [(1, .class_ 2), (0, u "com/example/passagewise/passagewise/index/PassageCounts"), (3, .class_ 8), (1, u "java/lang/Object"), (5, u "leadAndRest"), (0, u "[C"), (2, u "firstCodes"), (0, u "[J"), (2, u "passages"), (0, u "I"), (0, .class_ 25), (0, u "com/example/passagewise/passagewise/index/PassageCounts$CodeOrder"), (26, u "KEPT"), (0, u "Lcom/example/passagewise/passagewise/index/KeptValues;"), (51, u "PASCAL"), (0, u "[[J"), (7, u "UNCODED"), (2, u "MOST_OCCURRENCES"), (1, u "SIDE"), (1, u "DECODED"), (0, u "SHORT_BITS"), (1, u "UNRANKED"), (0, u "J"), (0, u "TOO_LARGE"), (0, u "READERS_KEPT"), (19, u "leadAndRestSums"), (0, u "(DD)[D")] 25

def k2c0 : Code := { maxStack := 4, maxLocals := 11, code := prog_29_method_11_code, exceptionTable := #[], attributes := #[] }
def k2m0 : Method := { name := "leadAndRestSums", desc := "(DD)[D", sig := { parameters := [.double, .double], returnType := some (.array .double) }, accessFlags := 9, code := some k2c0 }
/-- com/example/passagewise/passagewise/index/PassageCounts -/
def k2 : Class := { plain "com/example/passagewise/passagewise/index/PassageCounts" (some 0) with
  accessFlags := 49
  interfaces := #[]
  cf := some (fileOf pool2 1 #[.nestMembers #[24]] #[{ accessFlags := 9, nameIndex := 147, descriptorIndex := 148, attributes := #[] }] 49 6 #[] #[{ accessFlags := 25, nameIndex := 114, descriptorIndex := 23, attributes := #[] }, { accessFlags := 25, nameIndex := 117, descriptorIndex := 23, attributes := #[] }, { accessFlags := 26, nameIndex := 119, descriptorIndex := 23, attributes := #[] }, { accessFlags := 26, nameIndex := 121, descriptorIndex := 23, attributes := #[] }, { accessFlags := 26, nameIndex := 122, descriptorIndex := 23, attributes := #[] }, { accessFlags := 26, nameIndex := 124, descriptorIndex := 125, attributes := #[] }, { accessFlags := 26, nameIndex := 126, descriptorIndex := 125, attributes := #[] }, { accessFlags := 26, nameIndex := 105, descriptorIndex := 106, attributes := #[] }, { accessFlags := 24, nameIndex := 127, descriptorIndex := 23, attributes := #[] }, { accessFlags := 26, nameIndex := 52, descriptorIndex := 53, attributes := #[] }, { accessFlags := 18, nameIndex := 22, descriptorIndex := 23, attributes := #[] }, { accessFlags := 18, nameIndex := 14, descriptorIndex := 15, attributes := #[] }, { accessFlags := 18, nameIndex := 18, descriptorIndex := 19, attributes := #[] }])
  fields := #[{ name := "UNCODED", type := .int, accessFlags := 25, slot := 0, constantValue := 0 }, { name := "MOST_OCCURRENCES", type := .int, accessFlags := 25, slot := 1, constantValue := 0 }, { name := "SIDE", type := .int, accessFlags := 26, slot := 2, constantValue := 0 }, { name := "DECODED", type := .int, accessFlags := 26, slot := 3, constantValue := 0 }, { name := "SHORT_BITS", type := .int, accessFlags := 26, slot := 4, constantValue := 0 }, { name := "UNRANKED", type := .long, accessFlags := 26, slot := 5, constantValue := 0 }, { name := "TOO_LARGE", type := .long, accessFlags := 26, slot := 6, constantValue := 0 }, { name := "PASCAL", type := (.array (.array .long)), accessFlags := 26, slot := 7, constantValue := 0 }, { name := "READERS_KEPT", type := .int, accessFlags := 24, slot := 8, constantValue := 0 }, { name := "KEPT", type := (.object "com/example/passagewise/passagewise/index/KeptValues"), accessFlags := 26, slot := 9, constantValue := 0 }, { name := "passages", type := .int, accessFlags := 18, slot := 0, constantValue := 0 }, { name := "leadAndRest", type := (.array .char), accessFlags := 18, slot := 1, constantValue := 0 }, { name := "firstCodes", type := (.array .long), accessFlags := 18, slot := 2, constantValue := 0 }]
  methods := #[k2m0]
  instanceTypes := #[.int, (.array .char), (.array .long)]
  staticTypes := #[.int, .int, .int, .int, .int, .long, .long, (.array (.array .long)), .int, (.object "com/example/passagewise/passagewise/index/KeptValues")]
  resolved := Array.replicate 174 none
  statics := none }

def pool3 : Array CpInfo := pool [(1, u "java/lang/Cloneable"), (0, .class_ 1), (0, u "java/lang/Object"), (0, .class_ 3)] 3

/-- java/lang/Cloneable -/
def k3 : Class := { plain "java/lang/Cloneable" (some 0) with
  accessFlags := 1537
  interfaces := #[]
  cf := some (fileOf pool3 2 #[] #[] 1537 4 #[] #[])
  fields := #[]
  methods := #[]
  instanceTypes := #[]
  staticTypes := #[]
  resolved := Array.replicate 8 none
  statics := none }

def pool4 : Array CpInfo := pool [(1, u "java/io/Serializable"), (0, .class_ 1), (0, u "java/lang/Object"), (0, .class_ 3)] 3

/-- java/io/Serializable -/
def k4 : Class := { plain "java/io/Serializable" (some 0) with
  accessFlags := 1537
  interfaces := #[]
  cf := some (fileOf pool4 2 #[] #[] 1537 4 #[] #[])
  fields := #[]
  methods := #[]
  instanceTypes := #[]
  staticTypes := #[]
  resolved := Array.replicate 8 none
  statics := none }

/-- the primitive byte -/
def k5 : Class := { plain "byte" none with kind := .primitive 'B', accessFlags := 0x411 }
/-- [B -/
def k6 : Class := { plain "[B" (some 0) with kind := .array 5 .byte, interfaces := #[3, 4], accessFlags := 1041 }

/-- the primitive double -/
def k7 : Class := { plain "double" none with kind := .primitive 'D', accessFlags := 0x411 }
/-- [D -/
def k8 : Class := { plain "[D" (some 0) with kind := .array 7 .double, interfaces := #[3, 4], accessFlags := 1041 }

/-- the primitive int -/
def k9 : Class := { plain "int" none with kind := .primitive 'I', accessFlags := 0x411 }
/-- [I -/
def k10 : Class := { plain "[I" (some 0) with kind := .array 9 .int, interfaces := #[3, 4], accessFlags := 1041 }

def heap : Heap := #[]
def classes : Array Class := #[k0, k1, k2, k3, k4, k5, k6, k7, k8, k9, k10]
def interned : List (Array UInt16 × Addr) := []
def slotsUsed : Nat := 0
def theMethod : MethodId := ⟨1, 1⟩
def args0 : Array Value := #[.int 5, .int 9, .int 7, .int 4, .int 3, .int 40]
def aboutOver (below : List Frame) : State where
  vm := { classes := classes, interned := interned.toArray }
  heap := heap
  slotsUsed := slotsUsed
  threads := #[{ frames := .invoking theMethod args0 :: below }]
def below0 : List Frame := [.native { method := ⟨0, 0⟩, args := #[] }]
def about1 : State := aboutOver below0
def p0 : Program := .bare "" "" ""
def e0 : Env := launch0.env 0 0 0
theorem w_frames : about1.frames = Frame.invoking theMethod args0 :: below0 := rfl
set_option maxRecDepth 65536 in
theorem w_args : argsFit about1.vm theMethod args0 = true := by decide +kernel
set_option maxRecDepth 65536 in
theorem w_heap : heapFits about1 = true := by decide +kernel
set_option maxRecDepth 65536 in
theorem w_runnable : about1.curStatus? = some .runnable := by decide +kernel
set_option maxRecDepth 65536 in
theorem w_alone : about1.alone = true := by decide +kernel
set_option maxRecDepth 65536 in
theorem w_named : about1.methodNamed? x = some theMethod := by decide +kernel
set_option maxRecDepth 65536 in
theorem w_hears : about1.hears theMethod below0 = true := by decide +kernel
set_option maxRecDepth 65536 in
theorem w_ripe : about1.ripe theMethod args0 below0 = true := by decide +kernel
theorem w_running : about1.status = .running := rfl
set_option maxRecDepth 65536 in
theorem w_room : about1.hasRoom e0.platform room_1 = true :=
  launch0.hasRoom_least _ room_1 (by decide +kernel) (by decide +kernel) (by decide +kernel) (by decide +kernel) (by decide +kernel) (by decide +kernel)
theorem allAtoms_all (ts : List Jvm.Cond) (a : Array Jvm.Value) (st : Jvm.State) : (allAtoms ts).before a st = ts.all (fun c => c.before a st) := by
  induction ts with
  | nil => rfl
  | cons c t ih =>
    show (Jvm.Cond.and c (allAtoms t)).before a st = _
    rw [Jvm.Cond.before_and, ih, List.all_cons]
def words1 : List Jvm.Cond := Jvm.Cond.code x code maxLocals ret :: tables_1
/-- a 'code' word, met by the world's own term for the bytes: nothing is compared byte by byte -/
theorem code_word {y : MethodName} {bytes : ByteArray} {mx : Nat} {rt : Option FieldType} {a : Array Value} {s : State} {m : MethodId} {meth : Method} {c : Code} (h1 : s.methodNamed? y = some m) (h2 : s.vm.method? m = some meth) (h3 : meth.code = some c) (h4 : c.code = bytes)
    (h5 : (c.maxLocals == mx && c.exceptionTable.isEmpty && decide (c.maxStack ≤ mostOperands) && decide (meth.sig.returnType = rt) && !meth.locks && decide (parseMethodDescriptor y.desc = some meth.sig)) = true) : (Jvm.Cond.code y bytes mx rt).before a s = true := by
  simp only [Bool.and_eq_true, beq_iff_eq, Bool.not_eq_true', decide_eq_true_eq] at h5
  obtain ⟨⟨⟨⟨⟨g1, g2⟩, g3⟩, g4⟩, g5⟩, g6⟩ := h5
  simp [Cond.before, Cond.holds, Cond.value, h1, h2, h3, h4, g1, g2, g3, g4, g5, g6]
def isCode : Jvm.Cond → Bool
  | .code _ _ _ _ => true
  | _ => false
theorem all_split {L : List Jvm.Cond} {P : Jvm.Cond → Bool} (h1 : L.all (fun c => isCode c || P c) = true) (h2 : ∀ c ∈ L.filter isCode, P c = true) : L.all P = true := by
  refine List.all_eq_true.mpr fun c hc => ?_
  have h := List.all_eq_true.mp h1 c hc
  rcases Bool.eq_false_or_eq_true (isCode c) with hi | hi
  · exact h2 c (List.mem_filter.mpr ⟨hc, hi⟩)
  · simpa [hi] using h
set_option maxRecDepth 65536 in
theorem w_c0 : (Jvm.Cond.code x code maxLocals ret).before args0 about1 = true := code_word (m := ⟨1, 1⟩) (meth := k1m1) (c := k1c1) (by decide +kernel) rfl rfl rfl (by decide +kernel)
set_option maxRecDepth 65536 in
theorem w_c1 : (Jvm.Cond.code ({ cls := "com/example/passagewise/passagewise/index/PassageCounts", name := "leadAndRestSums", desc := "(DD)[D" } : Jvm.MethodName) prog_29_method_11_code (11 : Nat) (Option.some (Jvm.ClassFile.FieldType.array Jvm.ClassFile.FieldType.double))).before args0 about1 = true := code_word (m := ⟨2, 0⟩) (meth := k2m0) (c := k2c0) (by decide +kernel) rfl rfl rfl (by decide +kernel)
set_option maxRecDepth 65536 in
theorem w_c2 : (Jvm.Cond.code ({ cls := "com/example/passagewise/passagewise/index/PassageCountsLeadAndRestSumsPinLaw", name := "cell", desc := "([DIIII)Z" } : Jvm.MethodName) method_3_code (7 : Nat) (Option.some Jvm.ClassFile.FieldType.boolean)).before args0 about1 = true := code_word (m := ⟨1, 2⟩) (meth := k1m2) (c := k1c2) (by decide +kernel) rfl rfl rfl (by decide +kernel)
def codes1 : List Jvm.Cond := [Jvm.Cond.code x code maxLocals ret, Jvm.Cond.code ({ cls := "com/example/passagewise/passagewise/index/PassageCounts", name := "leadAndRestSums", desc := "(DD)[D" } : Jvm.MethodName) prog_29_method_11_code (11 : Nat) (Option.some (Jvm.ClassFile.FieldType.array Jvm.ClassFile.FieldType.double)), Jvm.Cond.code ({ cls := "com/example/passagewise/passagewise/index/PassageCountsLeadAndRestSumsPinLaw", name := "cell", desc := "([DIIII)Z" } : Jvm.MethodName) method_3_code (7 : Nat) (Option.some Jvm.ClassFile.FieldType.boolean)]
set_option maxRecDepth 65536 in
theorem codes_eq : words1.filter isCode = codes1 := rfl
theorem w_codes : ∀ c ∈ words1.filter isCode, c.before args0 about1 = true := by
  rw [codes_eq]
  intro c hc
  simp only [codes1, List.mem_cons, List.not_mem_nil, or_false] at hc
  rcases hc with rfl | rfl | rfl
  · exact w_c0
  · exact w_c1
  · exact w_c2
set_option maxRecDepth 65536 in
theorem w_t1 : words1.all (fun c => isCode c || c.before args0 about1) = true := by decide +kernel
theorem w_tables : (allAtoms (Jvm.Cond.code x code maxLocals ret :: tables_1)).before args0 about1 = true := by
  rw [allAtoms_all]
  show words1.all (fun c => c.before args0 about1) = true
  refine all_split ?_ w_codes
  rw [w_t1]
set_option maxRecDepth 65536 in
theorem w_case : (Jvm.Cond.and given_1 narrow_1).before args0 about1 = true := by decide +kernel
theorem w_applies : (headSpec (Jvm.Cond.code x code maxLocals ret :: tables_1) room_1).applies x e0.platform about1 = true :=
  (Spec.applies_iff w_frames).mpr ⟨w_running, w_runnable, w_alone, w_named, w_hears, w_ripe, w_room, w_tables⟩
theorem atStart : AtStart classFile x code maxLocals ret World_1 tables_1 room_1 Calls_1 rest_1 Pre_1 launch0 p0 e0 about1 theMethod args0 below0 :=
  ⟨lists_1, trivial, launch0.admits_env _ _ _, launch0.least_env, fairChoices_fair.cas, fairChoices_fair.clock, w_frames, w_args, w_heap, w_applies, trivial, trivial, w_case⟩
end start1
theorem witness_1 : WitnessClaimed_1 := ⟨start1.p0, start1.e0, start1.about1, start1.theMethod, start1.args0, start1.below0, start1.atStart⟩
end Jvm.Pilot.@@N@@
