import JvmDerived
import JvmDerived.Pilot.@@N@@Statement
import JvmDerived.Pilot.@@N@@Code
set_option linter.unusedVariables false
set_option linter.unusedSimpArgs false
namespace Jvm.RoadKit
open Sem ClassFile Op Lib Jvm.Stand Jvm.Free Jvm.LawKit
section Own
/-- from here the run comes to an end of which P holds -/
def own_Go (p : Program) (e : Env) (below : List Frame) (P : Outcome → State → Prop) (t : State) : Prop :=
  ∃ s₂ o, Steps p.tables e below t s₂ ∧ s₂.status = .running ∧ Ended s₂ below o ∧ P o s₂
variable {p : Program} {l : Launch} {e : Env} {R : Room} {s : State} {m : MethodId} {args : Array Value} {below : List Frame} {meth : Method} {c : Code} {T : State} {locs : List Loc} {cells slots : Nat}
theorem own_Go.st {P : Outcome → State → Prop} {t t' : State} (h : ∀ target, Steps p.tables e below t' target → Steps p.tables e below t target) (k : own_Go p e below P t') : own_Go p e below P t := by
  obtain ⟨a, b, h1, h2⟩ := k
  exact ⟨a, b, h _ h1, h2⟩
variable {C N : Nat} {Q : Option Value → Heap → List Loc → Prop}
theorem own_ret {v : Option Value} {g : JFrame} (X : Stand p l e R s m args below meth c T locs cells slots) (hlk : meth.locks = false) (hv : meth.sig.returnType = none → v = none)
    (hl : ∀ fs : List Frame, (∀ (f : JFrame) (acts : List Action), f.method = m → f.locked = none → f.entered = [] → (doReturn e (T.setTop f) acts v).1 = T.setFrames fs) → Steps p.tables e below (T.setTop g) (T.setFrames fs))
    (hc : cells ≤ C) (hn : slots ≤ N) (q : Q v T.heap locs) : own_Go p e below (fun o U' => ∃ v L, o = .returned v ∧ Q v U'.heap L ∧ FrameEnd s o U' L C N) (T.setTop g) := by
  obtain ⟨fs, hr, hrun, hended, hW, hsame⟩ := X.leave (v := v) hv hlk
  exact ⟨_, _, hl fs hr, hrun, hended, _, _, rfl, q, ⟨_, rfl⟩, hW, hsame.mono hc hn⟩
theorem own_retI {pc : Nat} {Ls : Array Slot} {z : Int32} {rest : List Value} (X : Stand p l e R s m args below meth c T locs cells slots) (hx : p.tables.exec = Jvm.exec) (hlk : meth.locks = false) (hret : meth.sig.returnType = some .int) (hd : decode c.code pc = .ok (.ireturn, 1))
    (hc : cells ≤ C) (hn : slots ≤ N) (q : Q (some (.int z)) T.heap locs) : own_Go p e below (fun o U' => ∃ v L, o = .returned v ∧ Q v U'.heap L ∧ FrameEnd s o U' L C N) (T.setTop (mkF m pc Ls (.int z :: rest))) :=
  own_ret X hlk (fun h => by rw [hret] at h; cases h) (fun fs hr => retOut X hx hret rfl (Or.inl ⟨rfl, Or.inl rfl, z, rfl⟩) hd hr) hc hn q
theorem own_retN {t : FieldType} {pc : Nat} {Ls : Array Slot} {z : Int32} {rest : List Value} (X : Stand p l e R s m args below meth c T locs cells slots) (hx : p.tables.exec = Jvm.exec) (hlk : meth.locks = false) (hret : meth.sig.returnType = some t) (ht : t = .boolean ∨ t = .byte ∨ t = .char ∨ t = .short) (hz : nar t z = z) (hd : decode c.code pc = .ok (.ireturn, 1))
    (hc : cells ≤ C) (hn : slots ≤ N) (q : Q (some (.int z)) T.heap locs) : own_Go p e below (fun o U' => ∃ v L, o = .returned v ∧ Q v U'.heap L ∧ FrameEnd s o U' L C N) (T.setTop (mkF m pc Ls (.int z :: rest))) :=
  own_ret X hlk (fun h => by rw [hret] at h; cases h) (fun fs hr => retN X hx (z := z) hret ht hd (by rw [hz]; exact hr)) hc hn q
theorem own_retZ {pc : Nat} {Ls : Array Slot} {z : Int32} {rest : List Value} (X : Stand p l e R s m args below meth c T locs cells slots) (hx : p.tables.exec = Jvm.exec) (hlk : meth.locks = false) (hret : meth.sig.returnType = some .boolean) (hz : z = 0 ∨ z = 1) (hd : decode c.code pc = .ok (.ireturn, 1))
    (hc : cells ≤ C) (hn : slots ≤ N) (q : Q (some (.int z)) T.heap locs) : own_Go p e below (fun o U' => ∃ v L, o = .returned v ∧ Q v U'.heap L ∧ FrameEnd s o U' L C N) (T.setTop (mkF m pc Ls (.int z :: rest))) :=
  own_retN X hx hlk hret (Or.inl rfl) (by rcases hz with rfl | rfl <;> rfl) hd hc hn q
theorem own_retJ {pc : Nat} {Ls : Array Slot} {z : Int64} {rest : List Value} (X : Stand p l e R s m args below meth c T locs cells slots) (hx : p.tables.exec = Jvm.exec) (hlk : meth.locks = false) (hret : meth.sig.returnType = some .long) (hd : decode c.code pc = .ok (.lreturn, 1))
    (hc : cells ≤ C) (hn : slots ≤ N) (q : Q (some (.long z)) T.heap locs) : own_Go p e below (fun o U' => ∃ v L, o = .returned v ∧ Q v U'.heap L ∧ FrameEnd s o U' L C N) (T.setTop (mkF m pc Ls (.long z :: rest))) :=
  own_ret X hlk (fun h => by rw [hret] at h; cases h) (fun fs hr => retOut X hx hret rfl (Or.inr (Or.inl ⟨rfl, rfl, z, rfl⟩)) hd hr) hc hn q
theorem own_retD {pc : Nat} {Ls : Array Slot} {z : UInt64} {rest : List Value} (X : Stand p l e R s m args below meth c T locs cells slots) (hx : p.tables.exec = Jvm.exec) (hlk : meth.locks = false) (hret : meth.sig.returnType = some .double) (hd : decode c.code pc = .ok (.dreturn, 1))
    (hc : cells ≤ C) (hn : slots ≤ N) (q : Q (some (.double z)) T.heap locs) : own_Go p e below (fun o U' => ∃ v L, o = .returned v ∧ Q v U'.heap L ∧ FrameEnd s o U' L C N) (T.setTop (mkF m pc Ls (.double z :: rest))) :=
  own_ret X hlk (fun h => by rw [hret] at h; cases h) (fun fs hr => retOut X hx hret rfl (Or.inr (Or.inr (Or.inl ⟨rfl, rfl, z, rfl⟩))) hd hr) hc hn q
theorem own_retA {t : FieldType} {pc : Nat} {Ls : Array Slot} {w : Value} {rest : List Value} (X : Stand p l e R s m args below meth c T locs cells slots) (hx : p.tables.exec = Jvm.exec) (hlk : meth.locks = false) (hret : meth.sig.returnType = some t) (ht : t.isReference = true) (hw : w.isRef = true) (hd : decode c.code pc = .ok (.areturn, 1))
    (hc : cells ≤ C) (hn : slots ≤ N) (q : Q (some w) T.heap locs) : own_Go p e below (fun o U' => ∃ v L, o = .returned v ∧ Q v U'.heap L ∧ FrameEnd s o U' L C N) (T.setTop (mkF m pc Ls (w :: rest))) :=
  own_ret X hlk (fun h => by rw [hret] at h; cases h) (fun fs hr => retOut X hx hret (by rcases ref_cases hw with rfl | ⟨z, rfl⟩ <;> cases t <;> rfl) (Or.inr (Or.inr (Or.inr (Or.inr ⟨rfl, ht, hw⟩)))) hd hr) hc hn q
theorem own_retV {pc : Nat} {Ls : Array Slot} (X : Stand p l e R s m args below meth c T locs cells slots) (hx : p.tables.exec = Jvm.exec) (hlk : meth.locks = false) (hret : meth.sig.returnType = none) (hd : decode c.code pc = .ok (.return_, 1))
    (hc : cells ≤ C) (hn : slots ≤ N) (q : Q none T.heap locs) : own_Go p e below (fun o U' => ∃ v L, o = .returned v ∧ Q v U'.heap L ∧ FrameEnd s o U' L C N) (T.setTop (mkF m pc Ls [])) :=
  own_ret X hlk (fun _ => rfl) (fun fs hr => X.returnOut hx hret hd hr) hc hn q
theorem own_retW {vm0 : Vm} {k0 : Nat} {v : Option Value} {g : JFrame} (X : Stand p l e R (s.setVm vm0) m args below meth c T locs cells slots) (hlk : meth.locks = false) (hv : meth.sig.returnType = none → v = none) (hS : s.Since vm0 k0) (hk : k0 ≤ T.heap.size)
    (hl : ∀ fs : List Frame, (∀ (f : JFrame) (acts : List Action), f.method = m → f.locked = none → f.entered = [] → (doReturn e (T.setTop f) acts v).1 = T.setFrames fs) → Steps p.tables e below (T.setTop g) (T.setFrames fs))
    (hc : cells ≤ C) (hn : slots ≤ N) (q : Q v T.heap locs) : own_Go p e below (fun o U' => ∃ v L, o = .returned v ∧ Q v U'.heap L ∧ ReturnedEndW s o U' L C N) (T.setTop g) := by
  obtain ⟨fs, hr, hrun, hended, h1, h2, h3, h4⟩ := X.leaveW hS hk (v := v) hv hlk
  exact ⟨_, _, hl fs hr, hrun, hended, _, _, rfl, q, h1, h2, h3, h4.mono hc hn⟩
theorem own_retWV {vm0 : Vm} {k0 : Nat} {pc : Nat} {Ls : Array Slot} (X : Stand p l e R (s.setVm vm0) m args below meth c T locs cells slots) (hx : p.tables.exec = Jvm.exec) (hlk : meth.locks = false) (hret : meth.sig.returnType = none) (hS : s.Since vm0 k0) (hk : k0 ≤ T.heap.size) (hd : decode c.code pc = .ok (.return_, 1))
    (hc : cells ≤ C) (hn : slots ≤ N) (q : Q none T.heap locs) : own_Go p e below (fun o U' => ∃ v L, o = .returned v ∧ Q v U'.heap L ∧ ReturnedEndW s o U' L C N) (T.setTop (mkF m pc Ls [])) :=
  own_retW X hlk (fun _ => rfl) hS hk (fun fs hr => X.returnOut hx hret hd hr) hc hn q
theorem own_retWZ {vm0 : Vm} {k0 : Nat} {pc : Nat} {Ls : Array Slot} {z : Int32} {rest : List Value} (X : Stand p l e R (s.setVm vm0) m args below meth c T locs cells slots) (hx : p.tables.exec = Jvm.exec) (hlk : meth.locks = false) (hret : meth.sig.returnType = some .boolean) (hS : s.Since vm0 k0) (hk : k0 ≤ T.heap.size) (hz : z = 0 ∨ z = 1) (hd : decode c.code pc = .ok (.ireturn, 1))
    (hc : cells ≤ C) (hn : slots ≤ N) (q : Q (some (.int z)) T.heap locs) : own_Go p e below (fun o U' => ∃ v L, o = .returned v ∧ Q v U'.heap L ∧ ReturnedEndW s o U' L C N) (T.setTop (mkF m pc Ls (.int z :: rest))) :=
  own_retW X hlk (fun h => by rw [hret] at h; cases h) hS hk (fun fs hr => retN X hx (z := z) (t := .boolean) hret (Or.inl rfl) hd (by rw [show nar .boolean z = z by rcases hz with rfl | rfl <;> rfl]; exact hr)) hc hn q
/-- an array: its length, and what each place holds -/
def own_Ar (Z : State) (h : Heap) (a : Addr) (ty : FieldType) (n : Nat) (f : Nat → Value) : Prop := ∃ c : Cell, Arr Z h a c ty ∧ c.slots.size = n ∧ ∀ j, j < n → c.slots[j]? = some (f j)
section OwnAr
variable {Z : State} {h h' : Heap} {a b : Addr} {ty : FieldType} {n : Nat} {f f' : Nat → Value} {ws : List Addr}
theorem own_Ar.lt (F : own_Ar Z h a ty n f) : a < h.size := by obtain ⟨c, A, -⟩ := F; exact A.lt
theorem own_Ar.ext (F : own_Ar Z h a ty n f) (E : Ext h h') : own_Ar Z h' a ty n f := by obtain ⟨c, A, r⟩ := F; exact ⟨c, A.ext E, r⟩
theorem own_Ar.other {sl : Nat} {v : Value} (F : own_Ar Z h b ty n f) (W : Wr h h' a sl v) (q : b ≠ a) : own_Ar Z h' b ty n f := by obtain ⟨c, A, r⟩ := F; exact ⟨c, A.other W q, r⟩
theorem own_Ar.keep (F : own_Ar Z h a ty n f) (K : Keep h h' ws) (q : a ∉ ws) : own_Ar Z h' a ty n f := by obtain ⟨c, A, r⟩ := F; exact ⟨c, ⟨K.2.1 a c A.1 q, A.2⟩, r⟩
theorem own_Ar.congr (F : own_Ar Z h a ty n f) (q : ∀ j, j < n → f j = f' j) : own_Ar Z h a ty n f' := by obtain ⟨c, A, S, r⟩ := F; exact ⟨c, A, S, fun j hj => by rw [← q j hj]; exact r j hj⟩
theorem own_Ar.new {cA : ClassId} {z : Int32} (A : Arr Z h a (newA cA ty z) ty) (hz : z.toInt = (n : Int)) : own_Ar Z h a ty n (fun _ => defaultValue ty) := by
  have e : z.toNatClampNeg = n := by show z.toInt.toNat = n; omega
  exact ⟨_, A, by rw [sz_new, e], fun j hj => by simp [newA, e, hj]⟩
theorem own_Ar.set {i : Nat} {v : Value} (F : own_Ar Z h a ty n f) (W : Wr h h' a i v) : own_Ar Z h' a ty n (fun j => if j = i then v else f j) := by
  obtain ⟨c, A, S, r⟩ := F
  refine ⟨c.setSlot i v, A.same W, by rw [sz_set, S], fun j hj => ?_⟩
  show (c.slots.setIfInBounds i v)[j]? = _
  by_cases q : j = i
  · subst q; simp [S, hj]
  · rw [Array.getElem?_setIfInBounds_ne (Ne.symm q), r j hj]; simp [q]
theorem own_inb {c : Cell} {j : Int32} {i : Nat} (S : c.slots.size = n) (hj : j.toInt = (i : Int)) (hi : i < n) : ¬ (j < 0 ∨ c.slots.size ≤ j.toNatClampNeg) := by
  have e : j.toNatClampNeg = i := by show j.toInt.toNat = i; omega
  rw [e, S, Int32.lt_iff_toInt_lt, hj, show (0 : Int32).toInt = 0 by decide]
  omega
theorem own_clamp {j : Int32} {i : Nat} (hj : j.toInt = (i : Int)) : j.toNatClampNeg = i := by show j.toInt.toNat = i; omega
theorem own_alen (X : Stand p l e R s m args below meth c T locs cells slots) (hx : p.tables.exec = Jvm.exec) (hZ : Z.Warmed39 s.vm) (eT : T.heap = h) (F : own_Ar Z h a ty n f) {z : Int32} (hz : z.toInt = (n : Int))
    {g : JFrame} (hg : g.method = m) {rest : List Value} (hs : g.stack = .ref a :: rest) (hd : decode c.code g.pc = .ok (.arraylength, 1)) (target : State)
    (hr : Steps p.tables e below (T.setTop { g with pc := g.pc + 1, stack := .int z :: rest }) target) : Steps p.tables e below (T.setTop g) target := by
  obtain ⟨cl, A, S, -⟩ := F
  refine X.arraylength hx (by rw [eT]; exact A.1) (State.isArrayOf_alike hZ.alike A.2.1) hg hs hd target ?_
  have q : cl.slots.size.toInt32 = z := by
    rw [← Int32.toInt_inj, S, hz]
    have := z.toInt_lt
    exact len_toInt (by omega)
  rw [q]; exact hr
theorem own_dld (X : Stand p l e R s m args below meth c T locs cells slots) (hx : p.tables.exec = Jvm.exec) (hZ : Z.Warmed39 s.vm) (eT : T.heap = h) (F : own_Ar Z h a .double n f) {j : Int32} {i : Nat} (hj : j.toInt = (i : Int)) (hi : i < n) {v : Value} (hv : f i = v)
    {g : JFrame} (hg : g.method = m) {rest : List Value} (hs : g.stack = .int j :: .ref a :: rest) (hd : decode c.code g.pc = .ok (.daload, 1)) (target : State)
    (hr : Steps p.tables e below (T.setTop { g with pc := g.pc + 1, stack := v :: rest }) target) : Steps p.tables e below (T.setTop g) target := by
  obtain ⟨cl, A, S, H⟩ := F
  exact X.daload hx (by rw [eT]; exact A.1) (State.isArrayOf_alike hZ.alike A.2.1) A.2.2 (own_inb S hj hi) (by rw [own_clamp hj, H i hi, hv]) hg hs hd target hr
theorem own_lld (X : Stand p l e R s m args below meth c T locs cells slots) (hx : p.tables.exec = Jvm.exec) (hZ : Z.Warmed39 s.vm) (eT : T.heap = h) (F : own_Ar Z h a .long n f) {j : Int32} {i : Nat} (hj : j.toInt = (i : Int)) (hi : i < n) {v : Value} (hv : f i = v)
    {g : JFrame} (hg : g.method = m) {rest : List Value} (hs : g.stack = .int j :: .ref a :: rest) (hd : decode c.code g.pc = .ok (.laload, 1)) (target : State)
    (hr : Steps p.tables e below (T.setTop { g with pc := g.pc + 1, stack := v :: rest }) target) : Steps p.tables e below (T.setTop g) target := by
  obtain ⟨cl, A, S, H⟩ := F
  exact X.laload hx (by rw [eT]; exact A.1) (State.isArrayOf_alike hZ.alike A.2.1) A.2.2 (own_inb S hj hi) (by rw [own_clamp hj, H i hi, hv]) hg hs hd target hr
theorem own_dst (X : Stand p l e R s m args below meth c T locs cells slots) (hx : p.tables.exec = Jvm.exec) (hZ : Z.Warmed39 s.vm) (eT : T.heap = h) (F : own_Ar Z h a .double n f) {j : Int32} {i : Nat} (hj : j.toInt = (i : Int)) (hi : i < n) {x : UInt64}
    {g : JFrame} (hg : g.method = m) {rest : List Value} (hs : g.stack = .double x :: .int j :: .ref a :: rest) (hd : decode c.code g.pc = .ok (.dastore, 1)) :
    ∃ T' h', Stand p l e R s m args below meth c T' (locs ++ [⟨a, i⟩]) cells slots ∧ T'.heap = h' ∧ Wr h h' a i (.double x) ∧ ∀ target, Steps p.tables e below (T'.setTop { g with pc := g.pc + 1, stack := rest }) target → Steps p.tables e below (T.setTop g) target := by
  obtain ⟨cl, A, S, H⟩ := F
  have q := stD X hx hZ eT A (x := x) (own_inb S hj hi) hg hs hd
  rw [own_clamp hj] at q
  exact q
theorem own_lst (X : Stand p l e R s m args below meth c T locs cells slots) (hx : p.tables.exec = Jvm.exec) (hZ : Z.Warmed39 s.vm) (eT : T.heap = h) (F : own_Ar Z h a .long n f) {j : Int32} {i : Nat} (hj : j.toInt = (i : Int)) (hi : i < n) {x : Int64}
    {g : JFrame} (hg : g.method = m) {rest : List Value} (hs : g.stack = .long x :: .int j :: .ref a :: rest) (hd : decode c.code g.pc = .ok (.lastore, 1)) :
    ∃ T' h', Stand p l e R s m args below meth c T' (locs ++ [⟨a, i⟩]) cells slots ∧ T'.heap = h' ∧ Wr h h' a i (.long x) ∧ ∀ target, Steps p.tables e below (T'.setTop { g with pc := g.pc + 1, stack := rest }) target → Steps p.tables e below (T.setTop g) target := by
  obtain ⟨cl, A, S, H⟩ := F
  have q := stJ X hx hZ eT A (x := x) (own_inb S hj hi) hg hs hd
  rw [own_clamp hj] at q
  exact q
end OwnAr
theorem own_stakeep {Z : State} {h h' : Heap} {C n d : String} {v : Value} {ws : List Addr} (F : Sta Z h C n d v) (K : Keep h h' ws) (q : ∀ x ∈ ws, ∀ c : Cell, h[x]? = some c → c.vm.isStatics = false) : Sta Z h' C n d v := by
  obtain ⟨cf, i, k, f, st, cell, h1, h2, h3, h4, h5, h6, h7⟩ := F
  exact ⟨cf, i, k, f, st, cell, h1, h2, h3, h4, K.2.1 st cell h5 (fun hm => by rw [q st hm cell h5] at h6; cases h6), h6, h7⟩
end Own
end Jvm.RoadKit
namespace Jvm.Pilot.@@N@@
open Jvm Jvm.ClassFile Sem Op Lib Jvm.Free Jvm.Stand Jvm.LawKit Jvm.RoadKit Bundle Jvm.Pilot.@@N@@.Jvm.D
theorem own_strAtoms {Z : State} {a0 : Array Value} (hw : ∀ d ∈ tables_1, d.before a0 Z = true) : ∀ a ∈ Bundle.stringAtoms, a.before a0 Z = true := by
  intro d hd
  simp only [Bundle.stringAtoms, List.mem_cons, List.not_mem_nil, or_false] at hd
  rcases hd with rfl | rfl | rfl | rfl | rfl | rfl | rfl
  all_goals first | exact hw _ (List.mem_of_getElem? (i := 25) rfl) | exact hw _ (List.mem_of_getElem? (i := 26) rfl) | exact hw _ (List.mem_of_getElem? (i := 27) rfl) | exact hw _ (List.mem_of_getElem? (i := 28) rfl) | exact hw _ (List.mem_of_getElem? (i := 29) rfl) | exact hw _ (List.mem_of_getElem? (i := 30) rfl) | exact hw _ (List.mem_of_getElem? (i := 31) rfl)
theorem own_one32 : (1 : Int32).toInt = 1 := by decide
theorem own_passages (x : Int32) : 1 ≤ ((x &&& 2147483647) % 1000000 + 1).toInt ∧ ((x &&& 2147483647) % 1000000 + 1).toInt ≤ 1000000 := by
  have h1 := c_mask x 2147483647 31 (by decide) (by decide)
  have h2 := (c_irem (x &&& 2147483647) 1000000 1000000 (by decide)).1
  have h3 := c_iadd ((x &&& 2147483647) % 1000000) 1
  have h4 := rng32 ((x &&& 2147483647) % 1000000 + 1)
  rw [own_one32] at h3
  omega
theorem own_salient (x : Int32) : 1 ≤ ((x &&& 1073741823) + 1).toInt := by
  have h1 := c_mask x 1073741823 30 (by decide) (by decide)
  have h3 := c_iadd (x &&& 1073741823) 1
  have h4 := rng32 ((x &&& 1073741823) + 1)
  rw [own_one32] at h3
  omega
theorem own_length (x : Int32) : 0 ≤ (x &&& 2147483647).toInt := by
  have h1 := c_mask x 2147483647 31 (by decide) (by decide)
  omega
theorem own_lead_val (xl xp : Int32) (h1 : 1 ≤ xp.toInt) (h2 : xp.toInt ≤ 1000000) (h3 : 0 ≤ xl.toInt) : (((((xl.toInt64 + xp.toInt64) - (1 : Int64)) / xp.toInt64).toInt32).toInt64).toInt = (xl.toInt + xp.toInt - 1) / xp.toInt := by
  have hl := rng32 xl
  have e1 := c_i2l xl
  have e2 := c_i2l xp
  have a1 := c_ladd xl.toInt64 xp.toInt64
  have r1 := rng64 (xl.toInt64 + xp.toInt64)
  have a2 := c_lsub (xl.toInt64 + xp.toInt64) 1
  have r2 := rng64 (xl.toInt64 + xp.toInt64 - 1)
  rw [show (1 : Int64).toInt = 1 by decide] at a2
  have hx : (xl.toInt64 + xp.toInt64 - 1).toInt = xl.toInt + xp.toInt - 1 := by omega
  have hm : xp.toInt64 ≠ -1 := by
    intro q
    have : xp.toInt64.toInt = (-1 : Int64).toInt := by rw [q]
    rw [show (-1 : Int64).toInt = -1 by decide] at this
    omega
  have d1 := (c_ldiv (xl.toInt64 + xp.toInt64 - 1) xp.toInt64 xp.toInt e2 hm).1 (by omega)
  rw [hx] at d1
  have q0 : 0 ≤ (xl.toInt + xp.toInt - 1) / xp.toInt := Int.ediv_nonneg (by omega) (by omega)
  have q1 : (xl.toInt + xp.toInt - 1) / xp.toInt < 2147483648 := Int.ediv_lt_of_lt_mul (by omega) (by omega)
  rw [c_i2l]
  have l1 := c_l2i ((xl.toInt64 + xp.toInt64 - 1) / xp.toInt64)
  have r3 := rng32 ((xl.toInt64 + xp.toInt64 - 1) / xp.toInt64).toInt32
  rw [d1] at l1
  omega
theorem own_lead_law (xl xp : Int32) (r : Int64) (h1 : 1 ≤ xp.toInt) (h2 : xp.toInt ≤ 1000000) (h3 : 0 ≤ xl.toInt) (hr : r.toInt = (xl.toInt + xp.toInt - 1) / xp.toInt) :
    (¬ r < (0 : Int64)) ∧ (¬ (r * xp.toInt64) < xl.toInt64) ∧ (r = (0 : Int64) → xl.toInt64 = (0 : Int64)) ∧ ((r - (1 : Int64)) * xp.toInt64) < xl.toInt64 := by
  have hl := rng32 xl
  have e1 := c_i2l xl
  have e2 := c_i2l xp
  have q0 : 0 ≤ (xl.toInt + xp.toInt - 1) / xp.toInt := Int.ediv_nonneg (by omega) (by omega)
  have q1 : (xl.toInt + xp.toInt - 1) / xp.toInt < 2147483648 := Int.ediv_lt_of_lt_mul (by omega) (by omega)
  rw [← hr] at q0 q1
  have dm := Int.mul_ediv_add_emod (xl.toInt + xp.toInt - 1) xp.toInt
  have m0 := Int.emod_nonneg (xl.toInt + xp.toInt - 1) (show xp.toInt ≠ 0 by omega)
  have m1 := Int.emod_lt_of_pos (xl.toInt + xp.toInt - 1) (show 0 < xp.toInt by omega)
  rw [← hr] at dm
  generalize (xl.toInt + xp.toInt - 1) % xp.toInt = t at dm m0 m1
  have b0 : 0 ≤ xp.toInt * r.toInt := Int.mul_nonneg (by omega) q0
  have p1 := c_lmul r xp.toInt64
  have s1 := rng64 (r * xp.toInt64)
  rw [e2, Int.mul_comm] at p1
  have hz : (0 : Int64).toInt = 0 := by decide
  have ho : (1 : Int64).toInt = 1 := by decide
  have a1 := c_lsub r 1
  have s2 := rng64 (r - 1)
  rw [ho] at a1
  have hr1 : (r - 1).toInt = r.toInt - 1 := by omega
  have p2 := c_lmul (r - 1) xp.toInt64
  have s3 := rng64 ((r - 1) * xp.toInt64)
  rw [e2, hr1, Int.sub_mul, Int.mul_comm r.toInt] at p2
  generalize hy : xp.toInt * r.toInt = y at dm b0 p1 p2
  refine ⟨?_, ?_, ?_, ?_⟩
  · rw [Int64.lt_iff_toInt_lt, hz]; omega
  · rw [Int64.lt_iff_toInt_lt, e1]; omega
  · intro q
    rw [← Int64.toInt_inj, hz, e1]
    have : r.toInt = 0 := by rw [q, hz]
    rw [this, Int.mul_zero] at hy
    omega
  · rw [Int64.lt_iff_toInt_lt, e1]; omega
theorem own_pn0 : plainName "java/lang/Record" = true := by first | (simp [plainName, overriddenIn]; done) | decide +kernel
theorem own_ef1 (m : MethodId) (x0 : Addr) : entryFrame m #[(.ref x0)] 1 = mkF m 0 #[.val (.ref x0)] [] := by first | (simp [entryFrame, mkF, argsToLocals, Value.category]; done) | rfl
theorem own_d_jdk_30_1_0 : decode jdk_30_method_1_code 0 = .ok (.aload_n 0, 1) := by decide +kernel
theorem own_d_jdk_30_1_1 : decode jdk_30_method_1_code 1 = .ok (.invokespecial 1, 3) := by decide +kernel
theorem own_d_jdk_30_1_4 : decode jdk_30_method_1_code 4 = .ok (.return_, 1) := by decide +kernel
def own_Q_own_recinit (Z : State) (ao : Addr) (h0 : Heap) (n0 : Nat) (v : Option Value) (h : Heap) (L : List Loc) : Prop := v = none ∧ Fr n0 L ∧ h = h0
set_option maxRecDepth 65536 in
set_option maxHeartbeats 40000000 in
theorem own_recinit (l : Launch) (Z : State) (a0 : Array Value) (hw : ∀ d ∈ tables_1, d.before a0 Z = true) (ws : List Jvm.Cond) (ao : Addr) (h0 : Heap) (n0 : Nat) (Z0 : n0 ≤ h0.size)  :
    MetFree l (⟨"java/lang/Record", "<init>", "()V"⟩ : MethodName) (head1 (Jvm.Cond.code (⟨"java/lang/Record", "<init>", "()V"⟩ : MethodName) jdk_30_method_1_code 1 none :: ws) ({ frames := 1, cells := 0, slots := 0, locals := 12 } : Room)) (fun av_ U => av_ = #[(.ref ao)] ∧ Z.Warmed39 U.vm ∧ U.heap = h0) (fun _ _ _ _ _ => True) (fun _ U o U' => ∃ v L, o = .returned v ∧ own_Q_own_recinit Z ao h0 n0 v U'.heap L ∧ FrameEnd U o U' L ({ frames := 1, cells := 0, slots := 0, locals := 12 } : Room).cells ({ frames := 1, cells := 0, slots := 0, locals := 12 } : Room).slots) := by
  refine MetFree.of_bodySF (plainFor_of_name own_pn0) hisR ?_
  intro p e s m args below meth c s₁ Bd hml0 hP hK
  obtain ⟨rfl, hZ, hh⟩ := hP
  have hx := Bd.exec
  have hby := Bd.bytes
  have hml : c.maxLocals = 1 := hml0
  have hown : s.vm.findClass "java/lang/Record" = some m.cls := findClass_of_methodNamed Bd.named
  have hnm := (name_of_methodNamed Bd.named Bd.method).1
  have X0 : Stand p l e ({ frames := 1, cells := 0, slots := 0, locals := 12 } : Room) s m #[(.ref ao)] below meth c s₁ [] 0 0 := Stand.of_body Bd
  have e0 : s₁.heap = h0 := by rw [← hh, Bd.state]; rfl
  have N0 := Fr.nil n0
  suffices hgo : own_Go p e below (fun o U' => ∃ v L, o = .returned v ∧ own_Q_own_recinit Z ao h0 n0 v U'.heap L ∧ FrameEnd s o U' L ({ frames := 1, cells := 0, slots := 0, locals := 12 } : Room).cells ({ frames := 1, cells := 0, slots := 0, locals := 12 } : Room).slots) (s₁.setTop (mkF m 0 #[.val (.ref ao)] [])) by
    obtain ⟨s₂, o, h1, h2, h3, h4⟩ := hgo
    exact ⟨s₂, o, castTop (own_ef1 m ao) h1, h2, h3, h4⟩
  show own_Go p e below _ (s₁.setTop (mkF m 0 #[.val (.ref ao)] []))
  refine own_Go.st (fun _ kt => XS.aloadN X0.here hx rfl (hb hby own_d_jdk_30_1_0) rfl rfl kt) ?_
  show own_Go p e below _ (s₁.setTop (mkF m 1 #[.val (.ref ao)] [(.ref ao)]))
  obtain ⟨T1, X1, e1, st1⟩ := initO X0 hx hZ hown (hw _ (List.mem_of_getElem? (i := 20) rfl)) (hw _ (List.mem_of_getElem? (i := 21) rfl)) (hw _ (List.mem_of_getElem? (i := 22) rfl)) e0 (g := (mkF m 1 #[.val (.ref ao)] [(.ref ao)])) rfl (by rw [hml]; rfl) rfl (hb hby own_d_jdk_30_1_1) (by decide) (W := 0) (by show 2 * 0 + _ ≤ _; exact Nat.le_of_eq rfl) (by decide)
  refine own_Go.st st1 ?_
  show own_Go p e below _ (T1.setTop (mkF m 4 #[.val (.ref ao)] []))
  exact own_retV X1 hx Bd.notSynchronized Bd.returns (hb hby own_d_jdk_30_1_4) (by decide) (by decide) ⟨rfl, N0, e1⟩
theorem own_pn1 : plainName "java/util/Objects" = true := by first | (simp [plainName, overriddenIn]; done) | decide +kernel
theorem own_ef2 (m : MethodId) (x0 : Addr) (x1 : Addr) : entryFrame m #[(.ref x0), (.ref x1)] 2 = mkF m 0 #[.val (.ref x0), .val (.ref x1)] [] := by first | (simp [entryFrame, mkF, argsToLocals, Value.category]; done) | rfl
theorem own_d_jdk_31_11_0 : decode jdk_31_method_11_code 0 = .ok (.aload_n 0, 1) := by decide +kernel
theorem own_d_jdk_31_11_1 : decode jdk_31_method_11_code 1 = .ok (.ifnonnull 12, 3) := by decide +kernel
theorem own_d_jdk_31_11_13 : decode jdk_31_method_11_code 13 = .ok (.aload_n 0, 1) := by decide +kernel
theorem own_d_jdk_31_11_14 : decode jdk_31_method_11_code 14 = .ok (.areturn, 1) := by decide +kernel
def own_Q_own_rnn (Z : State) (ao ab : Addr) (h0 : Heap) (n0 : Nat) (v : Option Value) (h : Heap) (L : List Loc) : Prop := v = some (.ref ao) ∧ Fr n0 L ∧ h = h0
set_option maxRecDepth 65536 in
set_option maxHeartbeats 40000000 in
theorem own_rnn (l : Launch) (Z : State) (a0 : Array Value) (hw : ∀ d ∈ tables_1, d.before a0 Z = true) (ws : List Jvm.Cond) (ao ab : Addr) (h0 : Heap) (n0 : Nat) (Z0 : n0 ≤ h0.size)  :
    MetFree l (⟨"java/util/Objects", "requireNonNull", "(Ljava/lang/Object;Ljava/lang/String;)Ljava/lang/Object;"⟩ : MethodName) (head1 (Jvm.Cond.code (⟨"java/util/Objects", "requireNonNull", "(Ljava/lang/Object;Ljava/lang/String;)Ljava/lang/Object;"⟩ : MethodName) jdk_31_method_11_code 2 (some (.object "java/lang/Object")) :: ws) ({ frames := 0, cells := 0, slots := 0, locals := 0 } : Room)) (fun av_ U => av_ = #[(.ref ao), (.ref ab)] ∧ Z.Warmed39 U.vm ∧ U.heap = h0) (fun _ _ _ _ _ => True) (fun _ U o U' => ∃ v L, o = .returned v ∧ own_Q_own_rnn Z ao ab h0 n0 v U'.heap L ∧ FrameEnd U o U' L ({ frames := 0, cells := 0, slots := 0, locals := 0 } : Room).cells ({ frames := 0, cells := 0, slots := 0, locals := 0 } : Room).slots) := by
  refine MetFree.of_bodySF (plainFor_of_name own_pn1) hisR ?_
  intro p e s m args below meth c s₁ Bd hml0 hP hK
  obtain ⟨rfl, hZ, hh⟩ := hP
  have hx := Bd.exec
  have hby := Bd.bytes
  have hml : c.maxLocals = 2 := hml0
  have hown : s.vm.findClass "java/util/Objects" = some m.cls := findClass_of_methodNamed Bd.named
  have hnm := (name_of_methodNamed Bd.named Bd.method).1
  have X0 : Stand p l e ({ frames := 0, cells := 0, slots := 0, locals := 0 } : Room) s m #[(.ref ao), (.ref ab)] below meth c s₁ [] 0 0 := Stand.of_body Bd
  have e0 : s₁.heap = h0 := by rw [← hh, Bd.state]; rfl
  have N0 := Fr.nil n0
  suffices hgo : own_Go p e below (fun o U' => ∃ v L, o = .returned v ∧ own_Q_own_rnn Z ao ab h0 n0 v U'.heap L ∧ FrameEnd s o U' L ({ frames := 0, cells := 0, slots := 0, locals := 0 } : Room).cells ({ frames := 0, cells := 0, slots := 0, locals := 0 } : Room).slots) (s₁.setTop (mkF m 0 #[.val (.ref ao), .val (.ref ab)] [])) by
    obtain ⟨s₂, o, h1, h2, h3, h4⟩ := hgo
    exact ⟨s₂, o, castTop (own_ef2 m ao ab) h1, h2, h3, h4⟩
  show own_Go p e below _ (s₁.setTop (mkF m 0 #[.val (.ref ao), .val (.ref ab)] []))
  refine own_Go.st (fun _ kt => XS.aloadN X0.here hx rfl (hb hby own_d_jdk_31_11_0) rfl rfl kt) ?_
  show own_Go p e below _ (s₁.setTop (mkF m 1 #[.val (.ref ao), .val (.ref ab)] [(.ref ao)]))
  refine own_Go.st (fun _ kt => XS.ifnonnullYes X0.here hx rfl (pc0 := 1) (pc' := 13) rfl (hb hby own_d_jdk_31_11_1) rfl (by decide) (by decide) kt) ?_
  show own_Go p e below _ (s₁.setTop (mkF m 13 #[.val (.ref ao), .val (.ref ab)] []))
  refine own_Go.st (fun _ kt => XS.aloadN X0.here hx rfl (hb hby own_d_jdk_31_11_13) rfl rfl kt) ?_
  show own_Go p e below _ (s₁.setTop (mkF m 14 #[.val (.ref ao), .val (.ref ab)] [(.ref ao)]))
  exact own_retA X0 hx Bd.notSynchronized Bd.returns rfl rfl (hb hby own_d_jdk_31_11_14) (by decide) (by decide) ⟨rfl, N0, e0⟩
theorem own_pn2 : plainName "com/example/passagewise/passagewise/index/PassageParameters" = true := by first | (simp [plainName, overriddenIn]; done) | decide +kernel
theorem own_ef3 (m : MethodId) (x0 : Addr) (x1 : Int32) (x2 : Int32) (x3 : Addr) (x4 : Addr) : entryFrame m #[(.ref x0), (.int x1), (.int x2), (.ref x3), (.ref x4)] 5 = mkF m 0 #[.val (.ref x0), .val (.int x1), .val (.int x2), .val (.ref x3), .val (.ref x4)] [] := by first | (simp [entryFrame, mkF, argsToLocals, Value.category]; done) | rfl
theorem own_d_prog_31_1_0 : decode prog_31_method_1_code 0 = .ok (.aload_n 0, 1) := by decide +kernel
theorem own_d_prog_31_1_1 : decode prog_31_method_1_code 1 = .ok (.invokespecial 1, 3) := by decide +kernel
theorem own_pd0 : parseMethodDescriptor "()V" = some ⟨[], none⟩ := by decide +kernel
theorem own_d_prog_31_1_4 : decode prog_31_method_1_code 4 = .ok (.iload_n 1, 1) := by decide +kernel
theorem own_d_prog_31_1_5 : decode prog_31_method_1_code 5 = .ok (.iconst 1, 1) := by decide +kernel
theorem own_d_prog_31_1_6 : decode prog_31_method_1_code 6 = .ok (.if_icmp .lt 9, 3) := by decide +kernel
theorem own_d_prog_31_1_9 : decode prog_31_method_1_code 9 = .ok (.iload_n 1, 1) := by decide +kernel
theorem own_d_prog_31_1_10 : decode prog_31_method_1_code 10 = .ok (.ldc 9, 2) := by decide +kernel
theorem own_d_prog_31_1_12 : decode prog_31_method_1_code 12 = .ok (.if_icmp .le 17, 3) := by decide +kernel
theorem own_d_prog_31_1_29 : decode prog_31_method_1_code 29 = .ok (.iload_n 2, 1) := by decide +kernel
theorem own_d_prog_31_1_30 : decode prog_31_method_1_code 30 = .ok (.iconst 1, 1) := by decide +kernel
theorem own_d_prog_31_1_31 : decode prog_31_method_1_code 31 = .ok (.if_icmp .ge 17, 3) := by decide +kernel
theorem own_d_prog_31_1_48 : decode prog_31_method_1_code 48 = .ok (.aload_n 3, 1) := by decide +kernel
theorem own_d_prog_31_1_49 : decode prog_31_method_1_code 49 = .ok (.ldc 20, 2) := by decide +kernel
theorem own_pd1 : parseMethodDescriptor "(Ljava/lang/Object;Ljava/lang/String;)Ljava/lang/Object;" = some ⟨[(.object "java/lang/Object"), (.object "java/lang/String")], some (.object "java/lang/Object")⟩ := by decide +kernel
theorem own_d_prog_31_1_51 : decode prog_31_method_1_code 51 = .ok (.invokestatic 22, 3) := by decide +kernel
theorem own_d_prog_31_1_54 : decode prog_31_method_1_code 54 = .ok (.pop, 1) := by decide +kernel
theorem own_d_prog_31_1_55 : decode prog_31_method_1_code 55 = .ok (.aload 4, 2) := by decide +kernel
theorem own_d_prog_31_1_57 : decode prog_31_method_1_code 57 = .ok (.ldc 28, 2) := by decide +kernel
theorem own_d_prog_31_1_59 : decode prog_31_method_1_code 59 = .ok (.invokestatic 22, 3) := by decide +kernel
theorem own_d_prog_31_1_62 : decode prog_31_method_1_code 62 = .ok (.pop, 1) := by decide +kernel
theorem own_d_prog_31_1_63 : decode prog_31_method_1_code 63 = .ok (.aload_n 0, 1) := by decide +kernel
theorem own_d_prog_31_1_64 : decode prog_31_method_1_code 64 = .ok (.iload_n 1, 1) := by decide +kernel
theorem own_d_prog_31_1_65 : decode prog_31_method_1_code 65 = .ok (.putfield 30, 3) := by decide +kernel
theorem own_d_prog_31_1_68 : decode prog_31_method_1_code 68 = .ok (.aload_n 0, 1) := by decide +kernel
theorem own_d_prog_31_1_69 : decode prog_31_method_1_code 69 = .ok (.iload_n 2, 1) := by decide +kernel
theorem own_d_prog_31_1_70 : decode prog_31_method_1_code 70 = .ok (.putfield 34, 3) := by decide +kernel
theorem own_d_prog_31_1_73 : decode prog_31_method_1_code 73 = .ok (.aload_n 0, 1) := by decide +kernel
theorem own_d_prog_31_1_74 : decode prog_31_method_1_code 74 = .ok (.aload_n 3, 1) := by decide +kernel
theorem own_d_prog_31_1_75 : decode prog_31_method_1_code 75 = .ok (.putfield 37, 3) := by decide +kernel
theorem own_d_prog_31_1_78 : decode prog_31_method_1_code 78 = .ok (.aload_n 0, 1) := by decide +kernel
theorem own_d_prog_31_1_79 : decode prog_31_method_1_code 79 = .ok (.aload 4, 2) := by decide +kernel
theorem own_d_prog_31_1_81 : decode prog_31_method_1_code 81 = .ok (.putfield 40, 3) := by decide +kernel
theorem own_d_prog_31_1_84 : decode prog_31_method_1_code 84 = .ok (.return_, 1) := by decide +kernel
def own_Q_own_ppinit (Z : State) (ao : Addr) (xp xk : Int32) (aw as : Addr) (h0 : Heap) (n0 : Nat) (v : Option Value) (h : Heap) (L : List Loc) : Prop := v = none ∧ Fr n0 L ∧ Exa Z h ao "com/example/passagewise/passagewise/index/PassageParameters" ∧ Fld Z h ao "com/example/passagewise/passagewise/index/PassageParameters" "passages" "I" (.int xp) ∧ Keep h0 h [ao]
set_option maxRecDepth 65536 in
set_option maxHeartbeats 40000000 in
theorem own_ppinit (l : Launch) (Z : State) (a0 : Array Value) (hw : ∀ d ∈ tables_1, d.before a0 Z = true) (ws : List Jvm.Cond) (ao : Addr) (xp xk : Int32) (aw as : Addr) (h0 : Heap) (n0 : Nat) (Z0 : n0 ≤ h0.size) (EO : Exa Z h0 ao "com/example/passagewise/passagewise/index/PassageParameters") (F_passages : Fld Z h0 ao "com/example/passagewise/passagewise/index/PassageParameters" "passages" "I" (.int (0 : Int32))) (F_salientTerms : Fld Z h0 ao "com/example/passagewise/passagewise/index/PassageParameters" "salientTerms" "I" (.int (0 : Int32))) (F_weighting : Fld Z h0 ao "com/example/passagewise/passagewise/index/PassageParameters" "weighting" "Lcom/example/passagewise/passagewise/index/PassageParameters$Weighting;" .null) (F_salience : Fld Z h0 ao "com/example/passagewise/passagewise/index/PassageParameters" "salience" "Lcom/example/passagewise/passagewise/index/PassageParameters$Salience;" .null) (ga : n0 ≤ ao) (hp1 : ¬ xp < (1 : Int32)) (hp2 : ¬ (1000000 : Int32) < xp) (hk1 : ¬ xk < (1 : Int32)) :
    MetFree l (⟨"com/example/passagewise/passagewise/index/PassageParameters", "<init>", "(IILcom/example/passagewise/passagewise/index/PassageParameters$Weighting;Lcom/example/passagewise/passagewise/index/PassageParameters$Salience;)V"⟩ : MethodName) (head1 (Jvm.Cond.code (⟨"com/example/passagewise/passagewise/index/PassageParameters", "<init>", "(IILcom/example/passagewise/passagewise/index/PassageParameters$Weighting;Lcom/example/passagewise/passagewise/index/PassageParameters$Salience;)V"⟩ : MethodName) prog_31_method_1_code 5 none :: ws) ({ frames := 2, cells := 4, slots := 76, locals := 24 } : Room)) (fun av_ U => av_ = #[(.ref ao), (.int xp), (.int xk), (.ref aw), (.ref as)] ∧ Z.Warmed39 U.vm ∧ U.heap = h0) (fun _ _ _ _ _ => True) (fun _ U o U' => ∃ v L, o = .returned v ∧ own_Q_own_ppinit Z ao xp xk aw as h0 n0 v U'.heap L ∧ ReturnedEndW U o U' L ({ frames := 2, cells := 4, slots := 76, locals := 24 } : Room).cells ({ frames := 2, cells := 4, slots := 76, locals := 24 } : Room).slots) := by
  refine MetFree.of_bodySF (plainFor_of_name own_pn2) hisR ?_
  intro p e s m args below meth c s₁ Bd hml0 hP hK
  obtain ⟨rfl, hZ, hh⟩ := hP
  have hx := Bd.exec
  have hby := Bd.bytes
  have hml : c.maxLocals = 5 := hml0
  have hown : s.vm.findClass "com/example/passagewise/passagewise/index/PassageParameters" = some m.cls := findClass_of_methodNamed Bd.named
  have hnm := (name_of_methodNamed Bd.named Bd.method).1
  have X0 : Stand p l e ({ frames := 2, cells := 4, slots := 76, locals := 24 } : Room) (s.setVm s.vm) m #[(.ref ao), (.int xp), (.int xk), (.ref aw), (.ref as)] below meth c s₁ [] 0 0 := Stand.of_body Bd
  have e0 : s₁.heap = h0 := by rw [← hh, Bd.state]; rfl
  have N0 := Fr.nil n0
  suffices hgo : own_Go p e below (fun o U' => ∃ v L, o = .returned v ∧ own_Q_own_ppinit Z ao xp xk aw as h0 n0 v U'.heap L ∧ ReturnedEndW s o U' L ({ frames := 2, cells := 4, slots := 76, locals := 24 } : Room).cells ({ frames := 2, cells := 4, slots := 76, locals := 24 } : Room).slots) (s₁.setTop (mkF m 0 #[.val (.ref ao), .val (.int xp), .val (.int xk), .val (.ref aw), .val (.ref as)] [])) by
    obtain ⟨s₂, o, h1, h2, h3, h4⟩ := hgo
    exact ⟨s₂, o, castTop (own_ef3 m ao xp xk aw as) h1, h2, h3, h4⟩
  have hS0 : s.Since s.vm (Array.size h0) := State.WarmedH.since (State.WarmedH.refl _) _
  have kk0 : Keep h0 h0 [ao] := Keep.refl _ _
  show own_Go p e below _ (s₁.setTop (mkF m 0 #[.val (.ref ao), .val (.int xp), .val (.int xk), .val (.ref aw), .val (.ref as)] []))
  refine own_Go.st (fun _ kt => XS.aloadN X0.here hx rfl (hb hby own_d_prog_31_1_0) rfl rfl kt) ?_
  show own_Go p e below _ (s₁.setTop (mkF m 1 #[.val (.ref ao), .val (.int xp), .val (.int xk), .val (.ref aw), .val (.ref as)] [(.ref ao)]))
  obtain ⟨_, _, ⟨T1, L1, k1, n1⟩, -, X1, ⟨Lc1, hQ1, l1, y1, z1⟩, st1⟩ := X0.specialBack hx (y := (⟨"java/lang/Record", "<init>", "()V"⟩ : MethodName)) rfl hown (mvT hZ (hw _ (List.mem_of_getElem? (i := 15) rfl))) (mvT hZ (hw _ (List.mem_of_getElem? (i := 16) rfl))) (mvT hZ (hw _ (List.mem_of_getElem? (i := 19) rfl))) (by decide) (backOf (W := 0) (own_recinit l Z a0 hw [] ao h0 n0 Z0 ) hZ (hw _ (List.mem_of_getElem? (i := 19) rfl)) (hw _ (List.mem_of_getElem? (i := 18) rfl)) (by decide) (by decide)) (g := (mkF m 1 #[.val (.ref ao), .val (.int xp), .val (.int xk), .val (.ref aw), .val (.ref as)] [(.ref ao)])) rfl (by rw [hml]; rfl) (Steps.refl _) (a := ao) (argsL := []) (rest := []) (lenOf own_pd0 rfl) rfl (by show 2 * 0 + _ ≤ _; exact Nat.le_of_eq rfl) (hb hby own_d_prog_31_1_1) (fun _ _ => ⟨rfl, e0, (by decide : 0 + 0 ≤ _), (by decide : 0 + 0 ≤ _)⟩)
  dsimp only [Pt.U, Pt.locs, Pt.cells, Pt.slots] at X1 l1 y1 z1 st1 hQ1
  subst l1 y1 z1
  obtain ⟨rfl, N1q, hh1⟩ := hQ1
  have N1 := Fr.app N0 N1q
  refine own_Go.st (fun _ kt => st1.trans kt) ?_
  show own_Go p e below _ (T1.setTop (mkF m 4 #[.val (.ref ao), .val (.int xp), .val (.int xk), .val (.ref aw), .val (.ref as)] []))
  refine own_Go.st (fun _ kt => XS.iloadN X1.here hx rfl (hb hby own_d_prog_31_1_4) rfl kt) ?_
  show own_Go p e below _ (T1.setTop (mkF m 5 #[.val (.ref ao), .val (.int xp), .val (.int xk), .val (.ref aw), .val (.ref as)] [(.int xp)]))
  refine own_Go.st (fun _ kt => XS.iconst X1.here hx rfl (hb hby own_d_prog_31_1_5) kt) ?_
  show own_Go p e below _ (T1.setTop (mkF m 6 #[.val (.ref ao), .val (.int xp), .val (.int xk), .val (.ref aw), .val (.ref as)] [(.int (1 : Int32)), (.int xp)]))
  refine own_Go.st (fun _ kt => XS.icmpNo X1.here hx rfl (hb hby own_d_prog_31_1_6) rfl (flt hp1).1 kt) ?_
  show own_Go p e below _ (T1.setTop (mkF m 9 #[.val (.ref ao), .val (.int xp), .val (.int xk), .val (.ref aw), .val (.ref as)] []))
  refine own_Go.st (fun _ kt => XS.iloadN X1.here hx rfl (hb hby own_d_prog_31_1_9) rfl kt) ?_
  show own_Go p e below _ (T1.setTop (mkF m 10 #[.val (.ref ao), .val (.int xp), .val (.int xk), .val (.ref aw), .val (.ref as)] [(.int xp)]))
  refine own_Go.st (fun _ kt => X1.ldcI hx hown (mvT hZ (hw _ (List.mem_of_getElem? (i := 23) rfl))) rfl (hb hby own_d_prog_31_1_10) kt) ?_
  show own_Go p e below _ (T1.setTop (mkF m 12 #[.val (.ref ao), .val (.int xp), .val (.int xk), .val (.ref aw), .val (.ref as)] [(.int (1000000 : Int32)), (.int xp)]))
  refine own_Go.st (fun _ kt => XS.icmpYes X1.here hx rfl (pc0 := 12) (pc' := 29) rfl (hb hby own_d_prog_31_1_12) rfl (flt hp2).2.2.2 (by decide) (by decide) kt) ?_
  show own_Go p e below _ (T1.setTop (mkF m 29 #[.val (.ref ao), .val (.int xp), .val (.int xk), .val (.ref aw), .val (.ref as)] []))
  refine own_Go.st (fun _ kt => XS.iloadN X1.here hx rfl (hb hby own_d_prog_31_1_29) rfl kt) ?_
  show own_Go p e below _ (T1.setTop (mkF m 30 #[.val (.ref ao), .val (.int xp), .val (.int xk), .val (.ref aw), .val (.ref as)] [(.int xk)]))
  refine own_Go.st (fun _ kt => XS.iconst X1.here hx rfl (hb hby own_d_prog_31_1_30) kt) ?_
  show own_Go p e below _ (T1.setTop (mkF m 31 #[.val (.ref ao), .val (.int xp), .val (.int xk), .val (.ref aw), .val (.ref as)] [(.int (1 : Int32)), (.int xk)]))
  refine own_Go.st (fun _ kt => XS.icmpYes X1.here hx rfl (pc0 := 31) (pc' := 48) rfl (hb hby own_d_prog_31_1_31) rfl (flt hk1).2.1 (by decide) (by decide) kt) ?_
  show own_Go p e below _ (T1.setTop (mkF m 48 #[.val (.ref ao), .val (.int xp), .val (.int xk), .val (.ref aw), .val (.ref as)] []))
  refine own_Go.st (fun _ kt => XS.aloadN X1.here hx rfl (hb hby own_d_prog_31_1_48) rfl rfl kt) ?_
  show own_Go p e below _ (T1.setTop (mkF m 49 #[.val (.ref ao), .val (.int xp), .val (.int xk), .val (.ref aw), .val (.ref as)] [(.ref aw)]))
  obtain ⟨t1, T2, h2, k2, X2, e2, E2, hS2, hk2, hZ2, ho2, st2⟩ := ldcS X1 hx hZ hown (hw _ (List.mem_of_getElem? (i := 24) rfl)) (own_strAtoms hw) hh1 hS0 (Nat.le_refl _) (g := (mkF m 49 #[.val (.ref ao), .val (.int xp), .val (.int xk), .val (.ref aw), .val (.ref as)] [(.ref aw)])) rfl (hb hby own_d_prog_31_1_49) (n := 36) (by decide) (by decide) (by decide) (by decide)
  refine own_Go.st st2 ?_
  have zz3 : n0 ≤ Array.size h2 := Nat.le_trans Z0 E2.1
  have kk3 : Keep h0 h2 [ao] := kk0.ext E2
  show own_Go p e below _ (T2.setTop (mkF m 51 #[.val (.ref ao), .val (.int xp), .val (.int xk), .val (.ref aw), .val (.ref as)] [(.ref t1), (.ref aw)]))
  obtain ⟨_, _, ⟨T4, L4, k4, n4⟩, -, X4, ⟨Lc4, hQ4, l4, y4, z4⟩, st4⟩ := Jvm.LawKit.callS X2 hx (y := (⟨"java/util/Objects", "requireNonNull", "(Ljava/lang/Object;Ljava/lang/String;)Ljava/lang/Object;"⟩ : MethodName)) ho2 (mvT hZ2 (hw _ (List.mem_of_getElem? (i := 32) rfl))) (mvT hZ2 (hw _ (List.mem_of_getElem? (i := 33) rfl))) (mvT hZ2 (hw _ (List.mem_of_getElem? (i := 34) rfl))) (mvT hZ2 (hw _ (List.mem_of_getElem? (i := 35) rfl))) (by decide) (backOf (W := 0) (own_rnn l Z a0 hw [] aw t1 h2 n0 zz3 ) hZ2 (hw _ (List.mem_of_getElem? (i := 35) rfl)) (hw _ (List.mem_of_getElem? (i := 34) rfl)) (by decide) (by decide)) (g := (mkF m 51 #[.val (.ref ao), .val (.int xp), .val (.int xk), .val (.ref aw), .val (.ref as)] [(.ref t1), (.ref aw)])) rfl (by rw [hml]; rfl) (argsL := [(.ref aw), (.ref t1)]) (rest := []) (lenOf own_pd1 rfl) rfl (by show 2 * 0 + _ ≤ _; exact Nat.le_of_eq rfl) (hb hby own_d_prog_31_1_51) (fun _ _ => ⟨rfl, e2, (by decide : 2 + 0 ≤ _), (by decide : 40 + 0 ≤ _)⟩)
  dsimp only [Pt.U, Pt.locs, Pt.cells, Pt.slots] at X4 l4 y4 z4 st4 hQ4
  subst l4 y4 z4
  obtain ⟨rfl, N4q, hh4⟩ := hQ4
  have N4 := Fr.app N1 N4q
  refine own_Go.st (fun _ kt => st4 _ kt) ?_
  show own_Go p e below _ (T4.setTop (mkF m 54 #[.val (.ref ao), .val (.int xp), .val (.int xk), .val (.ref aw), .val (.ref as)] [(.ref aw)]))
  refine own_Go.st (fun _ kt => XS.pop X4.here hx rfl (hb hby own_d_prog_31_1_54) rfl rfl kt) ?_
  show own_Go p e below _ (T4.setTop (mkF m 55 #[.val (.ref ao), .val (.int xp), .val (.int xk), .val (.ref aw), .val (.ref as)] []))
  refine own_Go.st (fun _ kt => XS.aload X4.here hx rfl (hb hby own_d_prog_31_1_55) rfl rfl kt) ?_
  show own_Go p e below _ (T4.setTop (mkF m 57 #[.val (.ref ao), .val (.int xp), .val (.int xk), .val (.ref aw), .val (.ref as)] [(.ref as)]))
  obtain ⟨t2, T5, h5, k5, X5, e5, E5, hS5, hk5, hZ5, ho5, st5⟩ := ldcS X4 hx hZ2 ho2 (hw _ (List.mem_of_getElem? (i := 36) rfl)) (own_strAtoms hw) hh4 hS2 hk2 (g := (mkF m 57 #[.val (.ref ao), .val (.int xp), .val (.int xk), .val (.ref aw), .val (.ref as)] [(.ref as)])) rfl (hb hby own_d_prog_31_1_57) (n := 32) (by decide) (by decide) (by decide) (by decide)
  refine own_Go.st st5 ?_
  have zz6 : n0 ≤ Array.size h5 := Nat.le_trans zz3 E5.1
  have kk6 : Keep h0 h5 [ao] := kk3.ext E5
  show own_Go p e below _ (T5.setTop (mkF m 59 #[.val (.ref ao), .val (.int xp), .val (.int xk), .val (.ref aw), .val (.ref as)] [(.ref t2), (.ref as)]))
  obtain ⟨_, _, ⟨T7, L7, k7, n7⟩, -, X7, ⟨Lc7, hQ7, l7, y7, z7⟩, st7⟩ := Jvm.LawKit.callS X5 hx (y := (⟨"java/util/Objects", "requireNonNull", "(Ljava/lang/Object;Ljava/lang/String;)Ljava/lang/Object;"⟩ : MethodName)) ho5 (mvT hZ5 (hw _ (List.mem_of_getElem? (i := 32) rfl))) (mvT hZ5 (hw _ (List.mem_of_getElem? (i := 33) rfl))) (mvT hZ5 (hw _ (List.mem_of_getElem? (i := 34) rfl))) (mvT hZ5 (hw _ (List.mem_of_getElem? (i := 35) rfl))) (by decide) (backOf (W := 0) (own_rnn l Z a0 hw [] as t2 h5 n0 zz6 ) hZ5 (hw _ (List.mem_of_getElem? (i := 35) rfl)) (hw _ (List.mem_of_getElem? (i := 34) rfl)) (by decide) (by decide)) (g := (mkF m 59 #[.val (.ref ao), .val (.int xp), .val (.int xk), .val (.ref aw), .val (.ref as)] [(.ref t2), (.ref as)])) rfl (by rw [hml]; rfl) (argsL := [(.ref as), (.ref t2)]) (rest := []) (lenOf own_pd1 rfl) rfl (by show 2 * 0 + _ ≤ _; exact Nat.le_of_eq rfl) (hb hby own_d_prog_31_1_59) (fun _ _ => ⟨rfl, e5, (by decide : 4 + 0 ≤ _), (by decide : 76 + 0 ≤ _)⟩)
  dsimp only [Pt.U, Pt.locs, Pt.cells, Pt.slots] at X7 l7 y7 z7 st7 hQ7
  subst l7 y7 z7
  obtain ⟨rfl, N7q, hh7⟩ := hQ7
  have N7 := Fr.app N4 N7q
  refine own_Go.st (fun _ kt => st7 _ kt) ?_
  show own_Go p e below _ (T7.setTop (mkF m 62 #[.val (.ref ao), .val (.int xp), .val (.int xk), .val (.ref aw), .val (.ref as)] [(.ref as)]))
  refine own_Go.st (fun _ kt => XS.pop X7.here hx rfl (hb hby own_d_prog_31_1_62) rfl rfl kt) ?_
  show own_Go p e below _ (T7.setTop (mkF m 63 #[.val (.ref ao), .val (.int xp), .val (.int xk), .val (.ref aw), .val (.ref as)] []))
  refine own_Go.st (fun _ kt => XS.aloadN X7.here hx rfl (hb hby own_d_prog_31_1_63) rfl rfl kt) ?_
  show own_Go p e below _ (T7.setTop (mkF m 64 #[.val (.ref ao), .val (.int xp), .val (.int xk), .val (.ref aw), .val (.ref as)] [(.ref ao)]))
  refine own_Go.st (fun _ kt => XS.iloadN X7.here hx rfl (hb hby own_d_prog_31_1_64) rfl kt) ?_
  show own_Go p e below _ (T7.setTop (mkF m 65 #[.val (.ref ao), .val (.int xp), .val (.int xk), .val (.ref aw), .val (.ref as)] [(.int xp), (.ref ao)]))
  have f8 := ((F_passages.ext E2).ext E5)
  have f9 := ((EO.ext E2).ext E5)
  obtain ⟨T10, h10, X10, e10, W10, st10⟩ := putF X7 hx hZ5 ho5 (host := "") (Or.inl (hw _ (List.mem_of_getElem? (i := 37) rfl))) Via.refl hh7 f8 f9 (Or.inr ⟨(hw _ (List.mem_of_getElem? (i := 38) rfl)), rfl, hnm⟩) (hw _ (List.mem_of_getElem? (i := 10) rfl)) (ty := .int) (by decide) rfl rfl (g := (mkF m 65 #[.val (.ref ao), .val (.int xp), .val (.int xk), .val (.ref aw), .val (.ref as)] [(.int xp), (.ref ao)])) rfl rfl (hb hby own_d_prog_31_1_65)
  refine own_Go.st st10 ?_
  have N10 := Fr.snoc X10 N7 ga
  have f10_passages := Fld.same W10 f8
  have zz11 : n0 ≤ Array.size h10 := Nat.le_trans zz6 (Nat.le_of_eq (Wr.size W10).symm)
  have kk11 : Keep h0 h10 [ao] := kk6.wr W10 (Or.inl (List.mem_of_getElem? (i := 0) rfl))
  have hk11 : k5 ≤ Array.size h10 := Nat.le_trans hk5 (Nat.le_of_eq (Wr.size W10).symm)
  show own_Go p e below _ (T10.setTop (mkF m 68 #[.val (.ref ao), .val (.int xp), .val (.int xk), .val (.ref aw), .val (.ref as)] []))
  refine own_Go.st (fun _ kt => XS.aloadN X10.here hx rfl (hb hby own_d_prog_31_1_68) rfl rfl kt) ?_
  show own_Go p e below _ (T10.setTop (mkF m 69 #[.val (.ref ao), .val (.int xp), .val (.int xk), .val (.ref aw), .val (.ref as)] [(.ref ao)]))
  refine own_Go.st (fun _ kt => XS.iloadN X10.here hx rfl (hb hby own_d_prog_31_1_69) rfl kt) ?_
  show own_Go p e below _ (T10.setTop (mkF m 70 #[.val (.ref ao), .val (.int xp), .val (.int xk), .val (.ref aw), .val (.ref as)] [(.int xk), (.ref ao)]))
  have f12 := (((F_salientTerms.ext E2).ext E5).other W10 (Or.inr (slot_ne (Or.inr (hw _ (List.mem_of_getElem? (i := 40) rfl))) (Or.inr (hw _ (List.mem_of_getElem? (i := 38) rfl))) (by decide) (t := .int) (t' := .int) (by decide) (by decide))))
  have f13 := (f9.wr W10)
  obtain ⟨T14, h14, X14, e14, W14, st14⟩ := putF X10 hx hZ5 ho5 (host := "") (Or.inl (hw _ (List.mem_of_getElem? (i := 39) rfl))) Via.refl e10 f12 f13 (Or.inr ⟨(hw _ (List.mem_of_getElem? (i := 40) rfl)), rfl, hnm⟩) (hw _ (List.mem_of_getElem? (i := 10) rfl)) (ty := .int) (by decide) rfl rfl (g := (mkF m 70 #[.val (.ref ao), .val (.int xp), .val (.int xk), .val (.ref aw), .val (.ref as)] [(.int xk), (.ref ao)])) rfl rfl (hb hby own_d_prog_31_1_70)
  refine own_Go.st st14 ?_
  have N14 := Fr.snoc X14 N10 ga
  have f14_salientTerms := Fld.same W14 f12
  have zz15 : n0 ≤ Array.size h14 := Nat.le_trans zz11 (Nat.le_of_eq (Wr.size W14).symm)
  have kk15 : Keep h0 h14 [ao] := kk11.wr W14 (Or.inl (List.mem_of_getElem? (i := 0) rfl))
  have hk15 : k5 ≤ Array.size h14 := Nat.le_trans hk11 (Nat.le_of_eq (Wr.size W14).symm)
  show own_Go p e below _ (T14.setTop (mkF m 73 #[.val (.ref ao), .val (.int xp), .val (.int xk), .val (.ref aw), .val (.ref as)] []))
  refine own_Go.st (fun _ kt => XS.aloadN X14.here hx rfl (hb hby own_d_prog_31_1_73) rfl rfl kt) ?_
  show own_Go p e below _ (T14.setTop (mkF m 74 #[.val (.ref ao), .val (.int xp), .val (.int xk), .val (.ref aw), .val (.ref as)] [(.ref ao)]))
  refine own_Go.st (fun _ kt => XS.aloadN X14.here hx rfl (hb hby own_d_prog_31_1_74) rfl rfl kt) ?_
  show own_Go p e below _ (T14.setTop (mkF m 75 #[.val (.ref ao), .val (.int xp), .val (.int xk), .val (.ref aw), .val (.ref as)] [(.ref aw), (.ref ao)]))
  have f16 := ((((F_weighting.ext E2).ext E5).other W10 (Or.inr (slot_ne (Or.inr (hw _ (List.mem_of_getElem? (i := 42) rfl))) (Or.inr (hw _ (List.mem_of_getElem? (i := 38) rfl))) (by decide) (t := (.object "com/example/passagewise/passagewise/index/PassageParameters$Weighting")) (t' := .int) (by decide) (by decide)))).other W14 (Or.inr (slot_ne (Or.inr (hw _ (List.mem_of_getElem? (i := 42) rfl))) (Or.inr (hw _ (List.mem_of_getElem? (i := 40) rfl))) (by decide) (t := (.object "com/example/passagewise/passagewise/index/PassageParameters$Weighting")) (t' := .int) (by decide) (by decide))))
  have f17 := (f13.wr W14)
  obtain ⟨T18, h18, X18, e18, W18, st18⟩ := putF X14 hx hZ5 ho5 (host := "") (Or.inl (hw _ (List.mem_of_getElem? (i := 41) rfl))) Via.refl e14 f16 f17 (Or.inr ⟨(hw _ (List.mem_of_getElem? (i := 42) rfl)), rfl, hnm⟩) (hw _ (List.mem_of_getElem? (i := 10) rfl)) (ty := (.object "com/example/passagewise/passagewise/index/PassageParameters$Weighting")) (by decide) rfl rfl (g := (mkF m 75 #[.val (.ref ao), .val (.int xp), .val (.int xk), .val (.ref aw), .val (.ref as)] [(.ref aw), (.ref ao)])) rfl rfl (hb hby own_d_prog_31_1_75)
  refine own_Go.st st18 ?_
  have N18 := Fr.snoc X18 N14 ga
  have f18_weighting := Fld.same W18 f16
  have zz19 : n0 ≤ Array.size h18 := Nat.le_trans zz15 (Nat.le_of_eq (Wr.size W18).symm)
  have kk19 : Keep h0 h18 [ao] := kk15.wr W18 (Or.inl (List.mem_of_getElem? (i := 0) rfl))
  have hk19 : k5 ≤ Array.size h18 := Nat.le_trans hk15 (Nat.le_of_eq (Wr.size W18).symm)
  show own_Go p e below _ (T18.setTop (mkF m 78 #[.val (.ref ao), .val (.int xp), .val (.int xk), .val (.ref aw), .val (.ref as)] []))
  refine own_Go.st (fun _ kt => XS.aloadN X18.here hx rfl (hb hby own_d_prog_31_1_78) rfl rfl kt) ?_
  show own_Go p e below _ (T18.setTop (mkF m 79 #[.val (.ref ao), .val (.int xp), .val (.int xk), .val (.ref aw), .val (.ref as)] [(.ref ao)]))
  refine own_Go.st (fun _ kt => XS.aload X18.here hx rfl (hb hby own_d_prog_31_1_79) rfl rfl kt) ?_
  show own_Go p e below _ (T18.setTop (mkF m 81 #[.val (.ref ao), .val (.int xp), .val (.int xk), .val (.ref aw), .val (.ref as)] [(.ref as), (.ref ao)]))
  have f20 := (((((F_salience.ext E2).ext E5).other W10 (Or.inr (slot_ne (Or.inr (hw _ (List.mem_of_getElem? (i := 44) rfl))) (Or.inr (hw _ (List.mem_of_getElem? (i := 38) rfl))) (by decide) (t := (.object "com/example/passagewise/passagewise/index/PassageParameters$Salience")) (t' := .int) (by decide) (by decide)))).other W14 (Or.inr (slot_ne (Or.inr (hw _ (List.mem_of_getElem? (i := 44) rfl))) (Or.inr (hw _ (List.mem_of_getElem? (i := 40) rfl))) (by decide) (t := (.object "com/example/passagewise/passagewise/index/PassageParameters$Salience")) (t' := .int) (by decide) (by decide)))).other W18 (Or.inr (slot_ne (Or.inr (hw _ (List.mem_of_getElem? (i := 44) rfl))) (Or.inr (hw _ (List.mem_of_getElem? (i := 42) rfl))) (by decide) (t := (.object "com/example/passagewise/passagewise/index/PassageParameters$Salience")) (t' := (.object "com/example/passagewise/passagewise/index/PassageParameters$Weighting")) (by decide) (by decide))))
  have f21 := (f17.wr W18)
  obtain ⟨T22, h22, X22, e22, W22, st22⟩ := putF X18 hx hZ5 ho5 (host := "") (Or.inl (hw _ (List.mem_of_getElem? (i := 43) rfl))) Via.refl e18 f20 f21 (Or.inr ⟨(hw _ (List.mem_of_getElem? (i := 44) rfl)), rfl, hnm⟩) (hw _ (List.mem_of_getElem? (i := 10) rfl)) (ty := (.object "com/example/passagewise/passagewise/index/PassageParameters$Salience")) (by decide) rfl rfl (g := (mkF m 81 #[.val (.ref ao), .val (.int xp), .val (.int xk), .val (.ref aw), .val (.ref as)] [(.ref as), (.ref ao)])) rfl rfl (hb hby own_d_prog_31_1_81)
  refine own_Go.st st22 ?_
  have N22 := Fr.snoc X22 N18 ga
  have f22_salience := Fld.same W22 f20
  have zz23 : n0 ≤ Array.size h22 := Nat.le_trans zz19 (Nat.le_of_eq (Wr.size W22).symm)
  have kk23 : Keep h0 h22 [ao] := kk19.wr W22 (Or.inl (List.mem_of_getElem? (i := 0) rfl))
  have hk23 : k5 ≤ Array.size h22 := Nat.le_trans hk19 (Nat.le_of_eq (Wr.size W22).symm)
  show own_Go p e below _ (T22.setTop (mkF m 84 #[.val (.ref ao), .val (.int xp), .val (.int xk), .val (.ref aw), .val (.ref as)] []))
  have f24 := (((f10_passages.other W14 (Or.inr (slot_ne (Or.inr (hw _ (List.mem_of_getElem? (i := 38) rfl))) (Or.inr (hw _ (List.mem_of_getElem? (i := 40) rfl))) (by decide) (t := .int) (t' := .int) (by decide) (by decide)))).other W18 (Or.inr (slot_ne (Or.inr (hw _ (List.mem_of_getElem? (i := 38) rfl))) (Or.inr (hw _ (List.mem_of_getElem? (i := 42) rfl))) (by decide) (t := .int) (t' := (.object "com/example/passagewise/passagewise/index/PassageParameters$Weighting")) (by decide) (by decide)))).other W22 (Or.inr (slot_ne (Or.inr (hw _ (List.mem_of_getElem? (i := 38) rfl))) (Or.inr (hw _ (List.mem_of_getElem? (i := 44) rfl))) (by decide) (t := .int) (t' := (.object "com/example/passagewise/passagewise/index/PassageParameters$Salience")) (by decide) (by decide))))
  have fin1 := f24
  have f25 := (f21.wr W22)
  have fin2 := f25
  rw [← e22] at fin1 fin2
  exact own_retWV X22 hx Bd.notSynchronized Bd.returns hS5 (Nat.le_trans hk23 (Nat.le_of_eq (congrArg Array.size e22).symm)) (hb hby own_d_prog_31_1_84) (by decide) (by decide) ⟨rfl, N22, fin2, fin1, e22 ▸ kk23⟩
theorem own_ef4 (m : MethodId) (x0 : Addr) (x1 : Int32) : entryFrame m #[(.ref x0), (.int x1)] 2 = mkF m 0 #[.val (.ref x0), .val (.int x1)] [] := by first | (simp [entryFrame, mkF, argsToLocals, Value.category]; done) | rfl
theorem own_d_prog_31_4_0 : decode prog_31_method_4_code 0 = .ok (.iload_n 1, 1) := by decide +kernel
theorem own_d_prog_31_4_1 : decode prog_31_method_4_code 1 = .ok (.i2l, 1) := by decide +kernel
theorem own_d_prog_31_4_2 : decode prog_31_method_4_code 2 = .ok (.aload_n 0, 1) := by decide +kernel
theorem own_d_prog_31_4_3 : decode prog_31_method_4_code 3 = .ok (.getfield 30, 3) := by decide +kernel
theorem own_d_prog_31_4_6 : decode prog_31_method_4_code 6 = .ok (.i2l, 1) := by decide +kernel
theorem own_d_prog_31_4_7 : decode prog_31_method_4_code 7 = .ok (.ladd, 1) := by decide +kernel
theorem own_d_prog_31_4_8 : decode prog_31_method_4_code 8 = .ok (.lconst 1, 1) := by decide +kernel
theorem own_d_prog_31_4_9 : decode prog_31_method_4_code 9 = .ok (.lsub, 1) := by decide +kernel
theorem own_d_prog_31_4_10 : decode prog_31_method_4_code 10 = .ok (.aload_n 0, 1) := by decide +kernel
theorem own_d_prog_31_4_11 : decode prog_31_method_4_code 11 = .ok (.getfield 30, 3) := by decide +kernel
theorem own_d_prog_31_4_14 : decode prog_31_method_4_code 14 = .ok (.i2l, 1) := by decide +kernel
theorem own_d_prog_31_4_15 : decode prog_31_method_4_code 15 = .ok (.ldiv, 1) := by decide +kernel
theorem own_d_prog_31_4_16 : decode prog_31_method_4_code 16 = .ok (.l2i, 1) := by decide +kernel
theorem own_d_prog_31_4_17 : decode prog_31_method_4_code 17 = .ok (.ireturn, 1) := by decide +kernel
def own_Q_own_lead (Z : State) (ao : Addr) (xl xp : Int32) (h0 : Heap) (n0 : Nat) (v : Option Value) (h : Heap) (L : List Loc) : Prop := v = some (.int ((((xl.toInt64 + xp.toInt64) - (1 : Int64)) / xp.toInt64).toInt32)) ∧ Fr n0 L ∧ h = h0
set_option maxRecDepth 65536 in
set_option maxHeartbeats 40000000 in
theorem own_lead (l : Launch) (Z : State) (a0 : Array Value) (hw : ∀ d ∈ tables_1, d.before a0 Z = true) (ws : List Jvm.Cond) (ao : Addr) (xl xp : Int32) (h0 : Heap) (n0 : Nat) (Z0 : n0 ≤ h0.size) (F1 : Fld Z h0 ao "com/example/passagewise/passagewise/index/PassageParameters" "passages" "I" (.int xp)) (hnz : xp.toInt64 ≠ 0) :
    MetFree l (⟨"com/example/passagewise/passagewise/index/PassageParameters", "leadLength", "(I)I"⟩ : MethodName) (head1 (Jvm.Cond.code (⟨"com/example/passagewise/passagewise/index/PassageParameters", "leadLength", "(I)I"⟩ : MethodName) prog_31_method_4_code 2 (some .int) :: ws) ({ frames := 0, cells := 0, slots := 0, locals := 0 } : Room)) (fun av_ U => av_ = #[(.ref ao), (.int xl)] ∧ Z.Warmed39 U.vm ∧ U.heap = h0) (fun _ _ _ _ _ => True) (fun _ U o U' => ∃ v L, o = .returned v ∧ own_Q_own_lead Z ao xl xp h0 n0 v U'.heap L ∧ FrameEnd U o U' L ({ frames := 0, cells := 0, slots := 0, locals := 0 } : Room).cells ({ frames := 0, cells := 0, slots := 0, locals := 0 } : Room).slots) := by
  refine MetFree.of_bodySF (plainFor_of_name own_pn2) hisR ?_
  intro p e s m args below meth c s₁ Bd hml0 hP hK
  obtain ⟨rfl, hZ, hh⟩ := hP
  have hx := Bd.exec
  have hby := Bd.bytes
  have hml : c.maxLocals = 2 := hml0
  have hown : s.vm.findClass "com/example/passagewise/passagewise/index/PassageParameters" = some m.cls := findClass_of_methodNamed Bd.named
  have hnm := (name_of_methodNamed Bd.named Bd.method).1
  have X0 : Stand p l e ({ frames := 0, cells := 0, slots := 0, locals := 0 } : Room) s m #[(.ref ao), (.int xl)] below meth c s₁ [] 0 0 := Stand.of_body Bd
  have e0 : s₁.heap = h0 := by rw [← hh, Bd.state]; rfl
  have N0 := Fr.nil n0
  suffices hgo : own_Go p e below (fun o U' => ∃ v L, o = .returned v ∧ own_Q_own_lead Z ao xl xp h0 n0 v U'.heap L ∧ FrameEnd s o U' L ({ frames := 0, cells := 0, slots := 0, locals := 0 } : Room).cells ({ frames := 0, cells := 0, slots := 0, locals := 0 } : Room).slots) (s₁.setTop (mkF m 0 #[.val (.ref ao), .val (.int xl)] [])) by
    obtain ⟨s₂, o, h1, h2, h3, h4⟩ := hgo
    exact ⟨s₂, o, castTop (own_ef4 m ao xl) h1, h2, h3, h4⟩
  show own_Go p e below _ (s₁.setTop (mkF m 0 #[.val (.ref ao), .val (.int xl)] []))
  refine own_Go.st (fun _ kt => XS.iloadN X0.here hx rfl (hb hby own_d_prog_31_4_0) rfl kt) ?_
  show own_Go p e below _ (s₁.setTop (mkF m 1 #[.val (.ref ao), .val (.int xl)] [(.int xl)]))
  refine own_Go.st (fun _ kt => XS.i2l X0.here hx rfl (hb hby own_d_prog_31_4_1) rfl kt) ?_
  show own_Go p e below _ (s₁.setTop (mkF m 2 #[.val (.ref ao), .val (.int xl)] [(.long (xl.toInt64))]))
  refine own_Go.st (fun _ kt => XS.aloadN X0.here hx rfl (hb hby own_d_prog_31_4_2) rfl rfl kt) ?_
  show own_Go p e below _ (s₁.setTop (mkF m 3 #[.val (.ref ao), .val (.int xl)] [(.ref ao), (.long (xl.toInt64))]))
  obtain ⟨T1, X1, e1, st1⟩ := getF X0 hx hZ hown (host := "") (Or.inl (hw _ (List.mem_of_getElem? (i := 37) rfl))) Via.refl e0 F1 (g := (mkF m 3 #[.val (.ref ao), .val (.int xl)] [(.ref ao), (.long (xl.toInt64))])) rfl rfl (hb hby own_d_prog_31_4_3)
  refine own_Go.st st1 ?_
  show own_Go p e below _ (T1.setTop (mkF m 6 #[.val (.ref ao), .val (.int xl)] [(.int xp), (.long (xl.toInt64))]))
  refine own_Go.st (fun _ kt => XS.i2l X1.here hx rfl (hb hby own_d_prog_31_4_6) rfl kt) ?_
  show own_Go p e below _ (T1.setTop (mkF m 7 #[.val (.ref ao), .val (.int xl)] [(.long (xp.toInt64)), (.long (xl.toInt64))]))
  refine own_Go.st (fun _ kt => XS.ladd X1.here hx rfl (hb hby own_d_prog_31_4_7) rfl kt) ?_
  show own_Go p e below _ (T1.setTop (mkF m 8 #[.val (.ref ao), .val (.int xl)] [(.long ((xl.toInt64) + (xp.toInt64)))]))
  refine own_Go.st (fun _ kt => XS.lconst X1.here hx rfl (hb hby own_d_prog_31_4_8) kt) ?_
  show own_Go p e below _ (T1.setTop (mkF m 9 #[.val (.ref ao), .val (.int xl)] [(.long (1 : Int64)), (.long ((xl.toInt64) + (xp.toInt64)))]))
  refine own_Go.st (fun _ kt => XS.lsub X1.here hx rfl (hb hby own_d_prog_31_4_9) rfl kt) ?_
  show own_Go p e below _ (T1.setTop (mkF m 10 #[.val (.ref ao), .val (.int xl)] [(.long (((xl.toInt64) + (xp.toInt64)) - (1 : Int64)))]))
  refine own_Go.st (fun _ kt => XS.aloadN X1.here hx rfl (hb hby own_d_prog_31_4_10) rfl rfl kt) ?_
  show own_Go p e below _ (T1.setTop (mkF m 11 #[.val (.ref ao), .val (.int xl)] [(.ref ao), (.long (((xl.toInt64) + (xp.toInt64)) - (1 : Int64)))]))
  obtain ⟨T2, X2, e2, st2⟩ := getF X1 hx hZ hown (host := "") (Or.inl (hw _ (List.mem_of_getElem? (i := 37) rfl))) Via.refl e1 F1 (g := (mkF m 11 #[.val (.ref ao), .val (.int xl)] [(.ref ao), (.long (((xl.toInt64) + (xp.toInt64)) - (1 : Int64)))])) rfl rfl (hb hby own_d_prog_31_4_11)
  refine own_Go.st st2 ?_
  show own_Go p e below _ (T2.setTop (mkF m 14 #[.val (.ref ao), .val (.int xl)] [(.int xp), (.long (((xl.toInt64) + (xp.toInt64)) - (1 : Int64)))]))
  refine own_Go.st (fun _ kt => XS.i2l X2.here hx rfl (hb hby own_d_prog_31_4_14) rfl kt) ?_
  show own_Go p e below _ (T2.setTop (mkF m 15 #[.val (.ref ao), .val (.int xl)] [(.long (xp.toInt64)), (.long (((xl.toInt64) + (xp.toInt64)) - (1 : Int64)))]))
  refine own_Go.st (fun _ kt => XS.ldiv X2.here hx rfl (hb hby own_d_prog_31_4_15) rfl hnz kt) ?_
  show own_Go p e below _ (T2.setTop (mkF m 16 #[.val (.ref ao), .val (.int xl)] [(.long ((((xl.toInt64) + (xp.toInt64)) - (1 : Int64)) / (xp.toInt64)))]))
  refine own_Go.st (fun _ kt => XS.l2i X2.here hx rfl (hb hby own_d_prog_31_4_16) rfl kt) ?_
  show own_Go p e below _ (T2.setTop (mkF m 17 #[.val (.ref ao), .val (.int xl)] [(.int (((((xl.toInt64) + (xp.toInt64)) - (1 : Int64)) / (xp.toInt64)).toInt32))]))
  exact own_retI X2 hx Bd.notSynchronized Bd.returns (hb hby own_d_prog_31_4_17) (by decide) (by decide) ⟨rfl, N0, e2⟩
theorem own_pn3 : plainName "com/example/passagewise/passagewise/index/PassageParametersLeadLengthPinLaw" = true := by first | (simp [plainName, overriddenIn]; done) | decide +kernel
theorem own_ef5 (m : MethodId) (x0 : Int32) (x1 : Int32) (x2 : Int32) (x3 : Int32) : entryFrame m #[(.int x0), (.int x1), (.int x2), (.int x3)] maxLocals = mkF m 0 #[.val (.int x0), .val (.int x1), .val (.int x2), .val (.int x3), .unset, .unset, .unset, .unset, .unset, .unset, .unset, .unset, .unset, .unset, .unset, .unset, .unset, .unset] [] := by first | (simp [entryFrame, mkF, argsToLocals, Value.category, maxLocals]; done) | rfl
theorem own_pd2 : parseMethodDescriptor "(IILcom/example/passagewise/passagewise/index/PassageParameters$Weighting;Lcom/example/passagewise/passagewise/index/PassageParameters$Salience;)V" = some ⟨[.int, .int, (.object "com/example/passagewise/passagewise/index/PassageParameters$Weighting"), (.object "com/example/passagewise/passagewise/index/PassageParameters$Salience")], none⟩ := by decide +kernel
theorem own_pd3 : parseMethodDescriptor "(I)I" = some ⟨[.int], some .int⟩ := by decide +kernel
def own_Q_own_law (Z : State) (p0 p1 p2 p3 : Int32) (aL aI aO aT : Addr) (h0 : Heap) (n0 : Nat) (v : Option Value) (h : Heap) (L : List Loc) : Prop := v = some (.int 1) ∧ Fr n0 L
set_option maxRecDepth 65536 in
set_option maxHeartbeats 40000000 in
theorem own_law (l : Launch) (Z : State) (a0 : Array Value) (hw : ∀ d ∈ tables_1, d.before a0 Z = true) (ws : List Jvm.Cond) (p0 p1 p2 p3 : Int32) (aL aI aO aT : Addr) (h0 : Heap) (n0 : Nat) (Z0 : n0 ≤ h0.size) (S_aL : Sta Z h0 "com/example/passagewise/passagewise/index/PassageParameters$Weighting" "LEAD" "Lcom/example/passagewise/passagewise/index/PassageParameters$Weighting;" (.ref aL)) (S_aI : Sta Z h0 "com/example/passagewise/passagewise/index/PassageParameters$Salience" "IDF" "Lcom/example/passagewise/passagewise/index/PassageParameters$Salience;" (.ref aI)) (S_aO : Sta Z h0 "com/example/passagewise/passagewise/index/PassageParameters$Weighting" "OCCURRENCES" "Lcom/example/passagewise/passagewise/index/PassageParameters$Weighting;" (.ref aO)) (S_aT : Sta Z h0 "com/example/passagewise/passagewise/index/PassageParameters$Salience" "TF_IDF" "Lcom/example/passagewise/passagewise/index/PassageParameters$Salience;" (.ref aT)) :
    MetFree l x (head1 (Jvm.Cond.code x code maxLocals ret :: ws) room_1) (fun av_ U => av_ = #[(.int p0), (.int p1), (.int p2), (.int p3)] ∧ Z.Warmed39 U.vm ∧ U.heap = h0) (fun _ _ _ _ _ => True) (fun _ U o U' => ∃ v L, o = .returned v ∧ own_Q_own_law Z p0 p1 p2 p3 aL aI aO aT h0 n0 v U'.heap L ∧ ReturnedEndW U o U' L room_1.cells room_1.slots) := by
  refine MetFree.of_bodySF (plainFor_of_name own_pn3) hisR ?_
  intro p e s m args below meth c s₁ Bd hml0 hP hK
  obtain ⟨rfl, hZ, hh⟩ := hP
  have hx := Bd.exec
  have hby := Bd.bytes
  have hml : c.maxLocals = 18 := hml0
  have hown : s.vm.findClass "com/example/passagewise/passagewise/index/PassageParametersLeadLengthPinLaw" = some m.cls := findClass_of_methodNamed Bd.named
  have hnm := (name_of_methodNamed Bd.named Bd.method).1
  have X0 : Stand p l e room_1 (s.setVm s.vm) m #[(.int p0), (.int p1), (.int p2), (.int p3)] below meth c s₁ [] 0 0 := Stand.of_body Bd
  have e0 : s₁.heap = h0 := by rw [← hh, Bd.state]; rfl
  have N0 := Fr.nil n0
  suffices hgo : own_Go p e below (fun o U' => ∃ v L, o = .returned v ∧ own_Q_own_law Z p0 p1 p2 p3 aL aI aO aT h0 n0 v U'.heap L ∧ ReturnedEndW s o U' L room_1.cells room_1.slots) (s₁.setTop (mkF m 0 #[.val (.int p0), .val (.int p1), .val (.int p2), .val (.int p3), .unset, .unset, .unset, .unset, .unset, .unset, .unset, .unset, .unset, .unset, .unset, .unset, .unset, .unset] [])) by
    obtain ⟨s₂, o, h1, h2, h3, h4⟩ := hgo
    exact ⟨s₂, o, castTop (own_ef5 m p0 p1 p2 p3) h1, h2, h3, h4⟩
  have hS0 : s.Since s.vm (Array.size h0) := State.WarmedH.since (State.WarmedH.refl _) _
  show own_Go p e below _ (s₁.setTop (mkF m 0 #[.val (.int p0), .val (.int p1), .val (.int p2), .val (.int p3), .unset, .unset, .unset, .unset, .unset, .unset, .unset, .unset, .unset, .unset, .unset, .unset, .unset, .unset] []))
  have bp := own_passages p0
  have bk := own_salient p2
  have bl := own_length p1
  refine own_Go.st (fun _ kt => XS.iloadN X0.here hx rfl (hb hby at_0) rfl kt) ?_
  show own_Go p e below _ (s₁.setTop (mkF m 1 #[.val (.int p0), .val (.int p1), .val (.int p2), .val (.int p3), .unset, .unset, .unset, .unset, .unset, .unset, .unset, .unset, .unset, .unset, .unset, .unset, .unset, .unset] [(.int p0)]))
  refine own_Go.st (fun _ kt => X0.ldcI hx hown (mvT hZ (hw _ (List.mem_of_getElem? (i := 0) rfl))) rfl (hb hby at_1) kt) ?_
  show own_Go p e below _ (s₁.setTop (mkF m 3 #[.val (.int p0), .val (.int p1), .val (.int p2), .val (.int p3), .unset, .unset, .unset, .unset, .unset, .unset, .unset, .unset, .unset, .unset, .unset, .unset, .unset, .unset] [(.int (2147483647 : Int32)), (.int p0)]))
  refine own_Go.st (fun _ kt => XS.iand X0.here hx rfl (hb hby at_3) rfl kt) ?_
  show own_Go p e below _ (s₁.setTop (mkF m 4 #[.val (.int p0), .val (.int p1), .val (.int p2), .val (.int p3), .unset, .unset, .unset, .unset, .unset, .unset, .unset, .unset, .unset, .unset, .unset, .unset, .unset, .unset] [(.int (p0 &&& (2147483647 : Int32)))]))
  refine own_Go.st (fun _ kt => X0.ldcI hx hown (mvT hZ (hw _ (List.mem_of_getElem? (i := 1) rfl))) rfl (hb hby at_4) kt) ?_
  show own_Go p e below _ (s₁.setTop (mkF m 6 #[.val (.int p0), .val (.int p1), .val (.int p2), .val (.int p3), .unset, .unset, .unset, .unset, .unset, .unset, .unset, .unset, .unset, .unset, .unset, .unset, .unset, .unset] [(.int (1000000 : Int32)), (.int (p0 &&& (2147483647 : Int32)))]))
  refine own_Go.st (fun _ kt => Jvm.RoadKit.iremM X0 hx rfl (hb hby at_6) rfl (by decide) kt) ?_
  show own_Go p e below _ (s₁.setTop (mkF m 7 #[.val (.int p0), .val (.int p1), .val (.int p2), .val (.int p3), .unset, .unset, .unset, .unset, .unset, .unset, .unset, .unset, .unset, .unset, .unset, .unset, .unset, .unset] [(.int ((p0 &&& (2147483647 : Int32)) % (1000000 : Int32)))]))
  refine own_Go.st (fun _ kt => XS.iconst X0.here hx rfl (hb hby at_7) kt) ?_
  show own_Go p e below _ (s₁.setTop (mkF m 8 #[.val (.int p0), .val (.int p1), .val (.int p2), .val (.int p3), .unset, .unset, .unset, .unset, .unset, .unset, .unset, .unset, .unset, .unset, .unset, .unset, .unset, .unset] [(.int (1 : Int32)), (.int ((p0 &&& (2147483647 : Int32)) % (1000000 : Int32)))]))
  refine own_Go.st (fun _ kt => XS.iadd X0.here hx rfl (hb hby at_8) rfl kt) ?_
  show own_Go p e below _ (s₁.setTop (mkF m 9 #[.val (.int p0), .val (.int p1), .val (.int p2), .val (.int p3), .unset, .unset, .unset, .unset, .unset, .unset, .unset, .unset, .unset, .unset, .unset, .unset, .unset, .unset] [(.int (((p0 &&& (2147483647 : Int32)) % (1000000 : Int32)) + (1 : Int32)))]))
  refine own_Go.st (fun _ kt => XS.istore X0.here hx rfl (hb hby at_9) rfl (l' := #[.val (.int p0), .val (.int p1), .val (.int p2), .val (.int p3), .val (.int (((p0 &&& (2147483647 : Int32)) % (1000000 : Int32)) + (1 : Int32))), .unset, .unset, .unset, .unset, .unset, .unset, .unset, .unset, .unset, .unset, .unset, .unset, .unset]) rfl kt) ?_
  show own_Go p e below _ (s₁.setTop (mkF m 11 #[.val (.int p0), .val (.int p1), .val (.int p2), .val (.int p3), .val (.int (((p0 &&& (2147483647 : Int32)) % (1000000 : Int32)) + (1 : Int32))), .unset, .unset, .unset, .unset, .unset, .unset, .unset, .unset, .unset, .unset, .unset, .unset, .unset] []))
  refine own_Go.st (fun _ kt => XS.iloadN X0.here hx rfl (hb hby at_11) rfl kt) ?_
  show own_Go p e below _ (s₁.setTop (mkF m 12 #[.val (.int p0), .val (.int p1), .val (.int p2), .val (.int p3), .val (.int (((p0 &&& (2147483647 : Int32)) % (1000000 : Int32)) + (1 : Int32))), .unset, .unset, .unset, .unset, .unset, .unset, .unset, .unset, .unset, .unset, .unset, .unset, .unset] [(.int p2)]))
  refine own_Go.st (fun _ kt => X0.ldcI hx hown (mvT hZ (hw _ (List.mem_of_getElem? (i := 2) rfl))) rfl (hb hby at_12) kt) ?_
  show own_Go p e below _ (s₁.setTop (mkF m 14 #[.val (.int p0), .val (.int p1), .val (.int p2), .val (.int p3), .val (.int (((p0 &&& (2147483647 : Int32)) % (1000000 : Int32)) + (1 : Int32))), .unset, .unset, .unset, .unset, .unset, .unset, .unset, .unset, .unset, .unset, .unset, .unset, .unset] [(.int (1073741823 : Int32)), (.int p2)]))
  refine own_Go.st (fun _ kt => XS.iand X0.here hx rfl (hb hby at_14) rfl kt) ?_
  show own_Go p e below _ (s₁.setTop (mkF m 15 #[.val (.int p0), .val (.int p1), .val (.int p2), .val (.int p3), .val (.int (((p0 &&& (2147483647 : Int32)) % (1000000 : Int32)) + (1 : Int32))), .unset, .unset, .unset, .unset, .unset, .unset, .unset, .unset, .unset, .unset, .unset, .unset, .unset] [(.int (p2 &&& (1073741823 : Int32)))]))
  refine own_Go.st (fun _ kt => XS.iconst X0.here hx rfl (hb hby at_15) kt) ?_
  show own_Go p e below _ (s₁.setTop (mkF m 16 #[.val (.int p0), .val (.int p1), .val (.int p2), .val (.int p3), .val (.int (((p0 &&& (2147483647 : Int32)) % (1000000 : Int32)) + (1 : Int32))), .unset, .unset, .unset, .unset, .unset, .unset, .unset, .unset, .unset, .unset, .unset, .unset, .unset] [(.int (1 : Int32)), (.int (p2 &&& (1073741823 : Int32)))]))
  refine own_Go.st (fun _ kt => XS.iadd X0.here hx rfl (hb hby at_16) rfl kt) ?_
  show own_Go p e below _ (s₁.setTop (mkF m 17 #[.val (.int p0), .val (.int p1), .val (.int p2), .val (.int p3), .val (.int (((p0 &&& (2147483647 : Int32)) % (1000000 : Int32)) + (1 : Int32))), .unset, .unset, .unset, .unset, .unset, .unset, .unset, .unset, .unset, .unset, .unset, .unset, .unset] [(.int ((p2 &&& (1073741823 : Int32)) + (1 : Int32)))]))
  refine own_Go.st (fun _ kt => XS.istore X0.here hx rfl (hb hby at_17) rfl (l' := #[.val (.int p0), .val (.int p1), .val (.int p2), .val (.int p3), .val (.int (((p0 &&& (2147483647 : Int32)) % (1000000 : Int32)) + (1 : Int32))), .val (.int ((p2 &&& (1073741823 : Int32)) + (1 : Int32))), .unset, .unset, .unset, .unset, .unset, .unset, .unset, .unset, .unset, .unset, .unset, .unset]) rfl kt) ?_
  show own_Go p e below _ (s₁.setTop (mkF m 19 #[.val (.int p0), .val (.int p1), .val (.int p2), .val (.int p3), .val (.int (((p0 &&& (2147483647 : Int32)) % (1000000 : Int32)) + (1 : Int32))), .val (.int ((p2 &&& (1073741823 : Int32)) + (1 : Int32))), .unset, .unset, .unset, .unset, .unset, .unset, .unset, .unset, .unset, .unset, .unset, .unset] []))
  refine own_Go.st (fun _ kt => XS.iloadN X0.here hx rfl (hb hby at_19) rfl kt) ?_
  show own_Go p e below _ (s₁.setTop (mkF m 20 #[.val (.int p0), .val (.int p1), .val (.int p2), .val (.int p3), .val (.int (((p0 &&& (2147483647 : Int32)) % (1000000 : Int32)) + (1 : Int32))), .val (.int ((p2 &&& (1073741823 : Int32)) + (1 : Int32))), .unset, .unset, .unset, .unset, .unset, .unset, .unset, .unset, .unset, .unset, .unset, .unset] [(.int p1)]))
  refine own_Go.st (fun _ kt => X0.ldcI hx hown (mvT hZ (hw _ (List.mem_of_getElem? (i := 0) rfl))) rfl (hb hby at_20) kt) ?_
  show own_Go p e below _ (s₁.setTop (mkF m 22 #[.val (.int p0), .val (.int p1), .val (.int p2), .val (.int p3), .val (.int (((p0 &&& (2147483647 : Int32)) % (1000000 : Int32)) + (1 : Int32))), .val (.int ((p2 &&& (1073741823 : Int32)) + (1 : Int32))), .unset, .unset, .unset, .unset, .unset, .unset, .unset, .unset, .unset, .unset, .unset, .unset] [(.int (2147483647 : Int32)), (.int p1)]))
  refine own_Go.st (fun _ kt => XS.iand X0.here hx rfl (hb hby at_22) rfl kt) ?_
  show own_Go p e below _ (s₁.setTop (mkF m 23 #[.val (.int p0), .val (.int p1), .val (.int p2), .val (.int p3), .val (.int (((p0 &&& (2147483647 : Int32)) % (1000000 : Int32)) + (1 : Int32))), .val (.int ((p2 &&& (1073741823 : Int32)) + (1 : Int32))), .unset, .unset, .unset, .unset, .unset, .unset, .unset, .unset, .unset, .unset, .unset, .unset] [(.int (p1 &&& (2147483647 : Int32)))]))
  refine own_Go.st (fun _ kt => XS.istore X0.here hx rfl (hb hby at_23) rfl (l' := #[.val (.int p0), .val (.int p1), .val (.int p2), .val (.int p3), .val (.int (((p0 &&& (2147483647 : Int32)) % (1000000 : Int32)) + (1 : Int32))), .val (.int ((p2 &&& (1073741823 : Int32)) + (1 : Int32))), .val (.int (p1 &&& (2147483647 : Int32))), .unset, .unset, .unset, .unset, .unset, .unset, .unset, .unset, .unset, .unset, .unset]) rfl kt) ?_
  show own_Go p e below _ (s₁.setTop (mkF m 25 #[.val (.int p0), .val (.int p1), .val (.int p2), .val (.int p3), .val (.int (((p0 &&& (2147483647 : Int32)) % (1000000 : Int32)) + (1 : Int32))), .val (.int ((p2 &&& (1073741823 : Int32)) + (1 : Int32))), .val (.int (p1 &&& (2147483647 : Int32))), .unset, .unset, .unset, .unset, .unset, .unset, .unset, .unset, .unset, .unset, .unset] []))
  refine own_Go.st (fun _ kt => XS.iloadN X0.here hx rfl (hb hby at_25) rfl kt) ?_
  show own_Go p e below _ (s₁.setTop (mkF m 26 #[.val (.int p0), .val (.int p1), .val (.int p2), .val (.int p3), .val (.int (((p0 &&& (2147483647 : Int32)) % (1000000 : Int32)) + (1 : Int32))), .val (.int ((p2 &&& (1073741823 : Int32)) + (1 : Int32))), .val (.int (p1 &&& (2147483647 : Int32))), .unset, .unset, .unset, .unset, .unset, .unset, .unset, .unset, .unset, .unset, .unset] [(.int p3)]))
  refine own_Go.st (fun _ kt => XS.iconst X0.here hx rfl (hb hby at_26) kt) ?_
  show own_Go p e below _ (s₁.setTop (mkF m 27 #[.val (.int p0), .val (.int p1), .val (.int p2), .val (.int p3), .val (.int (((p0 &&& (2147483647 : Int32)) % (1000000 : Int32)) + (1 : Int32))), .val (.int ((p2 &&& (1073741823 : Int32)) + (1 : Int32))), .val (.int (p1 &&& (2147483647 : Int32))), .unset, .unset, .unset, .unset, .unset, .unset, .unset, .unset, .unset, .unset, .unset] [(.int (1 : Int32)), (.int p3)]))
  refine own_Go.st (fun _ kt => XS.iand X0.here hx rfl (hb hby at_27) rfl kt) ?_
  show own_Go p e below _ (s₁.setTop (mkF m 28 #[.val (.int p0), .val (.int p1), .val (.int p2), .val (.int p3), .val (.int (((p0 &&& (2147483647 : Int32)) % (1000000 : Int32)) + (1 : Int32))), .val (.int ((p2 &&& (1073741823 : Int32)) + (1 : Int32))), .val (.int (p1 &&& (2147483647 : Int32))), .unset, .unset, .unset, .unset, .unset, .unset, .unset, .unset, .unset, .unset, .unset] [(.int (p3 &&& (1 : Int32)))]))
  generalize hxxp : (((p0 &&& (2147483647 : Int32)) % (1000000 : Int32)) + (1 : Int32)) = xp at bp bk bl ⊢
  show own_Go p e below _ (s₁.setTop (mkF m 28 #[.val (.int p0), .val (.int p1), .val (.int p2), .val (.int p3), .val (.int xp), .val (.int ((p2 &&& (1073741823 : Int32)) + (1 : Int32))), .val (.int (p1 &&& (2147483647 : Int32))), .unset, .unset, .unset, .unset, .unset, .unset, .unset, .unset, .unset, .unset, .unset] [(.int (p3 &&& (1 : Int32)))]))
  generalize hxxk : ((p2 &&& (1073741823 : Int32)) + (1 : Int32)) = xk at bp bk bl ⊢
  show own_Go p e below _ (s₁.setTop (mkF m 28 #[.val (.int p0), .val (.int p1), .val (.int p2), .val (.int p3), .val (.int xp), .val (.int xk), .val (.int (p1 &&& (2147483647 : Int32))), .unset, .unset, .unset, .unset, .unset, .unset, .unset, .unset, .unset, .unset, .unset] [(.int (p3 &&& (1 : Int32)))]))
  generalize hxxl : (p1 &&& (2147483647 : Int32)) = xl at bp bk bl ⊢
  show own_Go p e below _ (s₁.setTop (mkF m 28 #[.val (.int p0), .val (.int p1), .val (.int p2), .val (.int p3), .val (.int xp), .val (.int xk), .val (.int xl), .unset, .unset, .unset, .unset, .unset, .unset, .unset, .unset, .unset, .unset, .unset] [(.int (p3 &&& (1 : Int32)))]))
  have J57 : ∀ (T1 : State) (lc1 : List Loc) (X1 : Stand p l e room_1 (s.setVm s.vm) m #[(.int p0), (.int p1), (.int p2), (.int p3)] below meth c T1 lc1 0 0) (e1 : T1.heap = h0) (N1 : Fr n0 lc1) (aW : Addr) (aS : Addr), own_Go p e below (fun o U' => ∃ v L, o = .returned v ∧ own_Q_own_law Z p0 p1 p2 p3 aL aI aO aT h0 n0 v U'.heap L ∧ ReturnedEndW s o U' L room_1.cells room_1.slots) (T1.setTop (mkF m 57 #[.val (.int p0), .val (.int p1), .val (.int p2), .val (.int p3), .val (.int xp), .val (.int xk), .val (.int xl), .val (.ref aW), .unset, .unset, .unset, .unset, .unset, .unset, .unset, .unset, .unset, .unset] [(.ref aS)])) := by
    intro T1 lc1 X1 e1 N1 aW aS
    show own_Go p e below _ (T1.setTop (mkF m 57 #[.val (.int p0), .val (.int p1), .val (.int p2), .val (.int p3), .val (.int xp), .val (.int xk), .val (.int xl), .val (.ref aW), .unset, .unset, .unset, .unset, .unset, .unset, .unset, .unset, .unset, .unset] [(.ref aS)]))
    refine own_Go.st (fun _ kt => XS.astore X1.here hx rfl (hb hby at_57) rfl rfl (l' := #[.val (.int p0), .val (.int p1), .val (.int p2), .val (.int p3), .val (.int xp), .val (.int xk), .val (.int xl), .val (.ref aW), .val (.ref aS), .unset, .unset, .unset, .unset, .unset, .unset, .unset, .unset, .unset]) rfl kt) ?_
    show own_Go p e below _ (T1.setTop (mkF m 59 #[.val (.int p0), .val (.int p1), .val (.int p2), .val (.int p3), .val (.int xp), .val (.int xk), .val (.int xl), .val (.ref aW), .val (.ref aS), .unset, .unset, .unset, .unset, .unset, .unset, .unset, .unset, .unset] []))
    obtain ⟨T2, h2, X2, e2, E2, A2, D2, U2, st2⟩ := newO X1 hx hZ hown (hw _ (List.mem_of_getElem? (i := 9) rfl)) (hw _ (List.mem_of_getElem? (i := 10) rfl)) (hw _ (List.mem_of_getElem? (i := 11) rfl)) e1 (g := (mkF m 59 #[.val (.int p0), .val (.int p1), .val (.int p2), .val (.int p3), .val (.int xp), .val (.int xk), .val (.int xl), .val (.ref aW), .val (.ref aS), .unset, .unset, .unset, .unset, .unset, .unset, .unset, .unset, .unset] [])) rfl (hb hby at_59) (by decide) (by decide)
    obtain ⟨ao, g2⟩ : ∃ z, z = Array.size h0 := ⟨_, rfl⟩
    rw [← g2] at A2 D2 U2 st2
    refine own_Go.st st2 ?_
    have n0_ao : n0 ≤ ao := Nat.le_trans Z0 (Nat.le_of_eq g2.symm)
    have zz3 : n0 ≤ Array.size h2 := Nat.le_trans Z0 E2.1
    have hk3 : Array.size h0 ≤ Array.size h2 := Nat.le_trans (Nat.le_refl _) E2.1
    have D2_passages : Fld Z h2 ao "com/example/passagewise/passagewise/index/PassageParameters" "passages" "I" (.int (0 : Int32)) := D2 (Or.inr (hw _ (List.mem_of_getElem? (i := 38) rfl))) (ty := .int) (by decide)
    have D2_salientTerms : Fld Z h2 ao "com/example/passagewise/passagewise/index/PassageParameters" "salientTerms" "I" (.int (0 : Int32)) := D2 (Or.inr (hw _ (List.mem_of_getElem? (i := 40) rfl))) (ty := .int) (by decide)
    have D2_weighting : Fld Z h2 ao "com/example/passagewise/passagewise/index/PassageParameters" "weighting" "Lcom/example/passagewise/passagewise/index/PassageParameters$Weighting;" .null := D2 (Or.inr (hw _ (List.mem_of_getElem? (i := 42) rfl))) (ty := (.object "com/example/passagewise/passagewise/index/PassageParameters$Weighting")) (by decide)
    have D2_salience : Fld Z h2 ao "com/example/passagewise/passagewise/index/PassageParameters" "salience" "Lcom/example/passagewise/passagewise/index/PassageParameters$Salience;" .null := D2 (Or.inr (hw _ (List.mem_of_getElem? (i := 44) rfl))) (ty := (.object "com/example/passagewise/passagewise/index/PassageParameters$Salience")) (by decide)
    show own_Go p e below _ (T2.setTop (mkF m 62 #[.val (.int p0), .val (.int p1), .val (.int p2), .val (.int p3), .val (.int xp), .val (.int xk), .val (.int xl), .val (.ref aW), .val (.ref aS), .unset, .unset, .unset, .unset, .unset, .unset, .unset, .unset, .unset] [(.ref ao)]))
    refine own_Go.st (fun _ kt => XS.dup X2.here hx rfl (hb hby at_62) rfl rfl kt) ?_
    show own_Go p e below _ (T2.setTop (mkF m 63 #[.val (.int p0), .val (.int p1), .val (.int p2), .val (.int p3), .val (.int xp), .val (.int xk), .val (.int xl), .val (.ref aW), .val (.ref aS), .unset, .unset, .unset, .unset, .unset, .unset, .unset, .unset, .unset] [(.ref ao), (.ref ao)]))
    refine own_Go.st (fun _ kt => XS.iload X2.here hx rfl (hb hby at_63) rfl kt) ?_
    show own_Go p e below _ (T2.setTop (mkF m 65 #[.val (.int p0), .val (.int p1), .val (.int p2), .val (.int p3), .val (.int xp), .val (.int xk), .val (.int xl), .val (.ref aW), .val (.ref aS), .unset, .unset, .unset, .unset, .unset, .unset, .unset, .unset, .unset] [(.int xp), (.ref ao), (.ref ao)]))
    refine own_Go.st (fun _ kt => XS.iload X2.here hx rfl (hb hby at_65) rfl kt) ?_
    show own_Go p e below _ (T2.setTop (mkF m 67 #[.val (.int p0), .val (.int p1), .val (.int p2), .val (.int p3), .val (.int xp), .val (.int xk), .val (.int xl), .val (.ref aW), .val (.ref aS), .unset, .unset, .unset, .unset, .unset, .unset, .unset, .unset, .unset] [(.int xk), (.int xp), (.ref ao), (.ref ao)]))
    refine own_Go.st (fun _ kt => XS.aload X2.here hx rfl (hb hby at_67) rfl rfl kt) ?_
    show own_Go p e below _ (T2.setTop (mkF m 69 #[.val (.int p0), .val (.int p1), .val (.int p2), .val (.int p3), .val (.int xp), .val (.int xk), .val (.int xl), .val (.ref aW), .val (.ref aS), .unset, .unset, .unset, .unset, .unset, .unset, .unset, .unset, .unset] [(.ref aW), (.int xk), (.int xp), (.ref ao), (.ref ao)]))
    refine own_Go.st (fun _ kt => XS.aload X2.here hx rfl (hb hby at_69) rfl rfl kt) ?_
    show own_Go p e below _ (T2.setTop (mkF m 71 #[.val (.int p0), .val (.int p1), .val (.int p2), .val (.int p3), .val (.int xp), .val (.int xk), .val (.int xl), .val (.ref aW), .val (.ref aS), .unset, .unset, .unset, .unset, .unset, .unset, .unset, .unset, .unset] [(.ref aS), (.ref aW), (.int xk), (.int xp), (.ref ao), (.ref ao)]))
    have i1 : ¬ xp < (1 : Int32) := by rw [Int32.lt_iff_toInt_lt, own_one32]; omega
    have i2 : ¬ (1000000 : Int32) < xp := by rw [Int32.lt_iff_toInt_lt, show (1000000 : Int32).toInt = 1000000 by decide]; omega
    have i3 : ¬ xk < (1 : Int32) := by rw [Int32.lt_iff_toInt_lt, own_one32]; omega
    have i4 : xp.toInt64 ≠ 0 := by
      intro q
      have q2 := c_i2l xp
      rw [q, show (0 : Int64).toInt = 0 by decide] at q2
      omega
    obtain ⟨_, _, ⟨T4, L4, k4, n4⟩, -, X4, hS4, hgr4, ⟨Lc4, hQ4, l4, y4, z4⟩, st4⟩ := X2.specialBackS hx (y := (⟨"com/example/passagewise/passagewise/index/PassageParameters", "<init>", "(IILcom/example/passagewise/passagewise/index/PassageParameters$Weighting;Lcom/example/passagewise/passagewise/index/PassageParameters$Salience;)V"⟩ : MethodName)) rfl hown (mvT hZ (hw _ (List.mem_of_getElem? (i := 12) rfl))) (mvT hZ (hw _ (List.mem_of_getElem? (i := 13) rfl))) (mvT hZ (hw _ (List.mem_of_getElem? (i := 14) rfl))) (by decide) (backOfS (W := 1) (own_ppinit l Z a0 hw [] ao xp xk aW aS h2 n0 zz3 A2 D2_passages D2_salientTerms D2_weighting D2_salience n0_ao i1 i2 i3) hZ (hw _ (List.mem_of_getElem? (i := 14) rfl)) (hw _ (List.mem_of_getElem? (i := 11) rfl)) (by decide) (by decide)) (g := (mkF m 71 #[.val (.int p0), .val (.int p1), .val (.int p2), .val (.int p3), .val (.int xp), .val (.int xk), .val (.int xl), .val (.ref aW), .val (.ref aS), .unset, .unset, .unset, .unset, .unset, .unset, .unset, .unset, .unset] [(.ref aS), (.ref aW), (.int xk), (.int xp), (.ref ao), (.ref ao)])) rfl (by rw [hml]; rfl) (Steps.refl _) (a := ao) (argsL := [(.int xp), (.int xk), (.ref aW), (.ref aS)]) (rest := [(.ref ao)]) (lenOf own_pd2 rfl) rfl (by show 2 * 0 + _ ≤ _; exact Nat.le_of_eq rfl) (hb hby at_71) (fun _ _ => ⟨rfl, e2, (by decide : 1 + 4 ≤ _), (by decide : 4 + 76 ≤ _)⟩)
    dsimp only [Pt.U, Pt.locs, Pt.cells, Pt.slots] at X4 l4 y4 z4 st4 hQ4 hS4 hgr4
    subst l4 y4 z4
    obtain ⟨rfl, N4q, EO4, FO4, KO4⟩ := hQ4
    have N4 := Fr.app N1 N4q
    refine own_Go.st (fun _ kt => st4.trans kt) ?_
    have hZ4 : Z.Warmed39 (s.setVm T4.vm).vm := State.Warmed39.trans (t := s.setVm s.vm) hZ hS4.1
    have ho4 : (s.setVm T4.vm).vm.findClass "com/example/passagewise/passagewise/index/PassageParametersLeadLengthPinLaw" = some m.cls := by rw [show (s.setVm T4.vm).vm = T4.vm from rfl, hS4.1.alike.findClass]; exact hown
    have hT4 : s.Since T4.vm (Array.size T4.heap) := State.Since.trans hS0 hS4 (Nat.le_trans hk3 (Nat.le_trans (Nat.le_of_eq (congrArg Array.size e2).symm) hgr4))
    have zz5 : n0 ≤ Array.size T4.heap := Nat.le_trans zz3 KO4.1
    show own_Go p e below _ (T4.setTop (mkF m 74 #[.val (.int p0), .val (.int p1), .val (.int p2), .val (.int p3), .val (.int xp), .val (.int xk), .val (.int xl), .val (.ref aW), .val (.ref aS), .unset, .unset, .unset, .unset, .unset, .unset, .unset, .unset, .unset] [(.ref ao)]))
    refine own_Go.st (fun _ kt => XS.astore X4.here hx rfl (hb hby at_74) rfl rfl (l' := #[.val (.int p0), .val (.int p1), .val (.int p2), .val (.int p3), .val (.int xp), .val (.int xk), .val (.int xl), .val (.ref aW), .val (.ref aS), .val (.ref ao), .unset, .unset, .unset, .unset, .unset, .unset, .unset, .unset]) rfl kt) ?_
    show own_Go p e below _ (T4.setTop (mkF m 76 #[.val (.int p0), .val (.int p1), .val (.int p2), .val (.int p3), .val (.int xp), .val (.int xk), .val (.int xl), .val (.ref aW), .val (.ref aS), .val (.ref ao), .unset, .unset, .unset, .unset, .unset, .unset, .unset, .unset] []))
    refine own_Go.st (fun _ kt => XS.aload X4.here hx rfl (hb hby at_76) rfl rfl kt) ?_
    show own_Go p e below _ (T4.setTop (mkF m 78 #[.val (.int p0), .val (.int p1), .val (.int p2), .val (.int p3), .val (.int xp), .val (.int xk), .val (.int xl), .val (.ref aW), .val (.ref aS), .val (.ref ao), .unset, .unset, .unset, .unset, .unset, .unset, .unset, .unset] [(.ref ao)]))
    refine own_Go.st (fun _ kt => XS.iload X4.here hx rfl (hb hby at_78) rfl kt) ?_
    show own_Go p e below _ (T4.setTop (mkF m 80 #[.val (.int p0), .val (.int p1), .val (.int p2), .val (.int p3), .val (.int xp), .val (.int xk), .val (.int xl), .val (.ref aW), .val (.ref aS), .val (.ref ao), .unset, .unset, .unset, .unset, .unset, .unset, .unset, .unset] [(.int xl), (.ref ao)]))
    obtain ⟨cq6, kq6, q6a, q6b, q6c⟩ := isOf hZ4 rfl EO4
    obtain ⟨_, _, ⟨T6, L6, k6, n6⟩, -, X6, ⟨Lc6, hQ6, l6, y6, z6⟩, st6⟩ := X4.virtualBack hx (y := (⟨"com/example/passagewise/passagewise/index/PassageParameters", "leadLength", "(I)I"⟩ : MethodName)) (z := (⟨"com/example/passagewise/passagewise/index/PassageParameters", "leadLength", "(I)I"⟩ : MethodName)) ho4 (mvT hZ4 (hw _ (List.mem_of_getElem? (i := 45) rfl))) (mvT hZ4 (hw _ (List.mem_of_getElem? (i := 46) rfl))) (notFace_of_selects (args := #[]) (mvT hZ4 (hw _ (List.mem_of_getElem? (i := 48) rfl)))) (mvT hZ4 (hw _ (List.mem_of_getElem? (i := 48) rfl))) (mvT hZ4 (hw _ (List.mem_of_getElem? (i := 47) rfl))) (by decide) (backOf (W := 0) (own_lead l Z a0 hw [] ao xl xp T4.heap n0 zz5 FO4 i4) hZ4 (hw _ (List.mem_of_getElem? (i := 49) rfl)) (hw _ (List.mem_of_getElem? (i := 11) rfl)) (by decide) (by decide)) q6a q6c (g := (mkF m 80 #[.val (.int p0), .val (.int p1), .val (.int p2), .val (.int p3), .val (.int xp), .val (.int xk), .val (.int xl), .val (.ref aW), .val (.ref aS), .val (.ref ao), .unset, .unset, .unset, .unset, .unset, .unset, .unset, .unset] [(.int xl), (.ref ao)])) rfl (by rw [hml]; rfl) (Steps.refl _) (argsL := [(.int xl)]) (rest := []) (lenOf own_pd3 rfl) rfl (by show 2 * 0 + _ ≤ _; exact Nat.le_of_eq rfl) (hb hby at_80) (fun _ _ => ⟨rfl, rfl, (by decide : 5 + 0 ≤ _), (by decide : 80 + 0 ≤ _)⟩)
    dsimp only [Pt.U, Pt.locs, Pt.cells, Pt.slots] at X6 l6 y6 z6 st6 hQ6
    subst l6 y6 z6
    obtain ⟨rfl, N6q, hh6⟩ := hQ6
    have N6 := Fr.app N4 N6q
    refine own_Go.st (fun _ kt => st6.trans kt) ?_
    show own_Go p e below _ (T6.setTop (mkF m 83 #[.val (.int p0), .val (.int p1), .val (.int p2), .val (.int p3), .val (.int xp), .val (.int xk), .val (.int xl), .val (.ref aW), .val (.ref aS), .val (.ref ao), .unset, .unset, .unset, .unset, .unset, .unset, .unset, .unset] [(.int ((((xl.toInt64 + xp.toInt64) - (1 : Int64)) / xp.toInt64).toInt32))]))
    have vr := own_lead_val xl xp bp.1 bp.2 bl
    refine own_Go.st (fun _ kt => XS.i2l X6.here hx rfl (hb hby at_83) rfl kt) ?_
    show own_Go p e below _ (T6.setTop (mkF m 84 #[.val (.int p0), .val (.int p1), .val (.int p2), .val (.int p3), .val (.int xp), .val (.int xk), .val (.int xl), .val (.ref aW), .val (.ref aS), .val (.ref ao), .unset, .unset, .unset, .unset, .unset, .unset, .unset, .unset] [(.long (((((xl.toInt64 + xp.toInt64) - (1 : Int64)) / xp.toInt64).toInt32).toInt64))]))
    generalize hr : (((((xl.toInt64 + xp.toInt64) - (1 : Int64)) / xp.toInt64).toInt32).toInt64) = r at vr ⊢
    show own_Go p e below _ (T6.setTop (mkF m 84 #[.val (.int p0), .val (.int p1), .val (.int p2), .val (.int p3), .val (.int xp), .val (.int xk), .val (.int xl), .val (.ref aW), .val (.ref aS), .val (.ref ao), .unset, .unset, .unset, .unset, .unset, .unset, .unset, .unset] [(.long r)]))
    obtain ⟨c1, c2, c3, c4⟩ := own_lead_law xl xp r bp.1 bp.2 bl vr
    refine own_Go.st (fun _ kt => XS.lstore X6.here hx rfl (hb hby at_84) rfl (l' := #[.val (.int p0), .val (.int p1), .val (.int p2), .val (.int p3), .val (.int xp), .val (.int xk), .val (.int xl), .val (.ref aW), .val (.ref aS), .val (.ref ao), .val (.long r), .second, .unset, .unset, .unset, .unset, .unset, .unset]) rfl kt) ?_
    show own_Go p e below _ (T6.setTop (mkF m 86 #[.val (.int p0), .val (.int p1), .val (.int p2), .val (.int p3), .val (.int xp), .val (.int xk), .val (.int xl), .val (.ref aW), .val (.ref aS), .val (.ref ao), .val (.long r), .second, .unset, .unset, .unset, .unset, .unset, .unset] []))
    refine own_Go.st (fun _ kt => XS.iload X6.here hx rfl (hb hby at_86) rfl kt) ?_
    show own_Go p e below _ (T6.setTop (mkF m 88 #[.val (.int p0), .val (.int p1), .val (.int p2), .val (.int p3), .val (.int xp), .val (.int xk), .val (.int xl), .val (.ref aW), .val (.ref aS), .val (.ref ao), .val (.long r), .second, .unset, .unset, .unset, .unset, .unset, .unset] [(.int xp)]))
    refine own_Go.st (fun _ kt => XS.i2l X6.here hx rfl (hb hby at_88) rfl kt) ?_
    show own_Go p e below _ (T6.setTop (mkF m 89 #[.val (.int p0), .val (.int p1), .val (.int p2), .val (.int p3), .val (.int xp), .val (.int xk), .val (.int xl), .val (.ref aW), .val (.ref aS), .val (.ref ao), .val (.long r), .second, .unset, .unset, .unset, .unset, .unset, .unset] [(.long (xp.toInt64))]))
    refine own_Go.st (fun _ kt => XS.lstore X6.here hx rfl (hb hby at_89) rfl (l' := #[.val (.int p0), .val (.int p1), .val (.int p2), .val (.int p3), .val (.int xp), .val (.int xk), .val (.int xl), .val (.ref aW), .val (.ref aS), .val (.ref ao), .val (.long r), .second, .val (.long (xp.toInt64)), .second, .unset, .unset, .unset, .unset]) rfl kt) ?_
    show own_Go p e below _ (T6.setTop (mkF m 91 #[.val (.int p0), .val (.int p1), .val (.int p2), .val (.int p3), .val (.int xp), .val (.int xk), .val (.int xl), .val (.ref aW), .val (.ref aS), .val (.ref ao), .val (.long r), .second, .val (.long (xp.toInt64)), .second, .unset, .unset, .unset, .unset] []))
    refine own_Go.st (fun _ kt => XS.iload X6.here hx rfl (hb hby at_91) rfl kt) ?_
    show own_Go p e below _ (T6.setTop (mkF m 93 #[.val (.int p0), .val (.int p1), .val (.int p2), .val (.int p3), .val (.int xp), .val (.int xk), .val (.int xl), .val (.ref aW), .val (.ref aS), .val (.ref ao), .val (.long r), .second, .val (.long (xp.toInt64)), .second, .unset, .unset, .unset, .unset] [(.int xl)]))
    refine own_Go.st (fun _ kt => XS.i2l X6.here hx rfl (hb hby at_93) rfl kt) ?_
    show own_Go p e below _ (T6.setTop (mkF m 94 #[.val (.int p0), .val (.int p1), .val (.int p2), .val (.int p3), .val (.int xp), .val (.int xk), .val (.int xl), .val (.ref aW), .val (.ref aS), .val (.ref ao), .val (.long r), .second, .val (.long (xp.toInt64)), .second, .unset, .unset, .unset, .unset] [(.long (xl.toInt64))]))
    refine own_Go.st (fun _ kt => XS.lstore X6.here hx rfl (hb hby at_94) rfl (l' := #[.val (.int p0), .val (.int p1), .val (.int p2), .val (.int p3), .val (.int xp), .val (.int xk), .val (.int xl), .val (.ref aW), .val (.ref aS), .val (.ref ao), .val (.long r), .second, .val (.long (xp.toInt64)), .second, .val (.long (xl.toInt64)), .second, .unset, .unset]) rfl kt) ?_
    show own_Go p e below _ (T6.setTop (mkF m 96 #[.val (.int p0), .val (.int p1), .val (.int p2), .val (.int p3), .val (.int xp), .val (.int xk), .val (.int xl), .val (.ref aW), .val (.ref aS), .val (.ref ao), .val (.long r), .second, .val (.long (xp.toInt64)), .second, .val (.long (xl.toInt64)), .second, .unset, .unset] []))
    refine own_Go.st (fun _ kt => XS.lload X6.here hx rfl (hb hby at_96) rfl kt) ?_
    show own_Go p e below _ (T6.setTop (mkF m 98 #[.val (.int p0), .val (.int p1), .val (.int p2), .val (.int p3), .val (.int xp), .val (.int xk), .val (.int xl), .val (.ref aW), .val (.ref aS), .val (.ref ao), .val (.long r), .second, .val (.long (xp.toInt64)), .second, .val (.long (xl.toInt64)), .second, .unset, .unset] [(.long r)]))
    refine own_Go.st (fun _ kt => XS.lconst X6.here hx rfl (hb hby at_98) kt) ?_
    show own_Go p e below _ (T6.setTop (mkF m 99 #[.val (.int p0), .val (.int p1), .val (.int p2), .val (.int p3), .val (.int xp), .val (.int xk), .val (.int xl), .val (.ref aW), .val (.ref aS), .val (.ref ao), .val (.long r), .second, .val (.long (xp.toInt64)), .second, .val (.long (xl.toInt64)), .second, .unset, .unset] [(.long (0 : Int64)), (.long r)]))
    refine own_Go.st (fun _ kt => XS.lcmp X6.here hx rfl (hb hby at_99) rfl kt) ?_
    show own_Go p e below _ (T6.setTop (mkF m 100 #[.val (.int p0), .val (.int p1), .val (.int p2), .val (.int p3), .val (.int xp), .val (.int xk), .val (.int xl), .val (.ref aW), .val (.ref aS), .val (.ref ao), .val (.long r), .second, .val (.long (xp.toInt64)), .second, .val (.long (xl.toInt64)), .second, .unset, .unset] [(.int (lcmpW r (0 : Int64)))]))
    refine own_Go.st (fun _ kt => XS.ifYes X6.here hx rfl (pc0 := 100) (pc' := 105) rfl (hb hby at_100) rfl ((if0 _ _).trans (flt (mt (lw_lt _ _).mp c1)).2.1) (by decide) (by decide) kt) ?_
    show own_Go p e below _ (T6.setTop (mkF m 105 #[.val (.int p0), .val (.int p1), .val (.int p2), .val (.int p3), .val (.int xp), .val (.int xk), .val (.int xl), .val (.ref aW), .val (.ref aS), .val (.ref ao), .val (.long r), .second, .val (.long (xp.toInt64)), .second, .val (.long (xl.toInt64)), .second, .unset, .unset] []))
    refine own_Go.st (fun _ kt => XS.lload X6.here hx rfl (hb hby at_105) rfl kt) ?_
    show own_Go p e below _ (T6.setTop (mkF m 107 #[.val (.int p0), .val (.int p1), .val (.int p2), .val (.int p3), .val (.int xp), .val (.int xk), .val (.int xl), .val (.ref aW), .val (.ref aS), .val (.ref ao), .val (.long r), .second, .val (.long (xp.toInt64)), .second, .val (.long (xl.toInt64)), .second, .unset, .unset] [(.long r)]))
    refine own_Go.st (fun _ kt => XS.lload X6.here hx rfl (hb hby at_107) rfl kt) ?_
    show own_Go p e below _ (T6.setTop (mkF m 109 #[.val (.int p0), .val (.int p1), .val (.int p2), .val (.int p3), .val (.int xp), .val (.int xk), .val (.int xl), .val (.ref aW), .val (.ref aS), .val (.ref ao), .val (.long r), .second, .val (.long (xp.toInt64)), .second, .val (.long (xl.toInt64)), .second, .unset, .unset] [(.long (xp.toInt64)), (.long r)]))
    refine own_Go.st (fun _ kt => XS.lmul X6.here hx rfl (hb hby at_109) rfl kt) ?_
    show own_Go p e below _ (T6.setTop (mkF m 110 #[.val (.int p0), .val (.int p1), .val (.int p2), .val (.int p3), .val (.int xp), .val (.int xk), .val (.int xl), .val (.ref aW), .val (.ref aS), .val (.ref ao), .val (.long r), .second, .val (.long (xp.toInt64)), .second, .val (.long (xl.toInt64)), .second, .unset, .unset] [(.long (r * (xp.toInt64)))]))
    refine own_Go.st (fun _ kt => XS.lload X6.here hx rfl (hb hby at_110) rfl kt) ?_
    show own_Go p e below _ (T6.setTop (mkF m 112 #[.val (.int p0), .val (.int p1), .val (.int p2), .val (.int p3), .val (.int xp), .val (.int xk), .val (.int xl), .val (.ref aW), .val (.ref aS), .val (.ref ao), .val (.long r), .second, .val (.long (xp.toInt64)), .second, .val (.long (xl.toInt64)), .second, .unset, .unset] [(.long (xl.toInt64)), (.long (r * (xp.toInt64)))]))
    refine own_Go.st (fun _ kt => XS.lcmp X6.here hx rfl (hb hby at_112) rfl kt) ?_
    show own_Go p e below _ (T6.setTop (mkF m 113 #[.val (.int p0), .val (.int p1), .val (.int p2), .val (.int p3), .val (.int xp), .val (.int xk), .val (.int xl), .val (.ref aW), .val (.ref aS), .val (.ref ao), .val (.long r), .second, .val (.long (xp.toInt64)), .second, .val (.long (xl.toInt64)), .second, .unset, .unset] [(.int (lcmpW (r * (xp.toInt64)) (xl.toInt64)))]))
    refine own_Go.st (fun _ kt => XS.ifNo X6.here hx rfl (hb hby at_113) rfl ((if0 _ _).trans (flt (mt (lw_lt _ _).mp c2)).1) kt) ?_
    show own_Go p e below _ (T6.setTop (mkF m 116 #[.val (.int p0), .val (.int p1), .val (.int p2), .val (.int p3), .val (.int xp), .val (.int xk), .val (.int xl), .val (.ref aW), .val (.ref aS), .val (.ref ao), .val (.long r), .second, .val (.long (xp.toInt64)), .second, .val (.long (xl.toInt64)), .second, .unset, .unset] []))
    refine own_Go.st (fun _ kt => XS.iconst X6.here hx rfl (hb hby at_116) kt) ?_
    show own_Go p e below _ (T6.setTop (mkF m 117 #[.val (.int p0), .val (.int p1), .val (.int p2), .val (.int p3), .val (.int xp), .val (.int xk), .val (.int xl), .val (.ref aW), .val (.ref aS), .val (.ref ao), .val (.long r), .second, .val (.long (xp.toInt64)), .second, .val (.long (xl.toInt64)), .second, .unset, .unset] [(.int (1 : Int32))]))
    refine own_Go.st (fun _ kt => XS.goto X6.here hx rfl (pc0 := 117) (pc' := 121) rfl (hb hby at_117) (by decide) (by decide) kt) ?_
    show own_Go p e below _ (T6.setTop (mkF m 121 #[.val (.int p0), .val (.int p1), .val (.int p2), .val (.int p3), .val (.int xp), .val (.int xk), .val (.int xl), .val (.ref aW), .val (.ref aS), .val (.ref ao), .val (.long r), .second, .val (.long (xp.toInt64)), .second, .val (.long (xl.toInt64)), .second, .unset, .unset] [(.int (1 : Int32))]))
    refine own_Go.st (fun _ kt => XS.istore X6.here hx rfl (hb hby at_121) rfl (l' := #[.val (.int p0), .val (.int p1), .val (.int p2), .val (.int p3), .val (.int xp), .val (.int xk), .val (.int xl), .val (.ref aW), .val (.ref aS), .val (.ref ao), .val (.long r), .second, .val (.long (xp.toInt64)), .second, .val (.long (xl.toInt64)), .second, .val (.int (1 : Int32)), .unset]) rfl kt) ?_
    show own_Go p e below _ (T6.setTop (mkF m 123 #[.val (.int p0), .val (.int p1), .val (.int p2), .val (.int p3), .val (.int xp), .val (.int xk), .val (.int xl), .val (.ref aW), .val (.ref aS), .val (.ref ao), .val (.long r), .second, .val (.long (xp.toInt64)), .second, .val (.long (xl.toInt64)), .second, .val (.int (1 : Int32)), .unset] []))
    refine own_Go.st (fun _ kt => XS.lload X6.here hx rfl (hb hby at_123) rfl kt) ?_
    show own_Go p e below _ (T6.setTop (mkF m 125 #[.val (.int p0), .val (.int p1), .val (.int p2), .val (.int p3), .val (.int xp), .val (.int xk), .val (.int xl), .val (.ref aW), .val (.ref aS), .val (.ref ao), .val (.long r), .second, .val (.long (xp.toInt64)), .second, .val (.long (xl.toInt64)), .second, .val (.int (1 : Int32)), .unset] [(.long r)]))
    refine own_Go.st (fun _ kt => XS.lconst X6.here hx rfl (hb hby at_125) kt) ?_
    show own_Go p e below _ (T6.setTop (mkF m 126 #[.val (.int p0), .val (.int p1), .val (.int p2), .val (.int p3), .val (.int xp), .val (.int xk), .val (.int xl), .val (.ref aW), .val (.ref aS), .val (.ref ao), .val (.long r), .second, .val (.long (xp.toInt64)), .second, .val (.long (xl.toInt64)), .second, .val (.int (1 : Int32)), .unset] [(.long (0 : Int64)), (.long r)]))
    refine own_Go.st (fun _ kt => XS.lcmp X6.here hx rfl (hb hby at_126) rfl kt) ?_
    show own_Go p e below _ (T6.setTop (mkF m 127 #[.val (.int p0), .val (.int p1), .val (.int p2), .val (.int p3), .val (.int xp), .val (.int xk), .val (.int xl), .val (.ref aW), .val (.ref aS), .val (.ref ao), .val (.long r), .second, .val (.long (xp.toInt64)), .second, .val (.long (xl.toInt64)), .second, .val (.int (1 : Int32)), .unset] [(.int (lcmpW r (0 : Int64)))]))
    by_cases hr0 : r = (0 : Int64)
    · refine own_Go.st (fun _ kt => XS.ifNo X6.here hx rfl (hb hby at_127) rfl ((if0 _ _).trans (teq ((lw_eq _ _).mpr hr0)).2) kt) ?_
      show own_Go p e below _ (T6.setTop (mkF m 130 #[.val (.int p0), .val (.int p1), .val (.int p2), .val (.int p3), .val (.int xp), .val (.int xk), .val (.int xl), .val (.ref aW), .val (.ref aS), .val (.ref ao), .val (.long r), .second, .val (.long (xp.toInt64)), .second, .val (.long (xl.toInt64)), .second, .val (.int (1 : Int32)), .unset] []))
      refine own_Go.st (fun _ kt => XS.lload X6.here hx rfl (hb hby at_130) rfl kt) ?_
      show own_Go p e below _ (T6.setTop (mkF m 132 #[.val (.int p0), .val (.int p1), .val (.int p2), .val (.int p3), .val (.int xp), .val (.int xk), .val (.int xl), .val (.ref aW), .val (.ref aS), .val (.ref ao), .val (.long r), .second, .val (.long (xp.toInt64)), .second, .val (.long (xl.toInt64)), .second, .val (.int (1 : Int32)), .unset] [(.long (xl.toInt64))]))
      refine own_Go.st (fun _ kt => XS.lconst X6.here hx rfl (hb hby at_132) kt) ?_
      show own_Go p e below _ (T6.setTop (mkF m 133 #[.val (.int p0), .val (.int p1), .val (.int p2), .val (.int p3), .val (.int xp), .val (.int xk), .val (.int xl), .val (.ref aW), .val (.ref aS), .val (.ref ao), .val (.long r), .second, .val (.long (xp.toInt64)), .second, .val (.long (xl.toInt64)), .second, .val (.int (1 : Int32)), .unset] [(.long (0 : Int64)), (.long (xl.toInt64))]))
      refine own_Go.st (fun _ kt => XS.lcmp X6.here hx rfl (hb hby at_133) rfl kt) ?_
      show own_Go p e below _ (T6.setTop (mkF m 134 #[.val (.int p0), .val (.int p1), .val (.int p2), .val (.int p3), .val (.int xp), .val (.int xk), .val (.int xl), .val (.ref aW), .val (.ref aS), .val (.ref ao), .val (.long r), .second, .val (.long (xp.toInt64)), .second, .val (.long (xl.toInt64)), .second, .val (.int (1 : Int32)), .unset] [(.int (lcmpW (xl.toInt64) (0 : Int64)))]))
      refine own_Go.st (fun _ kt => XS.ifNo X6.here hx rfl (hb hby at_134) rfl ((if0 _ _).trans (teq ((lw_eq _ _).mpr (c3 hr0))).2) kt) ?_
      show own_Go p e below _ (T6.setTop (mkF m 137 #[.val (.int p0), .val (.int p1), .val (.int p2), .val (.int p3), .val (.int xp), .val (.int xk), .val (.int xl), .val (.ref aW), .val (.ref aS), .val (.ref ao), .val (.long r), .second, .val (.long (xp.toInt64)), .second, .val (.long (xl.toInt64)), .second, .val (.int (1 : Int32)), .unset] []))
      refine own_Go.st (fun _ kt => XS.iconst X6.here hx rfl (hb hby at_137) kt) ?_
      show own_Go p e below _ (T6.setTop (mkF m 138 #[.val (.int p0), .val (.int p1), .val (.int p2), .val (.int p3), .val (.int xp), .val (.int xk), .val (.int xl), .val (.ref aW), .val (.ref aS), .val (.ref ao), .val (.long r), .second, .val (.long (xp.toInt64)), .second, .val (.long (xl.toInt64)), .second, .val (.int (1 : Int32)), .unset] [(.int (1 : Int32))]))
      refine own_Go.st (fun _ kt => XS.goto X6.here hx rfl (pc0 := 138) (pc' := 142) rfl (hb hby at_138) (by decide) (by decide) kt) ?_
      show own_Go p e below _ (T6.setTop (mkF m 142 #[.val (.int p0), .val (.int p1), .val (.int p2), .val (.int p3), .val (.int xp), .val (.int xk), .val (.int xl), .val (.ref aW), .val (.ref aS), .val (.ref ao), .val (.long r), .second, .val (.long (xp.toInt64)), .second, .val (.long (xl.toInt64)), .second, .val (.int (1 : Int32)), .unset] [(.int (1 : Int32))]))
      refine own_Go.st (fun _ kt => XS.istore X6.here hx rfl (hb hby at_142) rfl (l' := #[.val (.int p0), .val (.int p1), .val (.int p2), .val (.int p3), .val (.int xp), .val (.int xk), .val (.int xl), .val (.ref aW), .val (.ref aS), .val (.ref ao), .val (.long r), .second, .val (.long (xp.toInt64)), .second, .val (.long (xl.toInt64)), .second, .val (.int (1 : Int32)), .val (.int (1 : Int32))]) rfl kt) ?_
      show own_Go p e below _ (T6.setTop (mkF m 144 #[.val (.int p0), .val (.int p1), .val (.int p2), .val (.int p3), .val (.int xp), .val (.int xk), .val (.int xl), .val (.ref aW), .val (.ref aS), .val (.ref ao), .val (.long r), .second, .val (.long (xp.toInt64)), .second, .val (.long (xl.toInt64)), .second, .val (.int (1 : Int32)), .val (.int (1 : Int32))] []))
      refine own_Go.st (fun _ kt => XS.goto X6.here hx rfl (pc0 := 144) (pc' := 167) rfl (hb hby at_144) (by decide) (by decide) kt) ?_
      show own_Go p e below _ (T6.setTop (mkF m 167 #[.val (.int p0), .val (.int p1), .val (.int p2), .val (.int p3), .val (.int xp), .val (.int xk), .val (.int xl), .val (.ref aW), .val (.ref aS), .val (.ref ao), .val (.long r), .second, .val (.long (xp.toInt64)), .second, .val (.long (xl.toInt64)), .second, .val (.int (1 : Int32)), .val (.int (1 : Int32))] []))
      refine own_Go.st (fun _ kt => XS.iload X6.here hx rfl (hb hby at_167) rfl kt) ?_
      show own_Go p e below _ (T6.setTop (mkF m 169 #[.val (.int p0), .val (.int p1), .val (.int p2), .val (.int p3), .val (.int xp), .val (.int xk), .val (.int xl), .val (.ref aW), .val (.ref aS), .val (.ref ao), .val (.long r), .second, .val (.long (xp.toInt64)), .second, .val (.long (xl.toInt64)), .second, .val (.int (1 : Int32)), .val (.int (1 : Int32))] [(.int (1 : Int32))]))
      refine own_Go.st (fun _ kt => XS.ifNo X6.here hx rfl (hb hby at_169) rfl ((if0 _ _).trans (feq (by decide)).1) kt) ?_
      show own_Go p e below _ (T6.setTop (mkF m 172 #[.val (.int p0), .val (.int p1), .val (.int p2), .val (.int p3), .val (.int xp), .val (.int xk), .val (.int xl), .val (.ref aW), .val (.ref aS), .val (.ref ao), .val (.long r), .second, .val (.long (xp.toInt64)), .second, .val (.long (xl.toInt64)), .second, .val (.int (1 : Int32)), .val (.int (1 : Int32))] []))
      refine own_Go.st (fun _ kt => XS.iload X6.here hx rfl (hb hby at_172) rfl kt) ?_
      show own_Go p e below _ (T6.setTop (mkF m 174 #[.val (.int p0), .val (.int p1), .val (.int p2), .val (.int p3), .val (.int xp), .val (.int xk), .val (.int xl), .val (.ref aW), .val (.ref aS), .val (.ref ao), .val (.long r), .second, .val (.long (xp.toInt64)), .second, .val (.long (xl.toInt64)), .second, .val (.int (1 : Int32)), .val (.int (1 : Int32))] [(.int (1 : Int32))]))
      refine own_Go.st (fun _ kt => XS.ifNo X6.here hx rfl (hb hby at_174) rfl ((if0 _ _).trans (feq (by decide)).1) kt) ?_
      show own_Go p e below _ (T6.setTop (mkF m 177 #[.val (.int p0), .val (.int p1), .val (.int p2), .val (.int p3), .val (.int xp), .val (.int xk), .val (.int xl), .val (.ref aW), .val (.ref aS), .val (.ref ao), .val (.long r), .second, .val (.long (xp.toInt64)), .second, .val (.long (xl.toInt64)), .second, .val (.int (1 : Int32)), .val (.int (1 : Int32))] []))
      refine own_Go.st (fun _ kt => XS.iconst X6.here hx rfl (hb hby at_177) kt) ?_
      show own_Go p e below _ (T6.setTop (mkF m 178 #[.val (.int p0), .val (.int p1), .val (.int p2), .val (.int p3), .val (.int xp), .val (.int xk), .val (.int xl), .val (.ref aW), .val (.ref aS), .val (.ref ao), .val (.long r), .second, .val (.long (xp.toInt64)), .second, .val (.long (xl.toInt64)), .second, .val (.int (1 : Int32)), .val (.int (1 : Int32))] [(.int (1 : Int32))]))
      refine own_Go.st (fun _ kt => XS.goto X6.here hx rfl (pc0 := 178) (pc' := 182) rfl (hb hby at_178) (by decide) (by decide) kt) ?_
      show own_Go p e below _ (T6.setTop (mkF m 182 #[.val (.int p0), .val (.int p1), .val (.int p2), .val (.int p3), .val (.int xp), .val (.int xk), .val (.int xl), .val (.ref aW), .val (.ref aS), .val (.ref ao), .val (.long r), .second, .val (.long (xp.toInt64)), .second, .val (.long (xl.toInt64)), .second, .val (.int (1 : Int32)), .val (.int (1 : Int32))] [(.int (1 : Int32))]))
      exact own_retWZ X6 hx Bd.notSynchronized Bd.returns hT4 (Nat.le_trans (Nat.le_of_eq (congrArg Array.size rfl)) (Nat.le_of_eq (congrArg Array.size hh6).symm)) (Or.inr rfl) (hb hby at_182) (by decide) (by decide) ⟨rfl, N6⟩
    · refine own_Go.st (fun _ kt => XS.ifYes X6.here hx rfl (pc0 := 127) (pc' := 147) rfl (hb hby at_127) rfl ((if0 _ _).trans (feq (mt (lw_eq _ _).mp hr0)).2) (by decide) (by decide) kt) ?_
      show own_Go p e below _ (T6.setTop (mkF m 147 #[.val (.int p0), .val (.int p1), .val (.int p2), .val (.int p3), .val (.int xp), .val (.int xk), .val (.int xl), .val (.ref aW), .val (.ref aS), .val (.ref ao), .val (.long r), .second, .val (.long (xp.toInt64)), .second, .val (.long (xl.toInt64)), .second, .val (.int (1 : Int32)), .unset] []))
      refine own_Go.st (fun _ kt => XS.lload X6.here hx rfl (hb hby at_147) rfl kt) ?_
      show own_Go p e below _ (T6.setTop (mkF m 149 #[.val (.int p0), .val (.int p1), .val (.int p2), .val (.int p3), .val (.int xp), .val (.int xk), .val (.int xl), .val (.ref aW), .val (.ref aS), .val (.ref ao), .val (.long r), .second, .val (.long (xp.toInt64)), .second, .val (.long (xl.toInt64)), .second, .val (.int (1 : Int32)), .unset] [(.long r)]))
      refine own_Go.st (fun _ kt => XS.lconst X6.here hx rfl (hb hby at_149) kt) ?_
      show own_Go p e below _ (T6.setTop (mkF m 150 #[.val (.int p0), .val (.int p1), .val (.int p2), .val (.int p3), .val (.int xp), .val (.int xk), .val (.int xl), .val (.ref aW), .val (.ref aS), .val (.ref ao), .val (.long r), .second, .val (.long (xp.toInt64)), .second, .val (.long (xl.toInt64)), .second, .val (.int (1 : Int32)), .unset] [(.long (1 : Int64)), (.long r)]))
      refine own_Go.st (fun _ kt => XS.lsub X6.here hx rfl (hb hby at_150) rfl kt) ?_
      show own_Go p e below _ (T6.setTop (mkF m 151 #[.val (.int p0), .val (.int p1), .val (.int p2), .val (.int p3), .val (.int xp), .val (.int xk), .val (.int xl), .val (.ref aW), .val (.ref aS), .val (.ref ao), .val (.long r), .second, .val (.long (xp.toInt64)), .second, .val (.long (xl.toInt64)), .second, .val (.int (1 : Int32)), .unset] [(.long (r - (1 : Int64)))]))
      refine own_Go.st (fun _ kt => XS.lload X6.here hx rfl (hb hby at_151) rfl kt) ?_
      show own_Go p e below _ (T6.setTop (mkF m 153 #[.val (.int p0), .val (.int p1), .val (.int p2), .val (.int p3), .val (.int xp), .val (.int xk), .val (.int xl), .val (.ref aW), .val (.ref aS), .val (.ref ao), .val (.long r), .second, .val (.long (xp.toInt64)), .second, .val (.long (xl.toInt64)), .second, .val (.int (1 : Int32)), .unset] [(.long (xp.toInt64)), (.long (r - (1 : Int64)))]))
      refine own_Go.st (fun _ kt => XS.lmul X6.here hx rfl (hb hby at_153) rfl kt) ?_
      show own_Go p e below _ (T6.setTop (mkF m 154 #[.val (.int p0), .val (.int p1), .val (.int p2), .val (.int p3), .val (.int xp), .val (.int xk), .val (.int xl), .val (.ref aW), .val (.ref aS), .val (.ref ao), .val (.long r), .second, .val (.long (xp.toInt64)), .second, .val (.long (xl.toInt64)), .second, .val (.int (1 : Int32)), .unset] [(.long ((r - (1 : Int64)) * (xp.toInt64)))]))
      refine own_Go.st (fun _ kt => XS.lload X6.here hx rfl (hb hby at_154) rfl kt) ?_
      show own_Go p e below _ (T6.setTop (mkF m 156 #[.val (.int p0), .val (.int p1), .val (.int p2), .val (.int p3), .val (.int xp), .val (.int xk), .val (.int xl), .val (.ref aW), .val (.ref aS), .val (.ref ao), .val (.long r), .second, .val (.long (xp.toInt64)), .second, .val (.long (xl.toInt64)), .second, .val (.int (1 : Int32)), .unset] [(.long (xl.toInt64)), (.long ((r - (1 : Int64)) * (xp.toInt64)))]))
      refine own_Go.st (fun _ kt => XS.lcmp X6.here hx rfl (hb hby at_156) rfl kt) ?_
      show own_Go p e below _ (T6.setTop (mkF m 157 #[.val (.int p0), .val (.int p1), .val (.int p2), .val (.int p3), .val (.int xp), .val (.int xk), .val (.int xl), .val (.ref aW), .val (.ref aS), .val (.ref ao), .val (.long r), .second, .val (.long (xp.toInt64)), .second, .val (.long (xl.toInt64)), .second, .val (.int (1 : Int32)), .unset] [(.int (lcmpW ((r - (1 : Int64)) * (xp.toInt64)) (xl.toInt64)))]))
      refine own_Go.st (fun _ kt => XS.ifNo X6.here hx rfl (hb hby at_157) rfl ((if0 _ _).trans (tlt ((lw_lt _ _).mpr c4)).2.1) kt) ?_
      show own_Go p e below _ (T6.setTop (mkF m 160 #[.val (.int p0), .val (.int p1), .val (.int p2), .val (.int p3), .val (.int xp), .val (.int xk), .val (.int xl), .val (.ref aW), .val (.ref aS), .val (.ref ao), .val (.long r), .second, .val (.long (xp.toInt64)), .second, .val (.long (xl.toInt64)), .second, .val (.int (1 : Int32)), .unset] []))
      refine own_Go.st (fun _ kt => XS.iconst X6.here hx rfl (hb hby at_160) kt) ?_
      show own_Go p e below _ (T6.setTop (mkF m 161 #[.val (.int p0), .val (.int p1), .val (.int p2), .val (.int p3), .val (.int xp), .val (.int xk), .val (.int xl), .val (.ref aW), .val (.ref aS), .val (.ref ao), .val (.long r), .second, .val (.long (xp.toInt64)), .second, .val (.long (xl.toInt64)), .second, .val (.int (1 : Int32)), .unset] [(.int (1 : Int32))]))
      refine own_Go.st (fun _ kt => XS.goto X6.here hx rfl (pc0 := 161) (pc' := 165) rfl (hb hby at_161) (by decide) (by decide) kt) ?_
      show own_Go p e below _ (T6.setTop (mkF m 165 #[.val (.int p0), .val (.int p1), .val (.int p2), .val (.int p3), .val (.int xp), .val (.int xk), .val (.int xl), .val (.ref aW), .val (.ref aS), .val (.ref ao), .val (.long r), .second, .val (.long (xp.toInt64)), .second, .val (.long (xl.toInt64)), .second, .val (.int (1 : Int32)), .unset] [(.int (1 : Int32))]))
      refine own_Go.st (fun _ kt => XS.istore X6.here hx rfl (hb hby at_165) rfl (l' := #[.val (.int p0), .val (.int p1), .val (.int p2), .val (.int p3), .val (.int xp), .val (.int xk), .val (.int xl), .val (.ref aW), .val (.ref aS), .val (.ref ao), .val (.long r), .second, .val (.long (xp.toInt64)), .second, .val (.long (xl.toInt64)), .second, .val (.int (1 : Int32)), .val (.int (1 : Int32))]) rfl kt) ?_
      show own_Go p e below _ (T6.setTop (mkF m 167 #[.val (.int p0), .val (.int p1), .val (.int p2), .val (.int p3), .val (.int xp), .val (.int xk), .val (.int xl), .val (.ref aW), .val (.ref aS), .val (.ref ao), .val (.long r), .second, .val (.long (xp.toInt64)), .second, .val (.long (xl.toInt64)), .second, .val (.int (1 : Int32)), .val (.int (1 : Int32))] []))
      refine own_Go.st (fun _ kt => XS.iload X6.here hx rfl (hb hby at_167) rfl kt) ?_
      show own_Go p e below _ (T6.setTop (mkF m 169 #[.val (.int p0), .val (.int p1), .val (.int p2), .val (.int p3), .val (.int xp), .val (.int xk), .val (.int xl), .val (.ref aW), .val (.ref aS), .val (.ref ao), .val (.long r), .second, .val (.long (xp.toInt64)), .second, .val (.long (xl.toInt64)), .second, .val (.int (1 : Int32)), .val (.int (1 : Int32))] [(.int (1 : Int32))]))
      refine own_Go.st (fun _ kt => XS.ifNo X6.here hx rfl (hb hby at_169) rfl ((if0 _ _).trans (feq (by decide)).1) kt) ?_
      show own_Go p e below _ (T6.setTop (mkF m 172 #[.val (.int p0), .val (.int p1), .val (.int p2), .val (.int p3), .val (.int xp), .val (.int xk), .val (.int xl), .val (.ref aW), .val (.ref aS), .val (.ref ao), .val (.long r), .second, .val (.long (xp.toInt64)), .second, .val (.long (xl.toInt64)), .second, .val (.int (1 : Int32)), .val (.int (1 : Int32))] []))
      refine own_Go.st (fun _ kt => XS.iload X6.here hx rfl (hb hby at_172) rfl kt) ?_
      show own_Go p e below _ (T6.setTop (mkF m 174 #[.val (.int p0), .val (.int p1), .val (.int p2), .val (.int p3), .val (.int xp), .val (.int xk), .val (.int xl), .val (.ref aW), .val (.ref aS), .val (.ref ao), .val (.long r), .second, .val (.long (xp.toInt64)), .second, .val (.long (xl.toInt64)), .second, .val (.int (1 : Int32)), .val (.int (1 : Int32))] [(.int (1 : Int32))]))
      refine own_Go.st (fun _ kt => XS.ifNo X6.here hx rfl (hb hby at_174) rfl ((if0 _ _).trans (feq (by decide)).1) kt) ?_
      show own_Go p e below _ (T6.setTop (mkF m 177 #[.val (.int p0), .val (.int p1), .val (.int p2), .val (.int p3), .val (.int xp), .val (.int xk), .val (.int xl), .val (.ref aW), .val (.ref aS), .val (.ref ao), .val (.long r), .second, .val (.long (xp.toInt64)), .second, .val (.long (xl.toInt64)), .second, .val (.int (1 : Int32)), .val (.int (1 : Int32))] []))
      refine own_Go.st (fun _ kt => XS.iconst X6.here hx rfl (hb hby at_177) kt) ?_
      show own_Go p e below _ (T6.setTop (mkF m 178 #[.val (.int p0), .val (.int p1), .val (.int p2), .val (.int p3), .val (.int xp), .val (.int xk), .val (.int xl), .val (.ref aW), .val (.ref aS), .val (.ref ao), .val (.long r), .second, .val (.long (xp.toInt64)), .second, .val (.long (xl.toInt64)), .second, .val (.int (1 : Int32)), .val (.int (1 : Int32))] [(.int (1 : Int32))]))
      refine own_Go.st (fun _ kt => XS.goto X6.here hx rfl (pc0 := 178) (pc' := 182) rfl (hb hby at_178) (by decide) (by decide) kt) ?_
      show own_Go p e below _ (T6.setTop (mkF m 182 #[.val (.int p0), .val (.int p1), .val (.int p2), .val (.int p3), .val (.int xp), .val (.int xk), .val (.int xl), .val (.ref aW), .val (.ref aS), .val (.ref ao), .val (.long r), .second, .val (.long (xp.toInt64)), .second, .val (.long (xl.toInt64)), .second, .val (.int (1 : Int32)), .val (.int (1 : Int32))] [(.int (1 : Int32))]))
      exact own_retWZ X6 hx Bd.notSynchronized Bd.returns hT4 (Nat.le_trans (Nat.le_of_eq (congrArg Array.size rfl)) (Nat.le_of_eq (congrArg Array.size hh6).symm)) (Or.inr rfl) (hb hby at_182) (by decide) (by decide) ⟨rfl, N6⟩
  have J40 : ∀ (T7 : State) (lc7 : List Loc) (X7 : Stand p l e room_1 (s.setVm s.vm) m #[(.int p0), (.int p1), (.int p2), (.int p3)] below meth c T7 lc7 0 0) (e7 : T7.heap = h0) (N7 : Fr n0 lc7) (aW : Addr), own_Go p e below (fun o U' => ∃ v L, o = .returned v ∧ own_Q_own_law Z p0 p1 p2 p3 aL aI aO aT h0 n0 v U'.heap L ∧ ReturnedEndW s o U' L room_1.cells room_1.slots) (T7.setTop (mkF m 40 #[.val (.int p0), .val (.int p1), .val (.int p2), .val (.int p3), .val (.int xp), .val (.int xk), .val (.int xl), .unset, .unset, .unset, .unset, .unset, .unset, .unset, .unset, .unset, .unset, .unset] [(.ref aW)])) := by
    intro T7 lc7 X7 e7 N7 aW
    show own_Go p e below _ (T7.setTop (mkF m 40 #[.val (.int p0), .val (.int p1), .val (.int p2), .val (.int p3), .val (.int xp), .val (.int xk), .val (.int xl), .unset, .unset, .unset, .unset, .unset, .unset, .unset, .unset, .unset, .unset, .unset] [(.ref aW)]))
    refine own_Go.st (fun _ kt => XS.astore X7.here hx rfl (hb hby at_40) rfl rfl (l' := #[.val (.int p0), .val (.int p1), .val (.int p2), .val (.int p3), .val (.int xp), .val (.int xk), .val (.int xl), .val (.ref aW), .unset, .unset, .unset, .unset, .unset, .unset, .unset, .unset, .unset, .unset]) rfl kt) ?_
    show own_Go p e below _ (T7.setTop (mkF m 42 #[.val (.int p0), .val (.int p1), .val (.int p2), .val (.int p3), .val (.int xp), .val (.int xk), .val (.int xl), .val (.ref aW), .unset, .unset, .unset, .unset, .unset, .unset, .unset, .unset, .unset, .unset] []))
    refine own_Go.st (fun _ kt => XS.iloadN X7.here hx rfl (hb hby at_42) rfl kt) ?_
    show own_Go p e below _ (T7.setTop (mkF m 43 #[.val (.int p0), .val (.int p1), .val (.int p2), .val (.int p3), .val (.int xp), .val (.int xk), .val (.int xl), .val (.ref aW), .unset, .unset, .unset, .unset, .unset, .unset, .unset, .unset, .unset, .unset] [(.int p3)]))
    refine own_Go.st (fun _ kt => XS.iconst X7.here hx rfl (hb hby at_43) kt) ?_
    show own_Go p e below _ (T7.setTop (mkF m 44 #[.val (.int p0), .val (.int p1), .val (.int p2), .val (.int p3), .val (.int xp), .val (.int xk), .val (.int xl), .val (.ref aW), .unset, .unset, .unset, .unset, .unset, .unset, .unset, .unset, .unset, .unset] [(.int (2 : Int32)), (.int p3)]))
    refine own_Go.st (fun _ kt => XS.iand X7.here hx rfl (hb hby at_44) rfl kt) ?_
    show own_Go p e below _ (T7.setTop (mkF m 45 #[.val (.int p0), .val (.int p1), .val (.int p2), .val (.int p3), .val (.int xp), .val (.int xk), .val (.int xl), .val (.ref aW), .unset, .unset, .unset, .unset, .unset, .unset, .unset, .unset, .unset, .unset] [(.int (p3 &&& (2 : Int32)))]))
    by_cases hf2 : (p3 &&& (2 : Int32)) = (0 : Int32)
    · refine own_Go.st (fun _ kt => XS.ifYes X7.here hx rfl (pc0 := 45) (pc' := 54) rfl (hb hby at_45) rfl ((if0 _ _).trans (teq hf2).1) (by decide) (by decide) kt) ?_
      show own_Go p e below _ (T7.setTop (mkF m 54 #[.val (.int p0), .val (.int p1), .val (.int p2), .val (.int p3), .val (.int xp), .val (.int xk), .val (.int xl), .val (.ref aW), .unset, .unset, .unset, .unset, .unset, .unset, .unset, .unset, .unset, .unset] []))
      obtain ⟨T8, X8, e8, st8⟩ := getS2 X7 hx hZ hown (host := "") (Or.inl (hw _ (List.mem_of_getElem? (i := 6) rfl))) Via.refl e7 S_aI (g := (mkF m 54 #[.val (.int p0), .val (.int p1), .val (.int p2), .val (.int p3), .val (.int xp), .val (.int xk), .val (.int xl), .val (.ref aW), .unset, .unset, .unset, .unset, .unset, .unset, .unset, .unset, .unset, .unset] [])) rfl (hb hby at_54)
      refine own_Go.st st8 ?_
      show own_Go p e below _ (T8.setTop (mkF m 57 #[.val (.int p0), .val (.int p1), .val (.int p2), .val (.int p3), .val (.int xp), .val (.int xk), .val (.int xl), .val (.ref aW), .unset, .unset, .unset, .unset, .unset, .unset, .unset, .unset, .unset, .unset] [(.ref aI)]))
      exact J57 _ _ X8 e8 N7 aW aI
    · refine own_Go.st (fun _ kt => XS.ifNo X7.here hx rfl (hb hby at_45) rfl ((if0 _ _).trans (feq hf2).1) kt) ?_
      show own_Go p e below _ (T7.setTop (mkF m 48 #[.val (.int p0), .val (.int p1), .val (.int p2), .val (.int p3), .val (.int xp), .val (.int xk), .val (.int xl), .val (.ref aW), .unset, .unset, .unset, .unset, .unset, .unset, .unset, .unset, .unset, .unset] []))
      obtain ⟨T9, X9, e9, st9⟩ := getS2 X7 hx hZ hown (host := "") (Or.inl (hw _ (List.mem_of_getElem? (i := 52) rfl))) Via.refl e7 S_aT (g := (mkF m 48 #[.val (.int p0), .val (.int p1), .val (.int p2), .val (.int p3), .val (.int xp), .val (.int xk), .val (.int xl), .val (.ref aW), .unset, .unset, .unset, .unset, .unset, .unset, .unset, .unset, .unset, .unset] [])) rfl (hb hby at_48)
      refine own_Go.st st9 ?_
      show own_Go p e below _ (T9.setTop (mkF m 51 #[.val (.int p0), .val (.int p1), .val (.int p2), .val (.int p3), .val (.int xp), .val (.int xk), .val (.int xl), .val (.ref aW), .unset, .unset, .unset, .unset, .unset, .unset, .unset, .unset, .unset, .unset] [(.ref aT)]))
      refine own_Go.st (fun _ kt => XS.goto X9.here hx rfl (pc0 := 51) (pc' := 57) rfl (hb hby at_51) (by decide) (by decide) kt) ?_
      show own_Go p e below _ (T9.setTop (mkF m 57 #[.val (.int p0), .val (.int p1), .val (.int p2), .val (.int p3), .val (.int xp), .val (.int xk), .val (.int xl), .val (.ref aW), .unset, .unset, .unset, .unset, .unset, .unset, .unset, .unset, .unset, .unset] [(.ref aT)]))
      exact J57 _ _ X9 e9 N7 aW aT
  by_cases hf1 : (p3 &&& (1 : Int32)) = (0 : Int32)
  · refine own_Go.st (fun _ kt => XS.ifYes X0.here hx rfl (pc0 := 28) (pc' := 37) rfl (hb hby at_28) rfl ((if0 _ _).trans (teq hf1).1) (by decide) (by decide) kt) ?_
    show own_Go p e below _ (s₁.setTop (mkF m 37 #[.val (.int p0), .val (.int p1), .val (.int p2), .val (.int p3), .val (.int xp), .val (.int xk), .val (.int xl), .unset, .unset, .unset, .unset, .unset, .unset, .unset, .unset, .unset, .unset, .unset] []))
    obtain ⟨T10, X10, e10, st10⟩ := getS2 X0 hx hZ hown (host := "") (Or.inl (hw _ (List.mem_of_getElem? (i := 50) rfl))) Via.refl e0 S_aO (g := (mkF m 37 #[.val (.int p0), .val (.int p1), .val (.int p2), .val (.int p3), .val (.int xp), .val (.int xk), .val (.int xl), .unset, .unset, .unset, .unset, .unset, .unset, .unset, .unset, .unset, .unset, .unset] [])) rfl (hb hby at_37)
    refine own_Go.st st10 ?_
    show own_Go p e below _ (T10.setTop (mkF m 40 #[.val (.int p0), .val (.int p1), .val (.int p2), .val (.int p3), .val (.int xp), .val (.int xk), .val (.int xl), .unset, .unset, .unset, .unset, .unset, .unset, .unset, .unset, .unset, .unset, .unset] [(.ref aO)]))
    exact J40 _ _ X10 e10 N0 aO
  · refine own_Go.st (fun _ kt => XS.ifNo X0.here hx rfl (hb hby at_28) rfl ((if0 _ _).trans (feq hf1).1) kt) ?_
    show own_Go p e below _ (s₁.setTop (mkF m 31 #[.val (.int p0), .val (.int p1), .val (.int p2), .val (.int p3), .val (.int xp), .val (.int xk), .val (.int xl), .unset, .unset, .unset, .unset, .unset, .unset, .unset, .unset, .unset, .unset, .unset] []))
    obtain ⟨T11, X11, e11, st11⟩ := getS2 X0 hx hZ hown (host := "") (Or.inl (hw _ (List.mem_of_getElem? (i := 3) rfl))) Via.refl e0 S_aL (g := (mkF m 31 #[.val (.int p0), .val (.int p1), .val (.int p2), .val (.int p3), .val (.int xp), .val (.int xk), .val (.int xl), .unset, .unset, .unset, .unset, .unset, .unset, .unset, .unset, .unset, .unset, .unset] [])) rfl (hb hby at_31)
    refine own_Go.st st11 ?_
    show own_Go p e below _ (T11.setTop (mkF m 34 #[.val (.int p0), .val (.int p1), .val (.int p2), .val (.int p3), .val (.int xp), .val (.int xk), .val (.int xl), .unset, .unset, .unset, .unset, .unset, .unset, .unset, .unset, .unset, .unset, .unset] [(.ref aL)]))
    refine own_Go.st (fun _ kt => XS.goto X11.here hx rfl (pc0 := 34) (pc' := 40) rfl (hb hby at_34) (by decide) (by decide) kt) ?_
    show own_Go p e below _ (T11.setTop (mkF m 40 #[.val (.int p0), .val (.int p1), .val (.int p2), .val (.int p3), .val (.int xp), .val (.int xk), .val (.int xl), .unset, .unset, .unset, .unset, .unset, .unset, .unset, .unset, .unset, .unset, .unset] [(.ref aL)]))
    exact J40 _ _ X11 e11 N0 aL
set_option maxRecDepth 65536 in
set_option maxHeartbeats 40000000 in
theorem own_comes_1 {Post : Tables → Env → Array Value → State → Outcome → State → Prop} (hpost : ∀ tb e args s v u, (limb_1_1.after args s (.returned v) u = true ∧ limb_1_2.after args s (.returned v) u = true ∧ True) → ReturnedEndW s (.returned v) u (Jvm.fieldLocs frame_1_writes args s ++ Jvm.arrayLocs frame_1_arrays args s ++ Jvm.staticLocs frame_1_statics s) 16 2176 → Post tb e args s (.returned v) u) :
    ArmFor flags0 classFile x code maxLocals ret World_1 tables_1 room_1 Calls_1 rest_1 Pre_1 Post := by
  intro l hfl _ _ p e ha hc hk s m args below hf hA hF happ hP
  obtain ⟨hcalls, hrest, hpre⟩ := hP
  obtain ⟨-, -, -, hnamed, -, -, -, hat⟩ := (Spec.applies_iff hf).mp happ
  obtain ⟨hg, hn⟩ := and_e (Cond.before_iff.mp (show (Jvm.Cond.and given_1 narrow_1).before args s = true from hpre))
  obtain ⟨hg0, hg1⟩ := and_e hg
  obtain ⟨ha0, hb0⟩ := and_e hg1
  obtain ⟨ha1, hb1⟩ := and_e hb0
  obtain ⟨ha2, hb2⟩ := and_e hb1
  obtain ⟨w0, w1, w2, w3, rfl⟩ : ∃ w0 w1 w2 w3 : Value, args = #[w0, w1, w2, w3] := by
    have hs : args.size = 4 := by simpa [Cond.value, given_1] using hg0
    obtain ⟨L⟩ := args
    match L, hs with
    | [w0, w1, w2, w3], _ => exact ⟨w0, w1, w2, w3, rfl⟩
  have hw := fun d (hd : d ∈ tables_1) => atoms_spec (ws := Jvm.Cond.code x code maxLocals ret :: tables_1) hat d (List.mem_cons_of_mem _ hd)
  have hfit : Fit s := fun {y c} hc i hi => by
    obtain ⟨ha, rfl⟩ := Array.getElem?_eq_some_iff.mp hc
    have q := List.all_eq_true.mp ((Array.all_eq_true_iff_forall_mem.mp hF) _ (Array.getElem_mem ha)) i (List.mem_range.mpr hi)
    simpa [Array.getElem?_eq_getElem hi] using q
  obtain ⟨p0, ep0⟩ := is_v ha0
  obtain rfl : w0 = (.int p0) := Option.some.inj ep0
  obtain ⟨p1, ep1⟩ := is_v ha1
  obtain rfl : w1 = (.int p1) := Option.some.inj ep1
  obtain ⟨p2, ep2⟩ := is_v ha2
  obtain rfl : w2 = (.int p2) := Option.some.inj ep2
  obtain ⟨p3, ep3⟩ := is_v hb2
  obtain rfl : w3 = (.int p3) := Option.some.inj ep3
  obtain ⟨n1, hn⟩ := and_e hn
  obtain ⟨n2, hn⟩ := and_e hn
  obtain ⟨n3, n4⟩ := and_e hn
  obtain ⟨aL, v_aL⟩ := exa_v n1
  have S_aL := Sta.start v_aL (Or.inr ⟨(hw _ (List.mem_of_getElem? (i := 4) rfl)), (hw _ (List.mem_of_getElem? (i := 5) rfl))⟩)
  obtain ⟨aI, v_aI⟩ := exa_v n2
  have S_aI := Sta.start v_aI (Or.inr ⟨(hw _ (List.mem_of_getElem? (i := 7) rfl)), (hw _ (List.mem_of_getElem? (i := 8) rfl))⟩)
  obtain ⟨aO, v_aO⟩ := exa_v n3
  have S_aO := Sta.start v_aO (Or.inr ⟨(hw _ (List.mem_of_getElem? (i := 4) rfl)), (hw _ (List.mem_of_getElem? (i := 51) rfl))⟩)
  obtain ⟨aT, v_aT⟩ := exa_v n4
  have S_aT := Sta.start v_aT (Or.inr ⟨(hw _ (List.mem_of_getElem? (i := 7) rfl)), (hw _ (List.mem_of_getElem? (i := 53) rfl))⟩)
  obtain ⟨n, o, h1, h2, h3, _, L, rfl, ⟨rfl, N⟩, hq⟩ := own_law l s _ hw tables_1 p0 p1 p2 p3 aL aI aO aT s.heap s.heap.size (Nat.le_refl _) S_aL S_aI S_aO S_aT p e ha hc hk s m _ below hf ((Spec.applies_iff_loose hf).mp happ).1 ⟨rfl, State.Warmed39.refl s, rfl⟩ trivial
  refine ⟨n, _, h1, h2, h3, hpost _ _ _ _ _ _ ⟨Cond.after_iff.mpr rfl, Cond.after_iff.mpr (eq_i res_at (Term.int_eval (1)) rfl), trivial⟩ ⟨hq.1, hq.2.1, hq.2.2.1, (hq.2.2.2.sift fun y hy => Or.inr (N y hy)).mono (by decide) (by decide)⟩⟩
theorem main_1_1 : Claimed_1_1 := own_comes_1 fun _ _ _ _ _ _ h hF => ⟨h.1, hF⟩
theorem main_1_2 : Claimed_1_2 := own_comes_1 fun _ _ _ _ _ _ h hF => ⟨h.2.1, hF⟩

end Jvm.Pilot.@@N@@
namespace Jvm.Pilot.@@N@@
open Jvm Jvm.ClassFile Sem Op Lib Jvm.Free Jvm.Stand Jvm.Pilot.@@N@@.Jvm.D
/-! MADE BY PROGRAM (witnessworld.py) out of the Statement's table words and the real class files: 19 classes; the members and pool entries that the words name. The judged class is class 1, her method 1. -/
namespace start1
open Jvm.ClassFile
def u (s : String) : CpInfo := .utf8 (stringToUtf16 s)
/-- a pool by its gaps: so many unusable entries, then the entry; so many at the end -/
def gap : Nat → List CpInfo → List CpInfo
  | 0, r => r
  | n + 1, r => .unusable :: gap n r
def poolList (es : List (Nat × CpInfo)) (last : Nat) : List CpInfo := es.foldr (fun e r => gap e.1 (e.2 :: r)) (gap last [])
def pool (es : List (Nat × CpInfo)) (last : Nat) : Array CpInfo := ⟨poolList es last⟩
def fileOf (pool : Array CpInfo) (this : Nat) (attrs : Array Attribute := #[]) (ms : Array MethodInfo := #[]) (fl : Nat := 33) (sup : Nat := 0) (ifs : Array Nat := #[]) (fds : Array FieldInfo := #[]) : ClassFile where
  minorVersion := 0
  majorVersion := 65
  constantPool := pool
  accessFlags := fl
  thisClass := this
  superClass := sup
  interfaces := ifs
  fields := fds
  methods := ms
  attributes := attrs
def plain (name : String) (sup : Option ClassId) : Class where
  name := name
  kind := .ordinary
  loader := none
  accessFlags := 33
  super := sup
  interfaces := #[]
  cf := none
  fields := #[]
  methods := #[]
  instanceTypes := #[]
  staticTypes := #[]
  resolved := #[]
  callSites := []
  init := .initialized
  statics := none
  mirror := none

def pool0 : Array CpInfo := pool [(5, u "<init>"), (0, u "()V"), (1, .class_ 10), (1, u "java/lang/Object")] 113

def k0c0 : Code := { maxStack := 0, maxLocals := 1, code := object_method_1_code, exceptionTable := #[], attributes := #[] }
def k0m0 : Method := { name := "<init>", desc := "()V", sig := { parameters := [], returnType := none }, accessFlags := 1, code := some k0c0 }
/-- java/lang/Object -/
def k0 : Class := { plain "java/lang/Object" none with
  accessFlags := 33
  interfaces := #[]
  cf := some (fileOf pool0 8 #[] #[{ accessFlags := 1, nameIndex := 5, descriptorIndex := 6, attributes := #[] }] 33 0 #[] #[])
  fields := #[]
  methods := #[k0m0]
  instanceTypes := #[]
  staticTypes := #[]
  resolved := Array.replicate 124 none
  statics := none }

def pool1 : Array CpInfo := pool [(2, .class_ 4), (1, u "java/lang/Object"), (0, u "<init>"), (0, u "()V"), (0, .integer 2147483647), (0, .integer 1000000), (0, .integer 1073741823), (0, .fieldref 11 12), (0, .class_ 13), (0, .nameAndType 14 15), (0, u "com/example/passagewise/passagewise/index/PassageParameters$Weighting"), (0, u "LEAD"), (0, u "Lcom/example/passagewise/passagewise/index/PassageParameters$Weighting;"), (0, .fieldref 11 17), (0, .nameAndType 18 15), (0, u "OCCURRENCES"), (0, .fieldref 20 21), (0, .class_ 22), (0, .nameAndType 23 24), (0, u "com/example/passagewise/passagewise/index/PassageParameters$Salience"), (0, u "TF_IDF"), (0, u "Lcom/example/passagewise/passagewise/index/PassageParameters$Salience;"), (0, .fieldref 20 26), (0, .nameAndType 27 24), (0, u "IDF"), (0, .class_ 29), (0, u "com/example/passagewise/passagewise/index/PassageParameters"), (0, .methodref 28 31), (0, .nameAndType 5 32), (0, u "(IILcom/example/passagewise/passagewise/index/PassageParameters$Weighting;Lcom/example/passagewise/passagewise/index/PassageParameters$Salience;)V"), (0, .methodref 28 34), (0, .nameAndType 35 36), (0, u "leadLength"), (0, u "(I)I"), (0, .class_ 38), (0, u "com/example/passagewise/passagewise/index/PassageParametersLeadLengthPinLaw"), (2, u "law"), (0, u "(IIII)Z")] 6

def k1m0 : Method := { name := "<init>", desc := "()V", sig := { parameters := [], returnType := none }, accessFlags := 1, code := none }
def k1c1 : Code := { maxStack := 6, maxLocals := 18, code := code, exceptionTable := #[], attributes := #[] }
def k1m1 : Method := { name := "law", desc := "(IIII)Z", sig := { parameters := [.int, .int, .int, .int], returnType := some .boolean }, accessFlags := 9, code := some k1c1 }
/-- com/example/passagewise/passagewise/index/PassageParametersLeadLengthPinLaw -/
def k1 : Class := { plain "com/example/passagewise/passagewise/index/PassageParametersLeadLengthPinLaw" (some 0) with
  accessFlags := 49
  interfaces := #[]
  cf := some (fileOf pool1 37 #[] #[{ accessFlags := 1, nameIndex := 5, descriptorIndex := 6, attributes := #[] }, { accessFlags := 9, nameIndex := 41, descriptorIndex := 42, attributes := #[] }] 49 2 #[] #[])
  fields := #[]
  methods := #[k1m0, k1m1]
  instanceTypes := #[]
  staticTypes := #[]
  resolved := Array.replicate 49 none
  statics := none }

def pool2 : Array CpInfo := pool [(1, .class_ 2), (0, u "java/lang/constant/Constable"), (0, .class_ 4), (0, u "java/lang/Object")] 6

/-- java/lang/constant/Constable -/
def k2 : Class := { plain "java/lang/constant/Constable" (some 0) with
  accessFlags := 1537
  interfaces := #[]
  cf := some (fileOf pool2 1 #[] #[] 1537 3 #[] #[])
  fields := #[]
  methods := #[]
  instanceTypes := #[]
  staticTypes := #[]
  resolved := Array.replicate 11 none
  statics := none }

def pool3 : Array CpInfo := pool [(1, .class_ 2), (0, u "java/lang/Comparable"), (0, .class_ 4), (0, u "java/lang/Object")] 7

/-- java/lang/Comparable -/
def k3 : Class := { plain "java/lang/Comparable" (some 0) with
  accessFlags := 1537
  interfaces := #[]
  cf := some (fileOf pool3 1 #[] #[] 1537 3 #[] #[])
  fields := #[]
  methods := #[]
  instanceTypes := #[]
  staticTypes := #[]
  resolved := Array.replicate 12 none
  statics := none }

def pool4 : Array CpInfo := pool [(1, .class_ 2), (0, u "java/io/Serializable"), (0, .class_ 4), (0, u "java/lang/Object")] 2

/-- java/io/Serializable -/
def k4 : Class := { plain "java/io/Serializable" (some 0) with
  accessFlags := 1537
  interfaces := #[]
  cf := some (fileOf pool4 1 #[] #[] 1537 3 #[] #[])
  fields := #[]
  methods := #[]
  instanceTypes := #[]
  staticTypes := #[]
  resolved := Array.replicate 7 none
  statics := none }

def pool5 : Array CpInfo := pool [(2, .class_ 4), (1, u "java/lang/Enum"), (0, u "name"), (0, u "Ljava/lang/String;"), (2, u "ordinal"), (0, u "I"), (1, .class_ 14), (1, u "java/lang/Object"), (4, u "hash"), (86, .class_ 108), (1, u "java/lang/Enum$EnumDesc"), (2, .class_ 112), (0, u "java/lang/constant/Constable"), (0, .class_ 114), (0, u "java/lang/Comparable"), (0, .class_ 116), (0, u "java/io/Serializable")] 87

/-- java/lang/Enum -/
def k5 : Class := { plain "java/lang/Enum" (some 0) with
  accessFlags := 1057
  interfaces := #[2, 3, 4]
  cf := some (fileOf pool5 2 #[.nestMembers #[106]] #[] 1057 12 #[111, 113, 115] #[{ accessFlags := 18, nameIndex := 5, descriptorIndex := 6, attributes := #[] }, { accessFlags := 18, nameIndex := 9, descriptorIndex := 10, attributes := #[] }, { accessFlags := 2, nameIndex := 19, descriptorIndex := 10, attributes := #[] }])
  fields := #[{ name := "name", type := (.object "java/lang/String"), accessFlags := 18, slot := 0, constantValue := 0 }, { name := "ordinal", type := .int, accessFlags := 18, slot := 1, constantValue := 0 }, { name := "hash", type := .int, accessFlags := 2, slot := 2, constantValue := 0 }]
  methods := #[]
  instanceTypes := #[(.object "java/lang/String"), .int, .int]
  staticTypes := #[]
  resolved := Array.replicate 204 none
  statics := none }

def pool6 : Array CpInfo := pool [(1, .class_ 2), (0, u "com/example/passagewise/passagewise/index/PassageParameters$Weighting"), (2, u "LEAD"), (0, u "Lcom/example/passagewise/passagewise/index/PassageParameters$Weighting;"), (2, u "OCCURRENCES"), (2, u "$VALUES"), (0, u "[Lcom/example/passagewise/passagewise/index/PassageParameters$Weighting;"), (6, .class_ 22), (1, u "java/lang/Enum"), (8, u "weightingName"), (0, u "Ljava/lang/String;"), (60, .class_ 94), (0, u "com/example/passagewise/passagewise/index/PassageParameters")] 21

/-- com/example/passagewise/passagewise/index/PassageParameters$Weighting -/
def k6 : Class := { plain "com/example/passagewise/passagewise/index/PassageParameters$Weighting" (some 5) with
  accessFlags := 16433
  interfaces := #[]
  cf := some (fileOf pool6 1 #[.nestHost 93] #[] 16433 20 #[] #[{ accessFlags := 16409, nameIndex := 5, descriptorIndex := 6, attributes := #[] }, { accessFlags := 16409, nameIndex := 9, descriptorIndex := 6, attributes := #[] }, { accessFlags := 18, nameIndex := 31, descriptorIndex := 32, attributes := #[] }, { accessFlags := 4122, nameIndex := 12, descriptorIndex := 13, attributes := #[] }])
  fields := #[{ name := "LEAD", type := (.object "com/example/passagewise/passagewise/index/PassageParameters$Weighting"), accessFlags := 16409, slot := 0, constantValue := 0 }, { name := "OCCURRENCES", type := (.object "com/example/passagewise/passagewise/index/PassageParameters$Weighting"), accessFlags := 16409, slot := 1, constantValue := 0 }, { name := "weightingName", type := (.object "java/lang/String"), accessFlags := 18, slot := 3, constantValue := 0 }, { name := "$VALUES", type := (.array (.object "com/example/passagewise/passagewise/index/PassageParameters$Weighting")), accessFlags := 4122, slot := 2, constantValue := 0 }]
  methods := #[]
  instanceTypes := #[(.object "java/lang/String"), .int, .int, (.object "java/lang/String")]
  staticTypes := #[(.object "com/example/passagewise/passagewise/index/PassageParameters$Weighting"), (.object "com/example/passagewise/passagewise/index/PassageParameters$Weighting"), (.array (.object "com/example/passagewise/passagewise/index/PassageParameters$Weighting"))]
  resolved := Array.replicate 116 none
  statics := some 0 }

def pool7 : Array CpInfo := pool [(1, .class_ 2), (0, u "com/example/passagewise/passagewise/index/PassageParameters$Salience"), (2, u "TF_IDF"), (0, u "Lcom/example/passagewise/passagewise/index/PassageParameters$Salience;"), (2, u "IDF"), (2, u "$VALUES"), (0, u "[Lcom/example/passagewise/passagewise/index/PassageParameters$Salience;"), (6, .class_ 22), (1, u "java/lang/Enum"), (8, u "salienceName"), (0, u "Ljava/lang/String;"), (60, .class_ 94), (0, u "com/example/passagewise/passagewise/index/PassageParameters")] 21

/-- com/example/passagewise/passagewise/index/PassageParameters$Salience -/
def k7 : Class := { plain "com/example/passagewise/passagewise/index/PassageParameters$Salience" (some 5) with
  accessFlags := 16433
  interfaces := #[]
  cf := some (fileOf pool7 1 #[.nestHost 93] #[] 16433 20 #[] #[{ accessFlags := 16409, nameIndex := 5, descriptorIndex := 6, attributes := #[] }, { accessFlags := 16409, nameIndex := 9, descriptorIndex := 6, attributes := #[] }, { accessFlags := 18, nameIndex := 31, descriptorIndex := 32, attributes := #[] }, { accessFlags := 4122, nameIndex := 12, descriptorIndex := 13, attributes := #[] }])
  fields := #[{ name := "TF_IDF", type := (.object "com/example/passagewise/passagewise/index/PassageParameters$Salience"), accessFlags := 16409, slot := 0, constantValue := 0 }, { name := "IDF", type := (.object "com/example/passagewise/passagewise/index/PassageParameters$Salience"), accessFlags := 16409, slot := 1, constantValue := 0 }, { name := "salienceName", type := (.object "java/lang/String"), accessFlags := 18, slot := 3, constantValue := 0 }, { name := "$VALUES", type := (.array (.object "com/example/passagewise/passagewise/index/PassageParameters$Salience")), accessFlags := 4122, slot := 2, constantValue := 0 }]
  methods := #[]
  instanceTypes := #[(.object "java/lang/String"), .int, .int, (.object "java/lang/String")]
  staticTypes := #[(.object "com/example/passagewise/passagewise/index/PassageParameters$Salience"), (.object "com/example/passagewise/passagewise/index/PassageParameters$Salience"), (.array (.object "com/example/passagewise/passagewise/index/PassageParameters$Salience"))]
  resolved := Array.replicate 116 none
  statics := some 1 }

def pool8 : Array CpInfo := pool [(1, .methodref 2 3), (0, .class_ 4), (0, .nameAndType 5 6), (0, u "java/lang/Object"), (0, u "<init>"), (0, u "()V"), (0, .class_ 8), (0, u "java/lang/Record")] 13

def k8c0 : Code := { maxStack := 1, maxLocals := 1, code := jdk_30_method_1_code, exceptionTable := #[], attributes := #[] }
def k8m0 : Method := { name := "<init>", desc := "()V", sig := { parameters := [], returnType := none }, accessFlags := 4, code := some k8c0 }
/-- java/lang/Record -/
def k8 : Class := { plain "java/lang/Record" (some 0) with
  accessFlags := 1057
  interfaces := #[]
  cf := some (fileOf pool8 7 #[] #[{ accessFlags := 4, nameIndex := 5, descriptorIndex := 6, attributes := #[] }] 1057 2 #[] #[])
  fields := #[]
  methods := #[k8m0]
  instanceTypes := #[]
  staticTypes := #[]
  resolved := Array.replicate 22 none
  statics := none }

def pool9 : Array CpInfo := pool [(1, .methodref 2 3), (0, .class_ 4), (0, .nameAndType 5 6), (0, u "java/lang/Record"), (0, u "<init>"), (0, u "()V"), (0, .class_ 8), (0, u "com/example/passagewise/passagewise/index/PassageParameters"), (0, .integer 1000000), (10, .string 21), (0, u "weighting"), (0, .methodref 23 24), (0, .class_ 25), (0, .nameAndType 26 27), (0, u "java/util/Objects"), (0, u "requireNonNull"), (0, u "(Ljava/lang/Object;Ljava/lang/String;)Ljava/lang/Object;"), (0, .string 29), (0, u "salience"), (0, .fieldref 7 31), (0, .nameAndType 32 33), (0, u "passages"), (0, u "I"), (0, .fieldref 7 35), (0, .nameAndType 36 33), (0, u "salientTerms"), (0, .fieldref 7 38), (0, .nameAndType 21 39), (0, u "Lcom/example/passagewise/passagewise/index/PassageParameters$Weighting;"), (0, .fieldref 7 41), (0, .nameAndType 29 42), (0, u "Lcom/example/passagewise/passagewise/index/PassageParameters$Salience;"), (1, .class_ 46), (1, u "com/example/passagewise/passagewise/index/PassageParameters$Weighting"), (2, .class_ 51), (1, u "com/example/passagewise/passagewise/index/PassageParameters$Salience"), (3, u "(IILcom/example/passagewise/passagewise/index/PassageParameters$Weighting;Lcom/example/passagewise/passagewise/index/PassageParameters$Salience;)V"), (27, u "DEFAULTS"), (0, u "Lcom/example/passagewise/passagewise/index/PassageParameters;"), (0, u "MAX_PASSAGES"), (7, u "leadLength"), (0, u "(I)I")] 43

def k9c0 : Code := { maxStack := 3, maxLocals := 5, code := prog_31_method_1_code, exceptionTable := #[], attributes := #[] }
def k9m0 : Method := { name := "<init>", desc := "(IILcom/example/passagewise/passagewise/index/PassageParameters$Weighting;Lcom/example/passagewise/passagewise/index/PassageParameters$Salience;)V", sig := { parameters := [.int, .int, (.object "com/example/passagewise/passagewise/index/PassageParameters$Weighting"), (.object "com/example/passagewise/passagewise/index/PassageParameters$Salience")], returnType := none }, accessFlags := 1, code := some k9c0 }
def k9c1 : Code := { maxStack := 4, maxLocals := 2, code := prog_31_method_4_code, exceptionTable := #[], attributes := #[] }
def k9m1 : Method := { name := "leadLength", desc := "(I)I", sig := { parameters := [.int], returnType := some .int }, accessFlags := 0, code := some k9c1 }
/-- com/example/passagewise/passagewise/index/PassageParameters -/
def k9 : Class := { plain "com/example/passagewise/passagewise/index/PassageParameters" (some 8) with
  accessFlags := 49
  interfaces := #[]
  cf := some (fileOf pool9 7 #[.nestMembers #[49, 44]] #[{ accessFlags := 1, nameIndex := 5, descriptorIndex := 55, attributes := #[] }, { accessFlags := 0, nameIndex := 93, descriptorIndex := 94, attributes := #[] }] 49 2 #[] #[{ accessFlags := 18, nameIndex := 32, descriptorIndex := 33, attributes := #[] }, { accessFlags := 18, nameIndex := 36, descriptorIndex := 33, attributes := #[] }, { accessFlags := 18, nameIndex := 21, descriptorIndex := 39, attributes := #[] }, { accessFlags := 18, nameIndex := 29, descriptorIndex := 42, attributes := #[] }, { accessFlags := 25, nameIndex := 83, descriptorIndex := 84, attributes := #[] }, { accessFlags := 25, nameIndex := 85, descriptorIndex := 33, attributes := #[] }])
  fields := #[{ name := "passages", type := .int, accessFlags := 18, slot := 0, constantValue := 0 }, { name := "salientTerms", type := .int, accessFlags := 18, slot := 1, constantValue := 0 }, { name := "weighting", type := (.object "com/example/passagewise/passagewise/index/PassageParameters$Weighting"), accessFlags := 18, slot := 2, constantValue := 0 }, { name := "salience", type := (.object "com/example/passagewise/passagewise/index/PassageParameters$Salience"), accessFlags := 18, slot := 3, constantValue := 0 }, { name := "DEFAULTS", type := (.object "com/example/passagewise/passagewise/index/PassageParameters"), accessFlags := 25, slot := 0, constantValue := 0 }, { name := "MAX_PASSAGES", type := .int, accessFlags := 25, slot := 1, constantValue := 0 }]
  methods := #[k9m0, k9m1]
  instanceTypes := #[.int, .int, (.object "com/example/passagewise/passagewise/index/PassageParameters$Weighting"), (.object "com/example/passagewise/passagewise/index/PassageParameters$Salience")]
  staticTypes := #[(.object "com/example/passagewise/passagewise/index/PassageParameters"), .int]
  resolved := Array.replicate 138 none
  statics := none }

def pool10 : Array CpInfo := pool [(2, .class_ 4), (1, u "java/lang/CharSequence"), (42, .class_ 48), (0, u "java/lang/CharSequence$1CodePointIterator"), (10, .class_ 60), (0, u "java/lang/CharSequence$1CharIterator"), (5, .class_ 67), (0, u "java/lang/Object")] 63

/-- java/lang/CharSequence -/
def k10 : Class := { plain "java/lang/CharSequence" (some 0) with
  accessFlags := 1537
  interfaces := #[]
  cf := some (fileOf pool10 2 #[.nestMembers #[47, 59]] #[] 1537 66 #[] #[])
  fields := #[]
  methods := #[]
  instanceTypes := #[]
  staticTypes := #[]
  resolved := Array.replicate 131 none
  statics := none }

def pool11 : Array CpInfo := pool [(1, .class_ 2), (0, u "java/lang/constant/ConstantDesc"), (0, .class_ 4), (0, u "java/lang/Object")] 32

/-- java/lang/constant/ConstantDesc -/
def k11 : Class := { plain "java/lang/constant/ConstantDesc" (some 0) with
  accessFlags := 1537
  interfaces := #[]
  cf := some (fileOf pool11 1 #[] #[] 1537 3 #[] #[])
  fields := #[]
  methods := #[]
  instanceTypes := #[]
  staticTypes := #[]
  resolved := Array.replicate 37 none
  statics := none }

def pool12 : Array CpInfo := pool [(2, .class_ 4), (1, u "java/lang/Object"), (0, u "<init>"), (0, u "()V"), (3, .class_ 12), (1, u "java/lang/String"), (0, u "value"), (0, u "[B"), (2, u "coder"), (0, u "B"), (2, u "hash"), (0, u "I"), (2, u "hashIsZero"), (0, u "Z"), (13, u "COMPACT_STRINGS"), (534, .class_ 576), (0, u "java/lang/CharSequence"), (22, u "CASE_INSENSITIVE_ORDER"), (0, u "Ljava/util/Comparator;"), (500, u "serialPersistentFields"), (0, u "[Ljava/io/ObjectStreamField;"), (0, .class_ 1104), (0, u "java/lang/String$CaseInsensitiveComparator"), (1, .class_ 1107), (0, u "java/io/Serializable"), (0, .class_ 1109), (0, u "java/lang/Comparable"), (0, .class_ 1111), (0, u "java/lang/constant/Constable"), (0, .class_ 1113), (0, u "java/lang/constant/ConstantDesc"), (2, u "serialVersionUID"), (0, u "J"), (3, u "REPL"), (0, u "C"), (2, u "LATIN1"), (1, u "UTF16")] 323

def k12m0 : Method := { name := "<init>", desc := "()V", sig := { parameters := [], returnType := none }, accessFlags := 1, code := none }
/-- java/lang/String -/
def k12 : Class := { plain "java/lang/String" (some 0) with
  accessFlags := 49
  interfaces := #[4, 3, 10, 2, 11]
  cf := some (fileOf pool12 10 #[.nestMembers #[1103]] #[{ accessFlags := 1, nameIndex := 5, descriptorIndex := 6, attributes := #[] }] 49 2 #[1106, 1108, 575, 1110, 1112] #[{ accessFlags := 18, nameIndex := 13, descriptorIndex := 14, attributes := #[] }, { accessFlags := 18, nameIndex := 17, descriptorIndex := 18, attributes := #[] }, { accessFlags := 2, nameIndex := 21, descriptorIndex := 22, attributes := #[] }, { accessFlags := 2, nameIndex := 25, descriptorIndex := 26, attributes := #[] }, { accessFlags := 26, nameIndex := 1116, descriptorIndex := 1117, attributes := #[] }, { accessFlags := 24, nameIndex := 40, descriptorIndex := 26, attributes := #[] }, { accessFlags := 26, nameIndex := 1101, descriptorIndex := 1102, attributes := #[] }, { accessFlags := 26, nameIndex := 1121, descriptorIndex := 1122, attributes := #[] }, { accessFlags := 25, nameIndex := 599, descriptorIndex := 600, attributes := #[] }, { accessFlags := 24, nameIndex := 1125, descriptorIndex := 18, attributes := #[] }, { accessFlags := 24, nameIndex := 1127, descriptorIndex := 18, attributes := #[] }])
  fields := #[{ name := "value", type := (.array .byte), accessFlags := 18, slot := 0, constantValue := 0 }, { name := "coder", type := .byte, accessFlags := 18, slot := 1, constantValue := 0 }, { name := "hash", type := .int, accessFlags := 2, slot := 2, constantValue := 0 }, { name := "hashIsZero", type := .boolean, accessFlags := 2, slot := 3, constantValue := 0 }, { name := "serialVersionUID", type := .long, accessFlags := 26, slot := 0, constantValue := 0 }, { name := "COMPACT_STRINGS", type := .boolean, accessFlags := 24, slot := 1, constantValue := 0 }, { name := "serialPersistentFields", type := (.array (.object "java/io/ObjectStreamField")), accessFlags := 26, slot := 2, constantValue := 0 }, { name := "REPL", type := .char, accessFlags := 26, slot := 3, constantValue := 0 }, { name := "CASE_INSENSITIVE_ORDER", type := (.object "java/util/Comparator"), accessFlags := 25, slot := 4, constantValue := 0 }, { name := "LATIN1", type := .byte, accessFlags := 24, slot := 5, constantValue := 0 }, { name := "UTF16", type := .byte, accessFlags := 24, slot := 6, constantValue := 0 }]
  methods := #[k12m0]
  instanceTypes := #[(.array .byte), .byte, .int, .boolean]
  staticTypes := #[.long, .boolean, (.array (.object "java/io/ObjectStreamField")), .char, (.object "java/util/Comparator"), .byte, .byte]
  resolved := Array.replicate 1451 none
  statics := none }

def pool13 : Array CpInfo := pool [(2, .class_ 4), (1, u "java/lang/Object"), (0, u "<init>"), (0, u "()V"), (35, .class_ 44), (1, u "java/util/Objects"), (0, u "requireNonNull"), (48, u "(Ljava/lang/Object;Ljava/lang/String;)Ljava/lang/Object;")] 89

def k13m0 : Method := { name := "<init>", desc := "()V", sig := { parameters := [], returnType := none }, accessFlags := 2, code := none }
def k13c1 : Code := { maxStack := 3, maxLocals := 2, code := jdk_31_method_11_code, exceptionTable := #[], attributes := #[] }
def k13m1 : Method := { name := "requireNonNull", desc := "(Ljava/lang/Object;Ljava/lang/String;)Ljava/lang/Object;", sig := { parameters := [(.object "java/lang/Object"), (.object "java/lang/String")], returnType := some (.object "java/lang/Object") }, accessFlags := 9, code := some k13c1 }
/-- java/util/Objects -/
def k13 : Class := { plain "java/util/Objects" (some 0) with
  accessFlags := 49
  interfaces := #[]
  cf := some (fileOf pool13 42 #[] #[{ accessFlags := 2, nameIndex := 5, descriptorIndex := 6, attributes := #[] }, { accessFlags := 9, nameIndex := 45, descriptorIndex := 94, attributes := #[] }] 49 2 #[] #[])
  fields := #[]
  methods := #[k13m0, k13m1]
  instanceTypes := #[]
  staticTypes := #[]
  resolved := Array.replicate 184 none
  statics := none }

def pool14 : Array CpInfo := pool [(1, u "java/lang/Cloneable"), (0, .class_ 1), (0, u "java/lang/Object"), (0, .class_ 3)] 3

/-- java/lang/Cloneable -/
def k14 : Class := { plain "java/lang/Cloneable" (some 0) with
  accessFlags := 1537
  interfaces := #[]
  cf := some (fileOf pool14 2 #[] #[] 1537 4 #[] #[])
  fields := #[]
  methods := #[]
  instanceTypes := #[]
  staticTypes := #[]
  resolved := Array.replicate 8 none
  statics := none }

/-- the primitive byte -/
def k15 : Class := { plain "byte" none with kind := .primitive 'B', accessFlags := 0x411 }
/-- [B -/
def k16 : Class := { plain "[B" (some 0) with kind := .array 15 .byte, interfaces := #[14, 4], accessFlags := 1041 }

/-- the primitive int -/
def k17 : Class := { plain "int" none with kind := .primitive 'I', accessFlags := 0x411 }
/-- [I -/
def k18 : Class := { plain "[I" (some 0) with kind := .array 17 .int, interfaces := #[14, 4], accessFlags := 1041 }

def heap : Heap := #[{ cls := 6, slots := #[.ref 2, .ref 3, .null], vm := .statics 6 },
  { cls := 7, slots := #[.ref 4, .ref 5, .null], vm := .statics 7 },
  { cls := 6, slots := #[.null, .int 0, .int 0, .null], vm := .none },
  { cls := 6, slots := #[.null, .int 1, .int 0, .null], vm := .none },
  { cls := 7, slots := #[.null, .int 0, .int 0, .null], vm := .none },
  { cls := 7, slots := #[.null, .int 1, .int 0, .null], vm := .none }]
def classes : Array Class := #[k0, k1, k2, k3, k4, k5, k6, k7, k8, k9, k10, k11, k12, k13, k14, k15, k16, k17, k18]
def interned : List (Array UInt16 × Addr) := []
def slotsUsed : Nat := 22
def theMethod : MethodId := ⟨1, 1⟩
def args0 : Array Value := #[.int 5, .int 5, .int 5, .int 3]
def aboutOver (below : List Frame) : State where
  vm := { classes := classes, interned := interned.toArray }
  heap := heap
  slotsUsed := slotsUsed
  threads := #[{ frames := .invoking theMethod args0 :: below }]
def below0 : List Frame := [.native { method := ⟨0, 0⟩, args := #[] }]
def about1 : State := aboutOver below0
def p0 : Program := .bare "" "" ""
def e0 : Env := launch0.env 0 0 0
theorem w_frames : about1.frames = Frame.invoking theMethod args0 :: below0 := rfl
set_option maxRecDepth 65536 in
theorem w_args : argsFit about1.vm theMethod args0 = true := by decide +kernel
set_option maxRecDepth 65536 in
theorem w_heap : heapFits about1 = true := by decide +kernel
set_option maxRecDepth 65536 in
theorem w_runnable : about1.curStatus? = some .runnable := by decide +kernel
set_option maxRecDepth 65536 in
theorem w_alone : about1.alone = true := by decide +kernel
set_option maxRecDepth 65536 in
theorem w_named : about1.methodNamed? x = some theMethod := by decide +kernel
set_option maxRecDepth 65536 in
theorem w_hears : about1.hears theMethod below0 = true := by decide +kernel
set_option maxRecDepth 65536 in
theorem w_ripe : about1.ripe theMethod args0 below0 = true := by decide +kernel
theorem w_running : about1.status = .running := rfl
set_option maxRecDepth 65536 in
theorem w_room : about1.hasRoom e0.platform room_1 = true :=
  launch0.hasRoom_least _ room_1 (by decide +kernel) (by decide +kernel) (by decide +kernel) (by decide +kernel) (by decide +kernel) (by decide +kernel)
theorem allAtoms_all (ts : List Jvm.Cond) (a : Array Jvm.Value) (st : Jvm.State) : (allAtoms ts).before a st = ts.all (fun c => c.before a st) := by
  induction ts with
  | nil => rfl
  | cons c t ih =>
    show (Jvm.Cond.and c (allAtoms t)).before a st = _
    rw [Jvm.Cond.before_and, ih, List.all_cons]
def words1 : List Jvm.Cond := Jvm.Cond.code x code maxLocals ret :: tables_1
/-- a 'code' word, met by the world's own term for the bytes: nothing is compared byte by byte -/
theorem code_word {y : MethodName} {bytes : ByteArray} {mx : Nat} {rt : Option FieldType} {a : Array Value} {s : State} {m : MethodId} {meth : Method} {c : Code} (h1 : s.methodNamed? y = some m) (h2 : s.vm.method? m = some meth) (h3 : meth.code = some c) (h4 : c.code = bytes)
    (h5 : (c.maxLocals == mx && c.exceptionTable.isEmpty && decide (c.maxStack ≤ mostOperands) && decide (meth.sig.returnType = rt) && !meth.locks && decide (parseMethodDescriptor y.desc = some meth.sig)) = true) : (Jvm.Cond.code y bytes mx rt).before a s = true := by
  simp only [Bool.and_eq_true, beq_iff_eq, Bool.not_eq_true', decide_eq_true_eq] at h5
  obtain ⟨⟨⟨⟨⟨g1, g2⟩, g3⟩, g4⟩, g5⟩, g6⟩ := h5
  simp [Cond.before, Cond.holds, Cond.value, h1, h2, h3, h4, g1, g2, g3, g4, g5, g6]
def isCode : Jvm.Cond → Bool
  | .code _ _ _ _ => true
  | _ => false
theorem all_split {L : List Jvm.Cond} {P : Jvm.Cond → Bool} (h1 : L.all (fun c => isCode c || P c) = true) (h2 : ∀ c ∈ L.filter isCode, P c = true) : L.all P = true := by
  refine List.all_eq_true.mpr fun c hc => ?_
  have h := List.all_eq_true.mp h1 c hc
  rcases Bool.eq_false_or_eq_true (isCode c) with hi | hi
  · exact h2 c (List.mem_filter.mpr ⟨hc, hi⟩)
  · simpa [hi] using h
set_option maxRecDepth 65536 in
theorem w_c0 : (Jvm.Cond.code x code maxLocals ret).before args0 about1 = true := code_word (m := ⟨1, 1⟩) (meth := k1m1) (c := k1c1) (by decide +kernel) rfl rfl rfl (by decide +kernel)
set_option maxRecDepth 65536 in
theorem w_c1 : (Jvm.Cond.code ({ cls := "com/example/passagewise/passagewise/index/PassageParameters", name := "<init>", desc := "(IILcom/example/passagewise/passagewise/index/PassageParameters$Weighting;Lcom/example/passagewise/passagewise/index/PassageParameters$Salience;)V" } : Jvm.MethodName) prog_31_method_1_code (5 : Nat) (Option.none : Option Jvm.ClassFile.FieldType)).before args0 about1 = true := code_word (m := ⟨9, 0⟩) (meth := k9m0) (c := k9c0) (by decide +kernel) rfl rfl rfl (by decide +kernel)
set_option maxRecDepth 65536 in
theorem w_c2 : (Jvm.Cond.code ({ cls := "java/lang/Record", name := "<init>", desc := "()V" } : Jvm.MethodName) jdk_30_method_1_code (1 : Nat) (Option.none : Option Jvm.ClassFile.FieldType)).before args0 about1 = true := code_word (m := ⟨8, 0⟩) (meth := k8m0) (c := k8c0) (by decide +kernel) rfl rfl rfl (by decide +kernel)
set_option maxRecDepth 65536 in
theorem w_c3 : (Jvm.Cond.code ({ cls := "java/lang/Object", name := "<init>", desc := "()V" } : Jvm.MethodName) object_method_1_code (1 : Nat) (Option.none : Option Jvm.ClassFile.FieldType)).before args0 about1 = true := code_word (m := ⟨0, 0⟩) (meth := k0m0) (c := k0c0) (by decide +kernel) rfl rfl rfl (by decide +kernel)
set_option maxRecDepth 65536 in
theorem w_c4 : (Jvm.Cond.code ({ cls := "java/util/Objects", name := "requireNonNull", desc := "(Ljava/lang/Object;Ljava/lang/String;)Ljava/lang/Object;" } : Jvm.MethodName) jdk_31_method_11_code (2 : Nat) (Option.some (Jvm.ClassFile.FieldType.object "java/lang/Object"))).before args0 about1 = true := code_word (m := ⟨13, 1⟩) (meth := k13m1) (c := k13c1) (by decide +kernel) rfl rfl rfl (by decide +kernel)
set_option maxRecDepth 65536 in
theorem w_c5 : (Jvm.Cond.code ({ cls := "com/example/passagewise/passagewise/index/PassageParameters", name := "leadLength", desc := "(I)I" } : Jvm.MethodName) prog_31_method_4_code (2 : Nat) (Option.some Jvm.ClassFile.FieldType.int)).before args0 about1 = true := code_word (m := ⟨9, 1⟩) (meth := k9m1) (c := k9c1) (by decide +kernel) rfl rfl rfl (by decide +kernel)
def codes1 : List Jvm.Cond := [Jvm.Cond.code x code maxLocals ret, Jvm.Cond.code ({ cls := "com/example/passagewise/passagewise/index/PassageParameters", name := "<init>", desc := "(IILcom/example/passagewise/passagewise/index/PassageParameters$Weighting;Lcom/example/passagewise/passagewise/index/PassageParameters$Salience;)V" } : Jvm.MethodName) prog_31_method_1_code (5 : Nat) (Option.none : Option Jvm.ClassFile.FieldType), Jvm.Cond.code ({ cls := "java/lang/Record", name := "<init>", desc := "()V" } : Jvm.MethodName) jdk_30_method_1_code (1 : Nat) (Option.none : Option Jvm.ClassFile.FieldType), Jvm.Cond.code ({ cls := "java/lang/Object", name := "<init>", desc := "()V" } : Jvm.MethodName) object_method_1_code (1 : Nat) (Option.none : Option Jvm.ClassFile.FieldType), Jvm.Cond.code ({ cls := "java/util/Objects", name := "requireNonNull", desc := "(Ljava/lang/Object;Ljava/lang/String;)Ljava/lang/Object;" } : Jvm.MethodName) jdk_31_method_11_code (2 : Nat) (Option.some (Jvm.ClassFile.FieldType.object "java/lang/Object")), Jvm.Cond.code ({ cls := "com/example/passagewise/passagewise/index/PassageParameters", name := "leadLength", desc := "(I)I" } : Jvm.MethodName) prog_31_method_4_code (2 : Nat) (Option.some Jvm.ClassFile.FieldType.int)]
set_option maxRecDepth 65536 in
theorem codes_eq : words1.filter isCode = codes1 := rfl
theorem w_codes : ∀ c ∈ words1.filter isCode, c.before args0 about1 = true := by
  rw [codes_eq]
  intro c hc
  simp only [codes1, List.mem_cons, List.not_mem_nil, or_false] at hc
  rcases hc with rfl | rfl | rfl | rfl | rfl | rfl
  · exact w_c0
  · exact w_c1
  · exact w_c2
  · exact w_c3
  · exact w_c4
  · exact w_c5
set_option maxRecDepth 65536 in
theorem w_t1 : (words1.take 24).all (fun c => isCode c || c.before args0 about1) = true := by decide +kernel
set_option maxRecDepth 65536 in
theorem w_t2 : ((words1.drop 24).take 24).all (fun c => isCode c || c.before args0 about1) = true := by decide +kernel
set_option maxRecDepth 65536 in
theorem w_t3 : ((words1.drop 24).drop 24).all (fun c => isCode c || c.before args0 about1) = true := by decide +kernel
theorem w_tables : (allAtoms (Jvm.Cond.code x code maxLocals ret :: tables_1)).before args0 about1 = true := by
  rw [allAtoms_all]
  show words1.all (fun c => c.before args0 about1) = true
  refine all_split ?_ w_codes
  rw [← List.take_append_drop 24 words1, List.all_append, w_t1, ← List.take_append_drop 24 (words1.drop 24), List.all_append, w_t2, w_t3]
  rfl
set_option maxRecDepth 65536 in
theorem w_case : (Jvm.Cond.and given_1 narrow_1).before args0 about1 = true := by decide +kernel
theorem w_applies : (headSpec (Jvm.Cond.code x code maxLocals ret :: tables_1) room_1).applies x e0.platform about1 = true :=
  (Spec.applies_iff w_frames).mpr ⟨w_running, w_runnable, w_alone, w_named, w_hears, w_ripe, w_room, w_tables⟩
theorem atStart : AtStart classFile x code maxLocals ret World_1 tables_1 room_1 Calls_1 rest_1 Pre_1 launch0 p0 e0 about1 theMethod args0 below0 :=
  ⟨lists_1, trivial, launch0.admits_env _ _ _, launch0.least_env, fairChoices_fair.cas, fairChoices_fair.clock, w_frames, w_args, w_heap, w_applies, trivial, trivial, w_case⟩
end start1
theorem witness_1 : WitnessClaimed_1 := ⟨start1.p0, start1.e0, start1.about1, start1.theMethod, start1.args0, start1.below0, start1.atStart⟩
end Jvm.Pilot.@@N@@
