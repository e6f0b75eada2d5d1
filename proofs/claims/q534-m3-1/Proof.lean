import JvmDerived
import JvmDerived.Pilot.@@N@@Statement
import JvmDerived.Pilot.@@N@@Code
set_option linter.unusedVariables false
set_option linter.unusedSimpArgs false
namespace Jvm.RoadKit
open Sem ClassFile Op Lib Jvm.Stand Jvm.Free Jvm.LawKit
section Own
/-- from here the run comes to an end of which P holds -/
def own_Go (p : Program) (e : Env) (below : List Frame) (P : Outcome → State → Prop) (t : State) : Prop :=
  ∃ s₂ o, Steps p.tables e below t s₂ ∧ s₂.status = .running ∧ Ended s₂ below o ∧ P o s₂
variable {p : Program} {l : Launch} {e : Env} {R : Room} {s : State} {m : MethodId} {args : Array Value} {below : List Frame} {meth : Method} {c : Code} {T : State} {locs : List Loc} {cells slots : Nat}
theorem own_Go.st {P : Outcome → State → Prop} {t t' : State} (h : ∀ target, Steps p.tables e below t' target → Steps p.tables e below t target) (k : own_Go p e below P t') : own_Go p e below P t := by
  obtain ⟨a, b, h1, h2⟩ := k
  exact ⟨a, b, h _ h1, h2⟩
variable {C N : Nat} {Q : Option Value → Heap → List Loc → Prop}
theorem own_ret {v : Option Value} {g : JFrame} (X : Stand p l e R s m args below meth c T locs cells slots) (hlk : meth.locks = false) (hv : meth.sig.returnType = none → v = none)
    (hl : ∀ fs : List Frame, (∀ (f : JFrame) (acts : List Action), f.method = m → f.locked = none → f.entered = [] → (doReturn e (T.setTop f) acts v).1 = T.setFrames fs) → Steps p.tables e below (T.setTop g) (T.setFrames fs))
    (hc : cells ≤ C) (hn : slots ≤ N) (q : Q v T.heap locs) : own_Go p e below (fun o U' => ∃ v L, o = .returned v ∧ Q v U'.heap L ∧ FrameEnd s o U' L C N) (T.setTop g) := by
  obtain ⟨fs, hr, hrun, hended, hW, hsame⟩ := X.leave (v := v) hv hlk
  exact ⟨_, _, hl fs hr, hrun, hended, _, _, rfl, q, ⟨_, rfl⟩, hW, hsame.mono hc hn⟩
theorem own_retI {pc : Nat} {Ls : Array Slot} {z : Int32} {rest : List Value} (X : Stand p l e R s m args below meth c T locs cells slots) (hx : p.tables.exec = Jvm.exec) (hlk : meth.locks = false) (hret : meth.sig.returnType = some .int) (hd : decode c.code pc = .ok (.ireturn, 1))
    (hc : cells ≤ C) (hn : slots ≤ N) (q : Q (some (.int z)) T.heap locs) : own_Go p e below (fun o U' => ∃ v L, o = .returned v ∧ Q v U'.heap L ∧ FrameEnd s o U' L C N) (T.setTop (mkF m pc Ls (.int z :: rest))) :=
  own_ret X hlk (fun h => by rw [hret] at h; cases h) (fun fs hr => retOut X hx hret rfl (Or.inl ⟨rfl, Or.inl rfl, z, rfl⟩) hd hr) hc hn q
theorem own_retN {t : FieldType} {pc : Nat} {Ls : Array Slot} {z : Int32} {rest : List Value} (X : Stand p l e R s m args below meth c T locs cells slots) (hx : p.tables.exec = Jvm.exec) (hlk : meth.locks = false) (hret : meth.sig.returnType = some t) (ht : t = .boolean ∨ t = .byte ∨ t = .char ∨ t = .short) (hz : nar t z = z) (hd : decode c.code pc = .ok (.ireturn, 1))
    (hc : cells ≤ C) (hn : slots ≤ N) (q : Q (some (.int z)) T.heap locs) : own_Go p e below (fun o U' => ∃ v L, o = .returned v ∧ Q v U'.heap L ∧ FrameEnd s o U' L C N) (T.setTop (mkF m pc Ls (.int z :: rest))) :=
  own_ret X hlk (fun h => by rw [hret] at h; cases h) (fun fs hr => retN X hx (z := z) hret ht hd (by rw [hz]; exact hr)) hc hn q
theorem own_retZ {pc : Nat} {Ls : Array Slot} {z : Int32} {rest : List Value} (X : Stand p l e R s m args below meth c T locs cells slots) (hx : p.tables.exec = Jvm.exec) (hlk : meth.locks = false) (hret : meth.sig.returnType = some .boolean) (hz : z = 0 ∨ z = 1) (hd : decode c.code pc = .ok (.ireturn, 1))
    (hc : cells ≤ C) (hn : slots ≤ N) (q : Q (some (.int z)) T.heap locs) : own_Go p e below (fun o U' => ∃ v L, o = .returned v ∧ Q v U'.heap L ∧ FrameEnd s o U' L C N) (T.setTop (mkF m pc Ls (.int z :: rest))) :=
  own_retN X hx hlk hret (Or.inl rfl) (by rcases hz with rfl | rfl <;> rfl) hd hc hn q
theorem own_retJ {pc : Nat} {Ls : Array Slot} {z : Int64} {rest : List Value} (X : Stand p l e R s m args below meth c T locs cells slots) (hx : p.tables.exec = Jvm.exec) (hlk : meth.locks = false) (hret : meth.sig.returnType = some .long) (hd : decode c.code pc = .ok (.lreturn, 1))
    (hc : cells ≤ C) (hn : slots ≤ N) (q : Q (some (.long z)) T.heap locs) : own_Go p e below (fun o U' => ∃ v L, o = .returned v ∧ Q v U'.heap L ∧ FrameEnd s o U' L C N) (T.setTop (mkF m pc Ls (.long z :: rest))) :=
  own_ret X hlk (fun h => by rw [hret] at h; cases h) (fun fs hr => retOut X hx hret rfl (Or.inr (Or.inl ⟨rfl, rfl, z, rfl⟩)) hd hr) hc hn q
theorem own_retD {pc : Nat} {Ls : Array Slot} {z : UInt64} {rest : List Value} (X : Stand p l e R s m args below meth c T locs cells slots) (hx : p.tables.exec = Jvm.exec) (hlk : meth.locks = false) (hret : meth.sig.returnType = some .double) (hd : decode c.code pc = .ok (.dreturn, 1))
    (hc : cells ≤ C) (hn : slots ≤ N) (q : Q (some (.double z)) T.heap locs) : own_Go p e below (fun o U' => ∃ v L, o = .returned v ∧ Q v U'.heap L ∧ FrameEnd s o U' L C N) (T.setTop (mkF m pc Ls (.double z :: rest))) :=
  own_ret X hlk (fun h => by rw [hret] at h; cases h) (fun fs hr => retOut X hx hret rfl (Or.inr (Or.inr (Or.inl ⟨rfl, rfl, z, rfl⟩))) hd hr) hc hn q
theorem own_retA {t : FieldType} {pc : Nat} {Ls : Array Slot} {w : Value} {rest : List Value} (X : Stand p l e R s m args below meth c T locs cells slots) (hx : p.tables.exec = Jvm.exec) (hlk : meth.locks = false) (hret : meth.sig.returnType = some t) (ht : t.isReference = true) (hw : w.isRef = true) (hd : decode c.code pc = .ok (.areturn, 1))
    (hc : cells ≤ C) (hn : slots ≤ N) (q : Q (some w) T.heap locs) : own_Go p e below (fun o U' => ∃ v L, o = .returned v ∧ Q v U'.heap L ∧ FrameEnd s o U' L C N) (T.setTop (mkF m pc Ls (w :: rest))) :=
  own_ret X hlk (fun h => by rw [hret] at h; cases h) (fun fs hr => retOut X hx hret (by rcases ref_cases hw with rfl | ⟨z, rfl⟩ <;> cases t <;> rfl) (Or.inr (Or.inr (Or.inr (Or.inr ⟨rfl, ht, hw⟩)))) hd hr) hc hn q
theorem own_retV {pc : Nat} {Ls : Array Slot} (X : Stand p l e R s m args below meth c T locs cells slots) (hx : p.tables.exec = Jvm.exec) (hlk : meth.locks = false) (hret : meth.sig.returnType = none) (hd : decode c.code pc = .ok (.return_, 1))
    (hc : cells ≤ C) (hn : slots ≤ N) (q : Q none T.heap locs) : own_Go p e below (fun o U' => ∃ v L, o = .returned v ∧ Q v U'.heap L ∧ FrameEnd s o U' L C N) (T.setTop (mkF m pc Ls [])) :=
  own_ret X hlk (fun _ => rfl) (fun fs hr => X.returnOut hx hret hd hr) hc hn q
theorem own_retW {vm0 : Vm} {k0 : Nat} {v : Option Value} {g : JFrame} (X : Stand p l e R (s.setVm vm0) m args below meth c T locs cells slots) (hlk : meth.locks = false) (hv : meth.sig.returnType = none → v = none) (hS : s.Since vm0 k0) (hk : k0 ≤ T.heap.size)
    (hl : ∀ fs : List Frame, (∀ (f : JFrame) (acts : List Action), f.method = m → f.locked = none → f.entered = [] → (doReturn e (T.setTop f) acts v).1 = T.setFrames fs) → Steps p.tables e below (T.setTop g) (T.setFrames fs))
    (hc : cells ≤ C) (hn : slots ≤ N) (q : Q v T.heap locs) : own_Go p e below (fun o U' => ∃ v L, o = .returned v ∧ Q v U'.heap L ∧ ReturnedEndW s o U' L C N) (T.setTop g) := by
  obtain ⟨fs, hr, hrun, hended, h1, h2, h3, h4⟩ := X.leaveW hS hk (v := v) hv hlk
  exact ⟨_, _, hl fs hr, hrun, hended, _, _, rfl, q, h1, h2, h3, h4.mono hc hn⟩
theorem own_retWV {vm0 : Vm} {k0 : Nat} {pc : Nat} {Ls : Array Slot} (X : Stand p l e R (s.setVm vm0) m args below meth c T locs cells slots) (hx : p.tables.exec = Jvm.exec) (hlk : meth.locks = false) (hret : meth.sig.returnType = none) (hS : s.Since vm0 k0) (hk : k0 ≤ T.heap.size) (hd : decode c.code pc = .ok (.return_, 1))
    (hc : cells ≤ C) (hn : slots ≤ N) (q : Q none T.heap locs) : own_Go p e below (fun o U' => ∃ v L, o = .returned v ∧ Q v U'.heap L ∧ ReturnedEndW s o U' L C N) (T.setTop (mkF m pc Ls [])) :=
  own_retW X hlk (fun _ => rfl) hS hk (fun fs hr => X.returnOut hx hret hd hr) hc hn q
theorem own_retWZ {vm0 : Vm} {k0 : Nat} {pc : Nat} {Ls : Array Slot} {z : Int32} {rest : List Value} (X : Stand p l e R (s.setVm vm0) m args below meth c T locs cells slots) (hx : p.tables.exec = Jvm.exec) (hlk : meth.locks = false) (hret : meth.sig.returnType = some .boolean) (hS : s.Since vm0 k0) (hk : k0 ≤ T.heap.size) (hz : z = 0 ∨ z = 1) (hd : decode c.code pc = .ok (.ireturn, 1))
    (hc : cells ≤ C) (hn : slots ≤ N) (q : Q (some (.int z)) T.heap locs) : own_Go p e below (fun o U' => ∃ v L, o = .returned v ∧ Q v U'.heap L ∧ ReturnedEndW s o U' L C N) (T.setTop (mkF m pc Ls (.int z :: rest))) :=
  own_retW X hlk (fun h => by rw [hret] at h; cases h) hS hk (fun fs hr => retN X hx (z := z) (t := .boolean) hret (Or.inl rfl) hd (by rw [show nar .boolean z = z by rcases hz with rfl | rfl <;> rfl]; exact hr)) hc hn q
/-- an array: its length, and what each place holds -/
def own_Ar (Z : State) (h : Heap) (a : Addr) (ty : FieldType) (n : Nat) (f : Nat → Value) : Prop := ∃ c : Cell, Arr Z h a c ty ∧ c.slots.size = n ∧ ∀ j, j < n → c.slots[j]? = some (f j)
section OwnAr
variable {Z : State} {h h' : Heap} {a b : Addr} {ty : FieldType} {n : Nat} {f f' : Nat → Value} {ws : List Addr}
theorem own_Ar.lt (F : own_Ar Z h a ty n f) : a < h.size := by obtain ⟨c, A, -⟩ := F; exact A.lt
theorem own_Ar.ext (F : own_Ar Z h a ty n f) (E : Ext h h') : own_Ar Z h' a ty n f := by obtain ⟨c, A, r⟩ := F; exact ⟨c, A.ext E, r⟩
theorem own_Ar.other {sl : Nat} {v : Value} (F : own_Ar Z h b ty n f) (W : Wr h h' a sl v) (q : b ≠ a) : own_Ar Z h' b ty n f := by obtain ⟨c, A, r⟩ := F; exact ⟨c, A.other W q, r⟩
theorem own_Ar.keep (F : own_Ar Z h a ty n f) (K : Keep h h' ws) (q : a ∉ ws) : own_Ar Z h' a ty n f := by obtain ⟨c, A, r⟩ := F; exact ⟨c, ⟨K.2.1 a c A.1 q, A.2⟩, r⟩
theorem own_Ar.congr (F : own_Ar Z h a ty n f) (q : ∀ j, j < n → f j = f' j) : own_Ar Z h a ty n f' := by obtain ⟨c, A, S, r⟩ := F; exact ⟨c, A, S, fun j hj => by rw [← q j hj]; exact r j hj⟩
theorem own_Ar.new {cA : ClassId} {z : Int32} (A : Arr Z h a (newA cA ty z) ty) (hz : z.toInt = (n : Int)) : own_Ar Z h a ty n (fun _ => defaultValue ty) := by
  have e : z.toNatClampNeg = n := by show z.toInt.toNat = n; omega
  exact ⟨_, A, by rw [sz_new, e], fun j hj => by simp [newA, e, hj]⟩
theorem own_Ar.set {i : Nat} {v : Value} (F : own_Ar Z h a ty n f) (W : Wr h h' a i v) : own_Ar Z h' a ty n (fun j => if j = i then v else f j) := by
  obtain ⟨c, A, S, r⟩ := F
  refine ⟨c.setSlot i v, A.same W, by rw [sz_set, S], fun j hj => ?_⟩
  show (c.slots.setIfInBounds i v)[j]? = _
  by_cases q : j = i
  · subst q; simp [S, hj]
  · rw [Array.getElem?_setIfInBounds_ne (Ne.symm q), r j hj]; simp [q]
theorem own_inb {c : Cell} {j : Int32} {i : Nat} (S : c.slots.size = n) (hj : j.toInt = (i : Int)) (hi : i < n) : ¬ (j < 0 ∨ c.slots.size ≤ j.toNatClampNeg) := by
  have e : j.toNatClampNeg = i := by show j.toInt.toNat = i; omega
  rw [e, S, Int32.lt_iff_toInt_lt, hj, show (0 : Int32).toInt = 0 by decide]
  omega
theorem own_clamp {j : Int32} {i : Nat} (hj : j.toInt = (i : Int)) : j.toNatClampNeg = i := by show j.toInt.toNat = i; omega
theorem own_alen (X : Stand p l e R s m args below meth c T locs cells slots) (hx : p.tables.exec = Jvm.exec) (hZ : Z.Warmed39 s.vm) (eT : T.heap = h) (F : own_Ar Z h a ty n f) {z : Int32} (hz : z.toInt = (n : Int))
    {g : JFrame} (hg : g.method = m) {rest : List Value} (hs : g.stack = .ref a :: rest) (hd : decode c.code g.pc = .ok (.arraylength, 1)) (target : State)
    (hr : Steps p.tables e below (T.setTop { g with pc := g.pc + 1, stack := .int z :: rest }) target) : Steps p.tables e below (T.setTop g) target := by
  obtain ⟨cl, A, S, -⟩ := F
  refine X.arraylength hx (by rw [eT]; exact A.1) (State.isArrayOf_alike hZ.alike A.2.1) hg hs hd target ?_
  have q : cl.slots.size.toInt32 = z := by
    rw [← Int32.toInt_inj, S, hz]
    have := z.toInt_lt
    exact len_toInt (by omega)
  rw [q]; exact hr
theorem own_dld (X : Stand p l e R s m args below meth c T locs cells slots) (hx : p.tables.exec = Jvm.exec) (hZ : Z.Warmed39 s.vm) (eT : T.heap = h) (F : own_Ar Z h a .double n f) {j : Int32} {i : Nat} (hj : j.toInt = (i : Int)) (hi : i < n) {v : Value} (hv : f i = v)
    {g : JFrame} (hg : g.method = m) {rest : List Value} (hs : g.stack = .int j :: .ref a :: rest) (hd : decode c.code g.pc = .ok (.daload, 1)) (target : State)
    (hr : Steps p.tables e below (T.setTop { g with pc := g.pc + 1, stack := v :: rest }) target) : Steps p.tables e below (T.setTop g) target := by
  obtain ⟨cl, A, S, H⟩ := F
  exact X.daload hx (by rw [eT]; exact A.1) (State.isArrayOf_alike hZ.alike A.2.1) A.2.2 (own_inb S hj hi) (by rw [own_clamp hj, H i hi, hv]) hg hs hd target hr
theorem own_lld (X : Stand p l e R s m args below meth c T locs cells slots) (hx : p.tables.exec = Jvm.exec) (hZ : Z.Warmed39 s.vm) (eT : T.heap = h) (F : own_Ar Z h a .long n f) {j : Int32} {i : Nat} (hj : j.toInt = (i : Int)) (hi : i < n) {v : Value} (hv : f i = v)
    {g : JFrame} (hg : g.method = m) {rest : List Value} (hs : g.stack = .int j :: .ref a :: rest) (hd : decode c.code g.pc = .ok (.laload, 1)) (target : State)
    (hr : Steps p.tables e below (T.setTop { g with pc := g.pc + 1, stack := v :: rest }) target) : Steps p.tables e below (T.setTop g) target := by
  obtain ⟨cl, A, S, H⟩ := F
  exact X.laload hx (by rw [eT]; exact A.1) (State.isArrayOf_alike hZ.alike A.2.1) A.2.2 (own_inb S hj hi) (by rw [own_clamp hj, H i hi, hv]) hg hs hd target hr
theorem own_dst (X : Stand p l e R s m args below meth c T locs cells slots) (hx : p.tables.exec = Jvm.exec) (hZ : Z.Warmed39 s.vm) (eT : T.heap = h) (F : own_Ar Z h a .double n f) {j : Int32} {i : Nat} (hj : j.toInt = (i : Int)) (hi : i < n) {x : UInt64}
    {g : JFrame} (hg : g.method = m) {rest : List Value} (hs : g.stack = .double x :: .int j :: .ref a :: rest) (hd : decode c.code g.pc = .ok (.dastore, 1)) :
    ∃ T' h', Stand p l e R s m args below meth c T' (locs ++ [⟨a, i⟩]) cells slots ∧ T'.heap = h' ∧ Wr h h' a i (.double x) ∧ ∀ target, Steps p.tables e below (T'.setTop { g with pc := g.pc + 1, stack := rest }) target → Steps p.tables e below (T.setTop g) target := by
  obtain ⟨cl, A, S, H⟩ := F
  have q := stD X hx hZ eT A (x := x) (own_inb S hj hi) hg hs hd
  rw [own_clamp hj] at q
  exact q
theorem own_lst (X : Stand p l e R s m args below meth c T locs cells slots) (hx : p.tables.exec = Jvm.exec) (hZ : Z.Warmed39 s.vm) (eT : T.heap = h) (F : own_Ar Z h a .long n f) {j : Int32} {i : Nat} (hj : j.toInt = (i : Int)) (hi : i < n) {x : Int64}
    {g : JFrame} (hg : g.method = m) {rest : List Value} (hs : g.stack = .long x :: .int j :: .ref a :: rest) (hd : decode c.code g.pc = .ok (.lastore, 1)) :
    ∃ T' h', Stand p l e R s m args below meth c T' (locs ++ [⟨a, i⟩]) cells slots ∧ T'.heap = h' ∧ Wr h h' a i (.long x) ∧ ∀ target, Steps p.tables e below (T'.setTop { g with pc := g.pc + 1, stack := rest }) target → Steps p.tables e below (T.setTop g) target := by
  obtain ⟨cl, A, S, H⟩ := F
  have q := stJ X hx hZ eT A (x := x) (own_inb S hj hi) hg hs hd
  rw [own_clamp hj] at q
  exact q
end OwnAr
theorem own_stakeep {Z : State} {h h' : Heap} {C n d : String} {v : Value} {ws : List Addr} (F : Sta Z h C n d v) (K : Keep h h' ws) (q : ∀ x ∈ ws, ∀ c : Cell, h[x]? = some c → c.vm.isStatics = false) : Sta Z h' C n d v := by
  obtain ⟨cf, i, k, f, st, cell, h1, h2, h3, h4, h5, h6, h7⟩ := F
  exact ⟨cf, i, k, f, st, cell, h1, h2, h3, h4, K.2.1 st cell h5 (fun hm => by rw [q st hm cell h5] at h6; cases h6), h6, h7⟩
end Own
end Jvm.RoadKit
namespace Jvm.Pilot.@@N@@
open Jvm Jvm.ClassFile Sem Op Lib Jvm.Free Jvm.Stand Jvm.LawKit Jvm.RoadKit Bundle Jvm.Pilot.@@N@@.Jvm.D
theorem own_pn0 : plainName "com/example/wallingford/wallingford/simulation/Role" = true := by first | (simp [plainName, overriddenIn]; done) | decide +kernel
theorem own_ef1 (m : MethodId) (x0 : Addr) : entryFrame m #[(.ref x0)] 1 = mkF m 0 #[.val (.ref x0)] [] := by first | (simp [entryFrame, mkF, argsToLocals, Value.category]; done) | rfl
theorem own_d_prog_85_6_0 : decode prog_85_method_6_code 0 = .ok (.aload_n 0, 1) := by decide +kernel
theorem own_d_prog_85_6_1 : decode prog_85_method_6_code 1 = .ok (.getstatic 10, 3) := by decide +kernel
theorem own_d_prog_85_6_4 : decode prog_85_method_6_code 4 = .ok (.if_acmp .eq 7, 3) := by decide +kernel
theorem own_d_prog_85_6_11 : decode prog_85_method_6_code 11 = .ok (.iconst 0, 1) := by decide +kernel
theorem own_d_prog_85_6_12 : decode prog_85_method_6_code 12 = .ok (.ireturn, 1) := by decide +kernel
theorem own_d_prog_85_6_7 : decode prog_85_method_6_code 7 = .ok (.iconst 1, 1) := by decide +kernel
theorem own_d_prog_85_6_8 : decode prog_85_method_6_code 8 = .ok (.goto 4, 3) := by decide +kernel
def own_Q_own_present (Z : State) (a w : Addr) (h0 : Heap) (n0 : Nat) (v : Option Value) (h : Heap) (L : List Loc) : Prop := v = some (.int (if a = w then 0 else 1)) ∧ Fr n0 L ∧ h = h0
set_option maxRecDepth 65536 in
set_option maxHeartbeats 40000000 in
theorem own_present (l : Launch) (Z : State) (a0 : Array Value) (hw : ∀ d ∈ tables_1, d.before a0 Z = true) (ws : List Jvm.Cond) (a w : Addr) (h0 : Heap) (n0 : Nat) (Z0 : n0 ≤ h0.size) (SA : Sta Z h0 "com/example/wallingford/wallingford/simulation/Role" "ABSENT" "Lcom/example/wallingford/wallingford/simulation/Role;" (.ref w)) :
    MetFree l (⟨"com/example/wallingford/wallingford/simulation/Role", "present", "()Z"⟩ : MethodName) (head1 (Jvm.Cond.code (⟨"com/example/wallingford/wallingford/simulation/Role", "present", "()Z"⟩ : MethodName) prog_85_method_6_code 1 (some .boolean) :: ws) ({ frames := 0, cells := 0, slots := 0, locals := 0 } : Room)) (fun av_ U => av_ = #[(.ref a)] ∧ Z.Warmed39 U.vm ∧ U.heap = h0) (fun _ _ _ _ _ => True) (fun _ U o U' => ∃ v L, o = .returned v ∧ own_Q_own_present Z a w h0 n0 v U'.heap L ∧ FrameEnd U o U' L ({ frames := 0, cells := 0, slots := 0, locals := 0 } : Room).cells ({ frames := 0, cells := 0, slots := 0, locals := 0 } : Room).slots) := by
  refine MetFree.of_bodySF (plainFor_of_name own_pn0) hisR ?_
  intro p e s m args below meth c s₁ Bd hml0 hP hK
  obtain ⟨rfl, hZ, hh⟩ := hP
  have hx := Bd.exec
  have hby := Bd.bytes
  have hml : c.maxLocals = 1 := hml0
  have hown : s.vm.findClass "com/example/wallingford/wallingford/simulation/Role" = some m.cls := findClass_of_methodNamed Bd.named
  have hnm := (name_of_methodNamed Bd.named Bd.method).1
  have X0 : Stand p l e ({ frames := 0, cells := 0, slots := 0, locals := 0 } : Room) s m #[(.ref a)] below meth c s₁ [] 0 0 := Stand.of_body Bd
  have e0 : s₁.heap = h0 := by rw [← hh, Bd.state]; rfl
  have N0 := Fr.nil n0
  suffices hgo : own_Go p e below (fun o U' => ∃ v L, o = .returned v ∧ own_Q_own_present Z a w h0 n0 v U'.heap L ∧ FrameEnd s o U' L ({ frames := 0, cells := 0, slots := 0, locals := 0 } : Room).cells ({ frames := 0, cells := 0, slots := 0, locals := 0 } : Room).slots) (s₁.setTop (mkF m 0 #[.val (.ref a)] [])) by
    obtain ⟨s₂, o, h1, h2, h3, h4⟩ := hgo
    exact ⟨s₂, o, castTop (own_ef1 m a) h1, h2, h3, h4⟩
  show own_Go p e below _ (s₁.setTop (mkF m 0 #[.val (.ref a)] []))
  refine own_Go.st (fun _ kt => XS.aloadN X0.here hx rfl (hb hby own_d_prog_85_6_0) rfl rfl kt) ?_
  show own_Go p e below _ (s₁.setTop (mkF m 1 #[.val (.ref a)] [(.ref a)]))
  obtain ⟨T1, X1, e1, st1⟩ := getS2 X0 hx hZ hown (host := "") (Or.inl (hw _ (List.mem_of_getElem? (i := 9) rfl))) Via.refl e0 SA (g := (mkF m 1 #[.val (.ref a)] [(.ref a)])) rfl (hb hby own_d_prog_85_6_1)
  refine own_Go.st st1 ?_
  show own_Go p e below _ (T1.setTop (mkF m 4 #[.val (.ref a)] [(.ref w), (.ref a)]))
  by_cases hc : a = w
  · refine own_Go.st (fun _ kt => Jvm.RoadKit.acmp (g := (mkF m 4 #[.val (.ref a)] [(.ref w), (.ref a)])) X1 hx rfl rfl rfl (pc0 := 4) (pc' := 11) (same := true) rfl (hb hby own_d_prog_85_6_4) rfl (decide_eq_true (congrArg Value.ref hc)) (by decide) (by decide) kt) ?_
    show own_Go p e below _ (T1.setTop (mkF m 11 #[.val (.ref a)] []))
    refine own_Go.st (fun _ kt => XS.iconst X1.here hx rfl (hb hby own_d_prog_85_6_11) kt) ?_
    show own_Go p e below _ (T1.setTop (mkF m 12 #[.val (.ref a)] [(.int (0 : Int32))]))
    exact own_retZ X1 hx Bd.notSynchronized Bd.returns (Or.inl rfl) (hb hby own_d_prog_85_6_12) (by decide) (by decide) ⟨by simp [hc], N0, e1⟩
  · refine own_Go.st (fun _ kt => Jvm.RoadKit.acmp (g := (mkF m 4 #[.val (.ref a)] [(.ref w), (.ref a)])) X1 hx rfl rfl rfl (pc0 := 4) (pc' := 7) (same := false) rfl (hb hby own_d_prog_85_6_4) rfl (decide_eq_false fun q => hc (Value.ref.inj q)) (by decide) (by decide) kt) ?_
    show own_Go p e below _ (T1.setTop (mkF m 7 #[.val (.ref a)] []))
    refine own_Go.st (fun _ kt => XS.iconst X1.here hx rfl (hb hby own_d_prog_85_6_7) kt) ?_
    show own_Go p e below _ (T1.setTop (mkF m 8 #[.val (.ref a)] [(.int (1 : Int32))]))
    refine own_Go.st (fun _ kt => XS.goto X1.here hx rfl (pc0 := 8) (pc' := 12) rfl (hb hby own_d_prog_85_6_8) (by decide) (by decide) kt) ?_
    show own_Go p e below _ (T1.setTop (mkF m 12 #[.val (.ref a)] [(.int (1 : Int32))]))
    exact own_retZ X1 hx Bd.notSynchronized Bd.returns (Or.inr rfl) (hb hby own_d_prog_85_6_12) (by decide) (by decide) ⟨by simp [hc], N0, e1⟩
theorem own_pn1 : plainName "com/example/wallingford/wallingford/simulation/RolePresentPinLaw" = true := by first | (simp [plainName, overriddenIn]; done) | decide +kernel
theorem own_ef2 (m : MethodId) (x0 : Int32) : entryFrame m #[(.int x0)] maxLocals = mkF m 0 #[.val (.int x0), .unset, .unset, .unset] [] := by first | (simp [entryFrame, mkF, argsToLocals, Value.category, maxLocals]; done) | rfl
theorem own_pd0 : parseMethodDescriptor "()Z" = some ⟨[], some .boolean⟩ := by decide +kernel
def own_Q_own_law (Z : State) (p0 : Int32) (aP aB aA : Addr) (h0 : Heap) (n0 : Nat) (v : Option Value) (h : Heap) (L : List Loc) : Prop := v = some (.int 1) ∧ Fr n0 L
set_option maxRecDepth 65536 in
set_option maxHeartbeats 40000000 in
theorem own_law (l : Launch) (Z : State) (a0 : Array Value) (hw : ∀ d ∈ tables_1, d.before a0 Z = true) (ws : List Jvm.Cond) (p0 : Int32) (aP aB aA : Addr) (h0 : Heap) (n0 : Nat) (Z0 : n0 ≤ h0.size) (S_aP : Sta Z h0 "com/example/wallingford/wallingford/simulation/Role" "PLANTED" "Lcom/example/wallingford/wallingford/simulation/Role;" (.ref aP)) (E_aP : Exa Z h0 aP "com/example/wallingford/wallingford/simulation/Role") (S_aB : Sta Z h0 "com/example/wallingford/wallingford/simulation/Role" "BACKGROUND" "Lcom/example/wallingford/wallingford/simulation/Role;" (.ref aB)) (E_aB : Exa Z h0 aB "com/example/wallingford/wallingford/simulation/Role") (S_aA : Sta Z h0 "com/example/wallingford/wallingford/simulation/Role" "ABSENT" "Lcom/example/wallingford/wallingford/simulation/Role;" (.ref aA)) (E_aA : Exa Z h0 aA "com/example/wallingford/wallingford/simulation/Role") (hPA : ¬ aP = aA) (hBA : ¬ aB = aA) :
    MetFree l x (head1 (Jvm.Cond.code x code maxLocals ret :: ws) room_1) (fun av_ U => av_ = #[(.int p0)] ∧ Z.Warmed39 U.vm ∧ U.heap = h0) (fun _ _ _ _ _ => True) (fun _ U o U' => ∃ v L, o = .returned v ∧ own_Q_own_law Z p0 aP aB aA h0 n0 v U'.heap L ∧ FrameEnd U o U' L room_1.cells room_1.slots) := by
  refine MetFree.of_bodySF (plainFor_of_name own_pn1) hisR ?_
  intro p e s m args below meth c s₁ Bd hml0 hP hK
  obtain ⟨rfl, hZ, hh⟩ := hP
  have hx := Bd.exec
  have hby := Bd.bytes
  have hml : c.maxLocals = 4 := hml0
  have hown : s.vm.findClass "com/example/wallingford/wallingford/simulation/RolePresentPinLaw" = some m.cls := findClass_of_methodNamed Bd.named
  have hnm := (name_of_methodNamed Bd.named Bd.method).1
  have X0 : Stand p l e room_1 s m #[(.int p0)] below meth c s₁ [] 0 0 := Stand.of_body Bd
  have e0 : s₁.heap = h0 := by rw [← hh, Bd.state]; rfl
  have N0 := Fr.nil n0
  suffices hgo : own_Go p e below (fun o U' => ∃ v L, o = .returned v ∧ own_Q_own_law Z p0 aP aB aA h0 n0 v U'.heap L ∧ FrameEnd s o U' L room_1.cells room_1.slots) (s₁.setTop (mkF m 0 #[.val (.int p0), .unset, .unset, .unset] [])) by
    obtain ⟨s₂, o, h1, h2, h3, h4⟩ := hgo
    exact ⟨s₂, o, castTop (own_ef2 m p0) h1, h2, h3, h4⟩
  show own_Go p e below _ (s₁.setTop (mkF m 0 #[.val (.int p0), .unset, .unset, .unset] []))
  refine own_Go.st (fun _ kt => XS.iloadN X0.here hx rfl (hb hby at_0) rfl kt) ?_
  show own_Go p e below _ (s₁.setTop (mkF m 1 #[.val (.int p0), .unset, .unset, .unset] [(.int p0)]))
  refine own_Go.st (fun _ kt => X0.ldcI hx hown (mvT hZ (hw _ (List.mem_of_getElem? (i := 0) rfl))) rfl (hb hby at_1) kt) ?_
  show own_Go p e below _ (s₁.setTop (mkF m 3 #[.val (.int p0), .unset, .unset, .unset] [(.int (2147483647 : Int32)), (.int p0)]))
  refine own_Go.st (fun _ kt => XS.iand X0.here hx rfl (hb hby at_3) rfl kt) ?_
  show own_Go p e below _ (s₁.setTop (mkF m 4 #[.val (.int p0), .unset, .unset, .unset] [(.int (p0 &&& (2147483647 : Int32)))]))
  refine own_Go.st (fun _ kt => XS.iconst X0.here hx rfl (hb hby at_4) kt) ?_
  show own_Go p e below _ (s₁.setTop (mkF m 5 #[.val (.int p0), .unset, .unset, .unset] [(.int (3 : Int32)), (.int (p0 &&& (2147483647 : Int32)))]))
  refine own_Go.st (fun _ kt => Jvm.RoadKit.iremM X0 hx rfl (hb hby at_5) rfl (by decide) kt) ?_
  show own_Go p e below _ (s₁.setTop (mkF m 6 #[.val (.int p0), .unset, .unset, .unset] [(.int ((p0 &&& (2147483647 : Int32)) % (3 : Int32)))]))
  refine own_Go.st (fun _ kt => XS.istoreN X0.here hx rfl (hb hby at_6) rfl (l' := #[.val (.int p0), .val (.int ((p0 &&& (2147483647 : Int32)) % (3 : Int32))), .unset, .unset]) rfl kt) ?_
  show own_Go p e below _ (s₁.setTop (mkF m 7 #[.val (.int p0), .val (.int ((p0 &&& (2147483647 : Int32)) % (3 : Int32))), .unset, .unset] []))
  refine own_Go.st (fun _ kt => XS.iloadN X0.here hx rfl (hb hby at_7) rfl kt) ?_
  show own_Go p e below _ (s₁.setTop (mkF m 8 #[.val (.int p0), .val (.int ((p0 &&& (2147483647 : Int32)) % (3 : Int32))), .unset, .unset] [(.int ((p0 &&& (2147483647 : Int32)) % (3 : Int32)))]))
  generalize hi : ((p0 &&& (2147483647 : Int32)) % (3 : Int32)) = i
  show own_Go p e below _ (s₁.setTop (mkF m 8 #[.val (.int p0), .val (.int i), .unset, .unset] [(.int i)]))
  by_cases hc8 : i = (0 : Int32)
  · refine own_Go.st (fun _ kt => XS.ifNo X0.here hx rfl (hb hby at_8) rfl ((if0 _ _).trans (teq hc8).2) kt) ?_
    show own_Go p e below _ (s₁.setTop (mkF m 11 #[.val (.int p0), .val (.int i), .unset, .unset] []))
    obtain ⟨T1, X1, e1, st1⟩ := getS2 X0 hx hZ hown (host := "") (Or.inl (hw _ (List.mem_of_getElem? (i := 1) rfl))) Via.refl e0 S_aP (g := (mkF m 11 #[.val (.int p0), .val (.int i), .unset, .unset] [])) rfl (hb hby at_11)
    refine own_Go.st st1 ?_
    show own_Go p e below _ (T1.setTop (mkF m 14 #[.val (.int p0), .val (.int i), .unset, .unset] [(.ref aP)]))
    refine own_Go.st (fun _ kt => XS.astoreN X1.here hx rfl (hb hby at_14) rfl rfl (l' := #[.val (.int p0), .val (.int i), .val (.ref aP), .unset]) rfl kt) ?_
    show own_Go p e below _ (T1.setTop (mkF m 15 #[.val (.int p0), .val (.int i), .val (.ref aP), .unset] []))
    refine own_Go.st (fun _ kt => XS.iconst X1.here hx rfl (hb hby at_15) kt) ?_
    show own_Go p e below _ (T1.setTop (mkF m 16 #[.val (.int p0), .val (.int i), .val (.ref aP), .unset] [(.int (1 : Int32))]))
    refine own_Go.st (fun _ kt => XS.istoreN X1.here hx rfl (hb hby at_16) rfl (l' := #[.val (.int p0), .val (.int i), .val (.ref aP), .val (.int (1 : Int32))]) rfl kt) ?_
    show own_Go p e below _ (T1.setTop (mkF m 17 #[.val (.int p0), .val (.int i), .val (.ref aP), .val (.int (1 : Int32))] []))
    refine own_Go.st (fun _ kt => XS.goto X1.here hx rfl (pc0 := 17) (pc' := 40) rfl (hb hby at_17) (by decide) (by decide) kt) ?_
    show own_Go p e below _ (T1.setTop (mkF m 40 #[.val (.int p0), .val (.int i), .val (.ref aP), .val (.int (1 : Int32))] []))
    refine own_Go.st (fun _ kt => XS.aloadN X1.here hx rfl (hb hby at_40) rfl rfl kt) ?_
    show own_Go p e below _ (T1.setTop (mkF m 41 #[.val (.int p0), .val (.int i), .val (.ref aP), .val (.int (1 : Int32))] [(.ref aP)]))
    obtain ⟨cq2, kq2, q2a, q2b, q2c⟩ := isOf hZ e1 E_aP
    obtain ⟨_, _, ⟨T2, L2, k2, n2⟩, -, X2, ⟨Lc2, hQ2, l2, y2, z2⟩, st2⟩ := X1.virtualBack hx (y := (⟨"com/example/wallingford/wallingford/simulation/Role", "present", "()Z"⟩ : MethodName)) (z := (⟨"com/example/wallingford/wallingford/simulation/Role", "present", "()Z"⟩ : MethodName)) hown (mvT hZ (hw _ (List.mem_of_getElem? (i := 4) rfl))) (mvT hZ (hw _ (List.mem_of_getElem? (i := 5) rfl))) (notFace_of_selects (args := #[]) (mvT hZ (hw _ (List.mem_of_getElem? (i := 7) rfl)))) (mvT hZ (hw _ (List.mem_of_getElem? (i := 7) rfl))) (mvT hZ (hw _ (List.mem_of_getElem? (i := 6) rfl))) (by decide) (backOf (W := 0) (own_present l Z a0 hw [] aP aA h0 n0 Z0 S_aA) hZ (hw _ (List.mem_of_getElem? (i := 8) rfl)) (hw _ (List.mem_of_getElem? (i := 2) rfl)) (by decide) (by decide)) q2a q2c (g := (mkF m 41 #[.val (.int p0), .val (.int i), .val (.ref aP), .val (.int (1 : Int32))] [(.ref aP)])) rfl (by rw [hml]; rfl) (Steps.refl _) (argsL := []) (rest := []) (lenOf own_pd0 rfl) rfl (by show 2 * 0 + _ ≤ _; exact Nat.le_of_eq rfl) (hb hby at_41) (fun _ _ => ⟨rfl, e1, (by decide : 0 + 0 ≤ _), (by decide : 0 + 0 ≤ _)⟩)
    dsimp only [Pt.U, Pt.locs, Pt.cells, Pt.slots] at X2 l2 y2 z2 st2 hQ2
    subst l2 y2 z2
    obtain ⟨rfl, N2q, hh2⟩ := hQ2
    have N2 := Fr.app N0 N2q
    refine own_Go.st (fun _ kt => st2.trans kt) ?_
    show own_Go p e below _ (T2.setTop (mkF m 44 #[.val (.int p0), .val (.int i), .val (.ref aP), .val (.int (1 : Int32))] [(.int (if aP = aA then (0 : Int32) else 1))]))
    rw [show (if aP = aA then (0 : Int32) else 1) = (1 : Int32) from if_neg hPA]
    show own_Go p e below _ (T2.setTop (mkF m 44 #[.val (.int p0), .val (.int i), .val (.ref aP), .val (.int (1 : Int32))] [(.int (1 : Int32))]))
    refine own_Go.st (fun _ kt => XS.iloadN X2.here hx rfl (hb hby at_44) rfl kt) ?_
    show own_Go p e below _ (T2.setTop (mkF m 45 #[.val (.int p0), .val (.int i), .val (.ref aP), .val (.int (1 : Int32))] [(.int (1 : Int32)), (.int (1 : Int32))]))
    refine own_Go.st (fun _ kt => XS.icmpNo X2.here hx rfl (hb hby at_45) rfl (teq rfl).2 kt) ?_
    show own_Go p e below _ (T2.setTop (mkF m 48 #[.val (.int p0), .val (.int i), .val (.ref aP), .val (.int (1 : Int32))] []))
    refine own_Go.st (fun _ kt => XS.iconst X2.here hx rfl (hb hby at_48) kt) ?_
    show own_Go p e below _ (T2.setTop (mkF m 49 #[.val (.int p0), .val (.int i), .val (.ref aP), .val (.int (1 : Int32))] [(.int (1 : Int32))]))
    refine own_Go.st (fun _ kt => XS.goto X2.here hx rfl (pc0 := 49) (pc' := 53) rfl (hb hby at_49) (by decide) (by decide) kt) ?_
    show own_Go p e below _ (T2.setTop (mkF m 53 #[.val (.int p0), .val (.int i), .val (.ref aP), .val (.int (1 : Int32))] [(.int (1 : Int32))]))
    exact own_retZ X2 hx Bd.notSynchronized Bd.returns (Or.inr rfl) (hb hby at_53) (by decide) (by decide) ⟨rfl, N2⟩
  · refine own_Go.st (fun _ kt => XS.ifYes X0.here hx rfl (pc0 := 8) (pc' := 20) rfl (hb hby at_8) rfl ((if0 _ _).trans (feq hc8).2) (by decide) (by decide) kt) ?_
    show own_Go p e below _ (s₁.setTop (mkF m 20 #[.val (.int p0), .val (.int i), .unset, .unset] []))
    refine own_Go.st (fun _ kt => XS.iloadN X0.here hx rfl (hb hby at_20) rfl kt) ?_
    show own_Go p e below _ (s₁.setTop (mkF m 21 #[.val (.int p0), .val (.int i), .unset, .unset] [(.int i)]))
    refine own_Go.st (fun _ kt => XS.iconst X0.here hx rfl (hb hby at_21) kt) ?_
    show own_Go p e below _ (s₁.setTop (mkF m 22 #[.val (.int p0), .val (.int i), .unset, .unset] [(.int (1 : Int32)), (.int i)]))
    by_cases hc22 : i = (1 : Int32)
    · refine own_Go.st (fun _ kt => XS.icmpNo X0.here hx rfl (hb hby at_22) rfl (teq hc22).2 kt) ?_
      show own_Go p e below _ (s₁.setTop (mkF m 25 #[.val (.int p0), .val (.int i), .unset, .unset] []))
      obtain ⟨T3, X3, e3, st3⟩ := getS2 X0 hx hZ hown (host := "") (Or.inl (hw _ (List.mem_of_getElem? (i := 12) rfl))) Via.refl e0 S_aB (g := (mkF m 25 #[.val (.int p0), .val (.int i), .unset, .unset] [])) rfl (hb hby at_25)
      refine own_Go.st st3 ?_
      show own_Go p e below _ (T3.setTop (mkF m 28 #[.val (.int p0), .val (.int i), .unset, .unset] [(.ref aB)]))
      refine own_Go.st (fun _ kt => XS.astoreN X3.here hx rfl (hb hby at_28) rfl rfl (l' := #[.val (.int p0), .val (.int i), .val (.ref aB), .unset]) rfl kt) ?_
      show own_Go p e below _ (T3.setTop (mkF m 29 #[.val (.int p0), .val (.int i), .val (.ref aB), .unset] []))
      refine own_Go.st (fun _ kt => XS.iconst X3.here hx rfl (hb hby at_29) kt) ?_
      show own_Go p e below _ (T3.setTop (mkF m 30 #[.val (.int p0), .val (.int i), .val (.ref aB), .unset] [(.int (1 : Int32))]))
      refine own_Go.st (fun _ kt => XS.istoreN X3.here hx rfl (hb hby at_30) rfl (l' := #[.val (.int p0), .val (.int i), .val (.ref aB), .val (.int (1 : Int32))]) rfl kt) ?_
      show own_Go p e below _ (T3.setTop (mkF m 31 #[.val (.int p0), .val (.int i), .val (.ref aB), .val (.int (1 : Int32))] []))
      refine own_Go.st (fun _ kt => XS.goto X3.here hx rfl (pc0 := 31) (pc' := 40) rfl (hb hby at_31) (by decide) (by decide) kt) ?_
      show own_Go p e below _ (T3.setTop (mkF m 40 #[.val (.int p0), .val (.int i), .val (.ref aB), .val (.int (1 : Int32))] []))
      refine own_Go.st (fun _ kt => XS.aloadN X3.here hx rfl (hb hby at_40) rfl rfl kt) ?_
      show own_Go p e below _ (T3.setTop (mkF m 41 #[.val (.int p0), .val (.int i), .val (.ref aB), .val (.int (1 : Int32))] [(.ref aB)]))
      obtain ⟨cq4, kq4, q4a, q4b, q4c⟩ := isOf hZ e3 E_aB
      obtain ⟨_, _, ⟨T4, L4, k4, n4⟩, -, X4, ⟨Lc4, hQ4, l4, y4, z4⟩, st4⟩ := X3.virtualBack hx (y := (⟨"com/example/wallingford/wallingford/simulation/Role", "present", "()Z"⟩ : MethodName)) (z := (⟨"com/example/wallingford/wallingford/simulation/Role", "present", "()Z"⟩ : MethodName)) hown (mvT hZ (hw _ (List.mem_of_getElem? (i := 4) rfl))) (mvT hZ (hw _ (List.mem_of_getElem? (i := 5) rfl))) (notFace_of_selects (args := #[]) (mvT hZ (hw _ (List.mem_of_getElem? (i := 7) rfl)))) (mvT hZ (hw _ (List.mem_of_getElem? (i := 7) rfl))) (mvT hZ (hw _ (List.mem_of_getElem? (i := 6) rfl))) (by decide) (backOf (W := 0) (own_present l Z a0 hw [] aB aA h0 n0 Z0 S_aA) hZ (hw _ (List.mem_of_getElem? (i := 8) rfl)) (hw _ (List.mem_of_getElem? (i := 2) rfl)) (by decide) (by decide)) q4a q4c (g := (mkF m 41 #[.val (.int p0), .val (.int i), .val (.ref aB), .val (.int (1 : Int32))] [(.ref aB)])) rfl (by rw [hml]; rfl) (Steps.refl _) (argsL := []) (rest := []) (lenOf own_pd0 rfl) rfl (by show 2 * 0 + _ ≤ _; exact Nat.le_of_eq rfl) (hb hby at_41) (fun _ _ => ⟨rfl, e3, (by decide : 0 + 0 ≤ _), (by decide : 0 + 0 ≤ _)⟩)
      dsimp only [Pt.U, Pt.locs, Pt.cells, Pt.slots] at X4 l4 y4 z4 st4 hQ4
      subst l4 y4 z4
      obtain ⟨rfl, N4q, hh4⟩ := hQ4
      have N4 := Fr.app N0 N4q
      refine own_Go.st (fun _ kt => st4.trans kt) ?_
      show own_Go p e below _ (T4.setTop (mkF m 44 #[.val (.int p0), .val (.int i), .val (.ref aB), .val (.int (1 : Int32))] [(.int (if aB = aA then (0 : Int32) else 1))]))
      rw [show (if aB = aA then (0 : Int32) else 1) = (1 : Int32) from if_neg hBA]
      show own_Go p e below _ (T4.setTop (mkF m 44 #[.val (.int p0), .val (.int i), .val (.ref aB), .val (.int (1 : Int32))] [(.int (1 : Int32))]))
      refine own_Go.st (fun _ kt => XS.iloadN X4.here hx rfl (hb hby at_44) rfl kt) ?_
      show own_Go p e below _ (T4.setTop (mkF m 45 #[.val (.int p0), .val (.int i), .val (.ref aB), .val (.int (1 : Int32))] [(.int (1 : Int32)), (.int (1 : Int32))]))
      refine own_Go.st (fun _ kt => XS.icmpNo X4.here hx rfl (hb hby at_45) rfl (teq rfl).2 kt) ?_
      show own_Go p e below _ (T4.setTop (mkF m 48 #[.val (.int p0), .val (.int i), .val (.ref aB), .val (.int (1 : Int32))] []))
      refine own_Go.st (fun _ kt => XS.iconst X4.here hx rfl (hb hby at_48) kt) ?_
      show own_Go p e below _ (T4.setTop (mkF m 49 #[.val (.int p0), .val (.int i), .val (.ref aB), .val (.int (1 : Int32))] [(.int (1 : Int32))]))
      refine own_Go.st (fun _ kt => XS.goto X4.here hx rfl (pc0 := 49) (pc' := 53) rfl (hb hby at_49) (by decide) (by decide) kt) ?_
      show own_Go p e below _ (T4.setTop (mkF m 53 #[.val (.int p0), .val (.int i), .val (.ref aB), .val (.int (1 : Int32))] [(.int (1 : Int32))]))
      exact own_retZ X4 hx Bd.notSynchronized Bd.returns (Or.inr rfl) (hb hby at_53) (by decide) (by decide) ⟨rfl, N4⟩
    · refine own_Go.st (fun _ kt => XS.icmpYes X0.here hx rfl (pc0 := 22) (pc' := 34) rfl (hb hby at_22) rfl (feq hc22).2 (by decide) (by decide) kt) ?_
      show own_Go p e below _ (s₁.setTop (mkF m 34 #[.val (.int p0), .val (.int i), .unset, .unset] []))
      obtain ⟨T5, X5, e5, st5⟩ := getS2 X0 hx hZ hown (host := "") (Or.inl (hw _ (List.mem_of_getElem? (i := 11) rfl))) Via.refl e0 S_aA (g := (mkF m 34 #[.val (.int p0), .val (.int i), .unset, .unset] [])) rfl (hb hby at_34)
      refine own_Go.st st5 ?_
      show own_Go p e below _ (T5.setTop (mkF m 37 #[.val (.int p0), .val (.int i), .unset, .unset] [(.ref aA)]))
      refine own_Go.st (fun _ kt => XS.astoreN X5.here hx rfl (hb hby at_37) rfl rfl (l' := #[.val (.int p0), .val (.int i), .val (.ref aA), .unset]) rfl kt) ?_
      show own_Go p e below _ (T5.setTop (mkF m 38 #[.val (.int p0), .val (.int i), .val (.ref aA), .unset] []))
      refine own_Go.st (fun _ kt => XS.iconst X5.here hx rfl (hb hby at_38) kt) ?_
      show own_Go p e below _ (T5.setTop (mkF m 39 #[.val (.int p0), .val (.int i), .val (.ref aA), .unset] [(.int (0 : Int32))]))
      refine own_Go.st (fun _ kt => XS.istoreN X5.here hx rfl (hb hby at_39) rfl (l' := #[.val (.int p0), .val (.int i), .val (.ref aA), .val (.int (0 : Int32))]) rfl kt) ?_
      show own_Go p e below _ (T5.setTop (mkF m 40 #[.val (.int p0), .val (.int i), .val (.ref aA), .val (.int (0 : Int32))] []))
      refine own_Go.st (fun _ kt => XS.aloadN X5.here hx rfl (hb hby at_40) rfl rfl kt) ?_
      show own_Go p e below _ (T5.setTop (mkF m 41 #[.val (.int p0), .val (.int i), .val (.ref aA), .val (.int (0 : Int32))] [(.ref aA)]))
      obtain ⟨cq6, kq6, q6a, q6b, q6c⟩ := isOf hZ e5 E_aA
      obtain ⟨_, _, ⟨T6, L6, k6, n6⟩, -, X6, ⟨Lc6, hQ6, l6, y6, z6⟩, st6⟩ := X5.virtualBack hx (y := (⟨"com/example/wallingford/wallingford/simulation/Role", "present", "()Z"⟩ : MethodName)) (z := (⟨"com/example/wallingford/wallingford/simulation/Role", "present", "()Z"⟩ : MethodName)) hown (mvT hZ (hw _ (List.mem_of_getElem? (i := 4) rfl))) (mvT hZ (hw _ (List.mem_of_getElem? (i := 5) rfl))) (notFace_of_selects (args := #[]) (mvT hZ (hw _ (List.mem_of_getElem? (i := 7) rfl)))) (mvT hZ (hw _ (List.mem_of_getElem? (i := 7) rfl))) (mvT hZ (hw _ (List.mem_of_getElem? (i := 6) rfl))) (by decide) (backOf (W := 0) (own_present l Z a0 hw [] aA aA h0 n0 Z0 S_aA) hZ (hw _ (List.mem_of_getElem? (i := 8) rfl)) (hw _ (List.mem_of_getElem? (i := 2) rfl)) (by decide) (by decide)) q6a q6c (g := (mkF m 41 #[.val (.int p0), .val (.int i), .val (.ref aA), .val (.int (0 : Int32))] [(.ref aA)])) rfl (by rw [hml]; rfl) (Steps.refl _) (argsL := []) (rest := []) (lenOf own_pd0 rfl) rfl (by show 2 * 0 + _ ≤ _; exact Nat.le_of_eq rfl) (hb hby at_41) (fun _ _ => ⟨rfl, e5, (by decide : 0 + 0 ≤ _), (by decide : 0 + 0 ≤ _)⟩)
      dsimp only [Pt.U, Pt.locs, Pt.cells, Pt.slots] at X6 l6 y6 z6 st6 hQ6
      subst l6 y6 z6
      obtain ⟨rfl, N6q, hh6⟩ := hQ6
      have N6 := Fr.app N0 N6q
      refine own_Go.st (fun _ kt => st6.trans kt) ?_
      show own_Go p e below _ (T6.setTop (mkF m 44 #[.val (.int p0), .val (.int i), .val (.ref aA), .val (.int (0 : Int32))] [(.int (if aA = aA then (0 : Int32) else 1))]))
      rw [show (if aA = aA then (0 : Int32) else 1) = (0 : Int32) from if_pos rfl]
      show own_Go p e below _ (T6.setTop (mkF m 44 #[.val (.int p0), .val (.int i), .val (.ref aA), .val (.int (0 : Int32))] [(.int (0 : Int32))]))
      refine own_Go.st (fun _ kt => XS.iloadN X6.here hx rfl (hb hby at_44) rfl kt) ?_
      show own_Go p e below _ (T6.setTop (mkF m 45 #[.val (.int p0), .val (.int i), .val (.ref aA), .val (.int (0 : Int32))] [(.int (0 : Int32)), (.int (0 : Int32))]))
      refine own_Go.st (fun _ kt => XS.icmpNo X6.here hx rfl (hb hby at_45) rfl (teq rfl).2 kt) ?_
      show own_Go p e below _ (T6.setTop (mkF m 48 #[.val (.int p0), .val (.int i), .val (.ref aA), .val (.int (0 : Int32))] []))
      refine own_Go.st (fun _ kt => XS.iconst X6.here hx rfl (hb hby at_48) kt) ?_
      show own_Go p e below _ (T6.setTop (mkF m 49 #[.val (.int p0), .val (.int i), .val (.ref aA), .val (.int (0 : Int32))] [(.int (1 : Int32))]))
      refine own_Go.st (fun _ kt => XS.goto X6.here hx rfl (pc0 := 49) (pc' := 53) rfl (hb hby at_49) (by decide) (by decide) kt) ?_
      show own_Go p e below _ (T6.setTop (mkF m 53 #[.val (.int p0), .val (.int i), .val (.ref aA), .val (.int (0 : Int32))] [(.int (1 : Int32))]))
      exact own_retZ X6 hx Bd.notSynchronized Bd.returns (Or.inr rfl) (hb hby at_53) (by decide) (by decide) ⟨rfl, N6⟩
set_option maxRecDepth 65536 in
set_option maxHeartbeats 40000000 in
theorem own_comes_1 {Post : Tables → Env → Array Value → State → Outcome → State → Prop} (hpost : ∀ tb e args s v u, (limb_1_1.after args s (.returned v) u = true ∧ limb_1_2.after args s (.returned v) u = true ∧ True) → FrameEnd s (.returned v) u (Jvm.fieldLocs frame_1_writes args s ++ Jvm.arrayLocs frame_1_arrays args s ++ Jvm.staticLocs frame_1_statics s) 0 0 → Post tb e args s (.returned v) u) :
    ArmFor flags0 classFile x code maxLocals ret World_1 tables_1 room_1 Calls_1 rest_1 Pre_1 Post := by
  intro l hfl _ _ p e ha hc hk s m args below hf hA hF happ hP
  obtain ⟨hcalls, hrest, hpre⟩ := hP
  obtain ⟨-, -, -, hnamed, -, -, -, hat⟩ := (Spec.applies_iff hf).mp happ
  obtain ⟨hg, hn⟩ := and_e (Cond.before_iff.mp (show (Jvm.Cond.and given_1 narrow_1).before args s = true from hpre))
  obtain ⟨hg0, hg1⟩ := and_e hg
  obtain ⟨w0, rfl⟩ : ∃ w0 : Value, args = #[w0] := by
    have hs : args.size = 1 := by simpa [Cond.value, given_1] using hg0
    obtain ⟨L⟩ := args
    match L, hs with
    | [w0], _ => exact ⟨w0, rfl⟩
  have hw := fun d (hd : d ∈ tables_1) => atoms_spec (ws := Jvm.Cond.code x code maxLocals ret :: tables_1) hat d (List.mem_cons_of_mem _ hd)
  have hfit : Fit s := fun {y c} hc i hi => by
    obtain ⟨ha, rfl⟩ := Array.getElem?_eq_some_iff.mp hc
    have q := List.all_eq_true.mp ((Array.all_eq_true_iff_forall_mem.mp hF) _ (Array.getElem_mem ha)) i (List.mem_range.mpr hi)
    simpa [Array.getElem?_eq_getElem hi] using q
  obtain ⟨p0, ep0⟩ := is_v hg1
  obtain rfl : w0 = (.int p0) := Option.some.inj ep0
  obtain ⟨n1, hn⟩ := and_e hn
  obtain ⟨n2, hn⟩ := and_e hn
  obtain ⟨n3, hn⟩ := and_e hn
  obtain ⟨n4, hn⟩ := and_e hn
  obtain ⟨n5, n6⟩ := and_e hn
  obtain ⟨aP, v_aP⟩ := exa_v n1
  have S_aP := Sta.start v_aP (Or.inr ⟨(hw _ (List.mem_of_getElem? (i := 2) rfl)), (hw _ (List.mem_of_getElem? (i := 3) rfl))⟩)
  have E_aP := Exa.start v_aP n1
  obtain ⟨aA, v_aA⟩ := exa_v n2
  have S_aA := Sta.start v_aA (Or.inr ⟨(hw _ (List.mem_of_getElem? (i := 2) rfl)), (hw _ (List.mem_of_getElem? (i := 10) rfl))⟩)
  have E_aA := Exa.start v_aA n2
  obtain ⟨aB, v_aB⟩ := exa_v n5
  have S_aB := Sta.start v_aB (Or.inr ⟨(hw _ (List.mem_of_getElem? (i := 2) rfl)), (hw _ (List.mem_of_getElem? (i := 13) rfl))⟩)
  have E_aB := Exa.start v_aB n5
  have hPA : ¬ aP = aA := by
    intro q
    have q1 : (Term.field (Term.static "com/example/wallingford/wallingford/simulation/Role" "PLANTED" "Lcom/example/wallingford/wallingford/simulation/Role;") "java/lang/Enum" "ordinal" "I").eval #[.int p0] s none [] s = s.fieldOf? aP "java/lang/Enum" "ordinal" "I" := fld_at v_aP
    have q2 : (Term.field (Term.static "com/example/wallingford/wallingford/simulation/Role" "ABSENT" "Lcom/example/wallingford/wallingford/simulation/Role;") "java/lang/Enum" "ordinal" "I").eval #[.int p0] s none [] s = s.fieldOf? aA "java/lang/Enum" "ordinal" "I" := fld_at v_aA
    obtain ⟨x1, y1, g1, g2, g3, -⟩ := cmp_v (Or.inl n3)
    obtain ⟨x2, y2, g4, g5, g6, -⟩ := cmp_v (Or.inl n4)
    cases g2
    cases g5
    have e12 : x1 = x2 := Option.some.inj (g1.symm.trans (q1.trans ((congrArg (fun z => s.fieldOf? z "java/lang/Enum" "ordinal" "I") q).trans (q2.symm.trans g4))))
    subst e12
    cases x1 <;> simp [Kin, Value.isRef] at g3
    rename_i iz
    have r1 := gotT (Cond.eq_ints g1 (Term.int_eval _)) n3
    have r2 := gotT (Cond.eq_ints g4 (Term.int_eval _)) n4
    rw [r1] at r2
    exact absurd r2 (by decide)
  have hBA : ¬ aB = aA := by
    intro q
    have q1 : (Term.field (Term.static "com/example/wallingford/wallingford/simulation/Role" "BACKGROUND" "Lcom/example/wallingford/wallingford/simulation/Role;") "java/lang/Enum" "ordinal" "I").eval #[.int p0] s none [] s = s.fieldOf? aB "java/lang/Enum" "ordinal" "I" := fld_at v_aB
    have q2 : (Term.field (Term.static "com/example/wallingford/wallingford/simulation/Role" "ABSENT" "Lcom/example/wallingford/wallingford/simulation/Role;") "java/lang/Enum" "ordinal" "I").eval #[.int p0] s none [] s = s.fieldOf? aA "java/lang/Enum" "ordinal" "I" := fld_at v_aA
    obtain ⟨x1, y1, g1, g2, g3, -⟩ := cmp_v (Or.inl n6)
    obtain ⟨x2, y2, g4, g5, g6, -⟩ := cmp_v (Or.inl n4)
    cases g2
    cases g5
    have e12 : x1 = x2 := Option.some.inj (g1.symm.trans (q1.trans ((congrArg (fun z => s.fieldOf? z "java/lang/Enum" "ordinal" "I") q).trans (q2.symm.trans g4))))
    subst e12
    cases x1 <;> simp [Kin, Value.isRef] at g3
    rename_i iz
    have r1 := gotT (Cond.eq_ints g1 (Term.int_eval _)) n6
    have r2 := gotT (Cond.eq_ints g4 (Term.int_eval _)) n4
    rw [r1] at r2
    exact absurd r2 (by decide)
  obtain ⟨n, o, h1, h2, h3, _, L, rfl, ⟨rfl, N⟩, hq⟩ := own_law l s _ hw tables_1 p0 aP aB aA s.heap s.heap.size (Nat.le_refl _) S_aP E_aP S_aB E_aB S_aA E_aA hPA hBA p e ha hc hk s m _ below hf ((Spec.applies_iff_loose hf).mp happ).1 ⟨rfl, State.Warmed39.refl s, rfl⟩ trivial
  refine ⟨n, _, h1, h2, h3, hpost _ _ _ _ _ _ ⟨Cond.after_iff.mpr rfl, Cond.after_iff.mpr (eq_i res_at (Term.int_eval (1)) rfl), trivial⟩ ⟨hq.1, hq.2.1, (hq.2.2.sift fun y hy => Or.inr (N y hy)).mono (by decide) (by decide)⟩⟩
theorem main_1_1 : Claimed_1_1 := own_comes_1 fun _ _ _ _ _ _ h hF => ⟨h.1, hF⟩
theorem main_1_2 : Claimed_1_2 := own_comes_1 fun _ _ _ _ _ _ h hF => ⟨h.2.1, hF⟩

end Jvm.Pilot.@@N@@
namespace Jvm.Pilot.@@N@@
open Jvm Jvm.ClassFile Sem Op Lib Jvm.Free Jvm.Stand Jvm.Pilot.@@N@@.Jvm.D
/-! MADE BY PROGRAM (witnessworld.py) out of the Statement's table words and the real class files: 12 classes; the members and pool entries that the words name. The judged class is class 1, her method 1. -/
namespace start1
open Jvm.ClassFile
def u (s : String) : CpInfo := .utf8 (stringToUtf16 s)
/-- a pool by its gaps: so many unusable entries, then the entry; so many at the end -/
def gap : Nat → List CpInfo → List CpInfo
  | 0, r => r
  | n + 1, r => .unusable :: gap n r
def poolList (es : List (Nat × CpInfo)) (last : Nat) : List CpInfo := es.foldr (fun e r => gap e.1 (e.2 :: r)) (gap last [])
def pool (es : List (Nat × CpInfo)) (last : Nat) : Array CpInfo := ⟨poolList es last⟩
def fileOf (pool : Array CpInfo) (this : Nat) (attrs : Array Attribute := #[]) (ms : Array MethodInfo := #[]) (fl : Nat := 33) (sup : Nat := 0) (ifs : Array Nat := #[]) (fds : Array FieldInfo := #[]) : ClassFile where
  minorVersion := 0
  majorVersion := 65
  constantPool := pool
  accessFlags := fl
  thisClass := this
  superClass := sup
  interfaces := ifs
  fields := fds
  methods := ms
  attributes := attrs
def plain (name : String) (sup : Option ClassId) : Class where
  name := name
  kind := .ordinary
  loader := none
  accessFlags := 33
  super := sup
  interfaces := #[]
  cf := none
  fields := #[]
  methods := #[]
  instanceTypes := #[]
  staticTypes := #[]
  resolved := #[]
  callSites := []
  init := .initialized
  statics := none
  mirror := none

def pool0 : Array CpInfo := pool [(5, u "<init>"), (0, u "()V"), (1, .class_ 10), (1, u "java/lang/Object")] 113

def k0m0 : Method := { name := "<init>", desc := "()V", sig := { parameters := [], returnType := none }, accessFlags := 1, code := none }
/-- java/lang/Object -/
def k0 : Class := { plain "java/lang/Object" none with
  accessFlags := 33
  interfaces := #[]
  cf := some (fileOf pool0 8 #[] #[{ accessFlags := 1, nameIndex := 5, descriptorIndex := 6, attributes := #[] }] 33 0 #[] #[])
  fields := #[]
  methods := #[k0m0]
  instanceTypes := #[]
  staticTypes := #[]
  resolved := Array.replicate 124 none
  statics := none }

def pool1 : Array CpInfo := pool [(2, .class_ 4), (1, u "java/lang/Object"), (0, u "<init>"), (0, u "()V"), (0, .integer 2147483647), (0, .fieldref 9 10), (0, .class_ 11), (0, .nameAndType 12 13), (0, u "com/example/wallingford/wallingford/simulation/Role"), (0, u "PLANTED"), (0, u "Lcom/example/wallingford/wallingford/simulation/Role;"), (0, .fieldref 9 15), (0, .nameAndType 16 13), (0, u "BACKGROUND"), (0, .fieldref 9 18), (0, .nameAndType 19 13), (0, u "ABSENT"), (0, .methodref 9 21), (0, .nameAndType 22 23), (0, u "present"), (0, u "()Z"), (0, .class_ 25), (0, u "com/example/wallingford/wallingford/simulation/RolePresentPinLaw"), (2, u "law"), (0, u "(I)Z")] 3

def k1m0 : Method := { name := "<init>", desc := "()V", sig := { parameters := [], returnType := none }, accessFlags := 1, code := none }
def k1c1 : Code := { maxStack := 2, maxLocals := 4, code := code, exceptionTable := #[], attributes := #[] }
def k1m1 : Method := { name := "law", desc := "(I)Z", sig := { parameters := [.int], returnType := some .boolean }, accessFlags := 9, code := some k1c1 }
/-- com/example/wallingford/wallingford/simulation/RolePresentPinLaw -/
def k1 : Class := { plain "com/example/wallingford/wallingford/simulation/RolePresentPinLaw" (some 0) with
  accessFlags := 49
  interfaces := #[]
  cf := some (fileOf pool1 24 #[] #[{ accessFlags := 1, nameIndex := 5, descriptorIndex := 6, attributes := #[] }, { accessFlags := 9, nameIndex := 28, descriptorIndex := 29, attributes := #[] }] 49 2 #[] #[])
  fields := #[]
  methods := #[k1m0, k1m1]
  instanceTypes := #[]
  staticTypes := #[]
  resolved := Array.replicate 33 none
  statics := none }

def pool2 : Array CpInfo := pool [(1, .class_ 2), (0, u "java/lang/constant/Constable"), (0, .class_ 4), (0, u "java/lang/Object")] 6

/-- java/lang/constant/Constable -/
def k2 : Class := { plain "java/lang/constant/Constable" (some 0) with
  accessFlags := 1537
  interfaces := #[]
  cf := some (fileOf pool2 1 #[] #[] 1537 3 #[] #[])
  fields := #[]
  methods := #[]
  instanceTypes := #[]
  staticTypes := #[]
  resolved := Array.replicate 11 none
  statics := none }

def pool3 : Array CpInfo := pool [(1, .class_ 2), (0, u "java/lang/Comparable"), (0, .class_ 4), (0, u "java/lang/Object")] 7

/-- java/lang/Comparable -/
def k3 : Class := { plain "java/lang/Comparable" (some 0) with
  accessFlags := 1537
  interfaces := #[]
  cf := some (fileOf pool3 1 #[] #[] 1537 3 #[] #[])
  fields := #[]
  methods := #[]
  instanceTypes := #[]
  staticTypes := #[]
  resolved := Array.replicate 12 none
  statics := none }

def pool4 : Array CpInfo := pool [(1, .class_ 2), (0, u "java/io/Serializable"), (0, .class_ 4), (0, u "java/lang/Object")] 2

/-- java/io/Serializable -/
def k4 : Class := { plain "java/io/Serializable" (some 0) with
  accessFlags := 1537
  interfaces := #[]
  cf := some (fileOf pool4 1 #[] #[] 1537 3 #[] #[])
  fields := #[]
  methods := #[]
  instanceTypes := #[]
  staticTypes := #[]
  resolved := Array.replicate 7 none
  statics := none }

def pool5 : Array CpInfo := pool [(2, .class_ 4), (1, u "java/lang/Enum"), (0, u "name"), (0, u "Ljava/lang/String;"), (2, u "ordinal"), (0, u "I"), (1, .class_ 14), (1, u "java/lang/Object"), (4, u "hash"), (86, .class_ 108), (1, u "java/lang/Enum$EnumDesc"), (2, .class_ 112), (0, u "java/lang/constant/Constable"), (0, .class_ 114), (0, u "java/lang/Comparable"), (0, .class_ 116), (0, u "java/io/Serializable")] 87

/-- java/lang/Enum -/
def k5 : Class := { plain "java/lang/Enum" (some 0) with
  accessFlags := 1057
  interfaces := #[2, 3, 4]
  cf := some (fileOf pool5 2 #[.nestMembers #[106]] #[] 1057 12 #[111, 113, 115] #[{ accessFlags := 18, nameIndex := 5, descriptorIndex := 6, attributes := #[] }, { accessFlags := 18, nameIndex := 9, descriptorIndex := 10, attributes := #[] }, { accessFlags := 2, nameIndex := 19, descriptorIndex := 10, attributes := #[] }])
  fields := #[{ name := "name", type := (.object "java/lang/String"), accessFlags := 18, slot := 0, constantValue := 0 }, { name := "ordinal", type := .int, accessFlags := 18, slot := 1, constantValue := 0 }, { name := "hash", type := .int, accessFlags := 2, slot := 2, constantValue := 0 }]
  methods := #[]
  instanceTypes := #[(.object "java/lang/String"), .int, .int]
  staticTypes := #[]
  resolved := Array.replicate 204 none
  statics := none }

def pool6 : Array CpInfo := pool [(1, .class_ 2), (0, u "com/example/wallingford/wallingford/simulation/Role"), (2, u "PLANTED"), (0, u "Lcom/example/wallingford/wallingford/simulation/Role;"), (2, u "BACKGROUND"), (0, .fieldref 1 11), (0, .nameAndType 12 6), (0, u "ABSENT"), (2, u "$VALUES"), (0, u "[Lcom/example/wallingford/wallingford/simulation/Role;"), (6, .class_ 25), (1, u "java/lang/Enum"), (8, u "written"), (0, u "Ljava/lang/String;"), (2, u "libraries"), (30, u "present"), (0, u "()Z")] 6

def k6c0 : Code := { maxStack := 2, maxLocals := 1, code := prog_85_method_6_code, exceptionTable := #[], attributes := #[] }
def k6m0 : Method := { name := "present", desc := "()Z", sig := { parameters := [], returnType := some .boolean }, accessFlags := 0, code := some k6c0 }
/-- com/example/wallingford/wallingford/simulation/Role -/
def k6 : Class := { plain "com/example/wallingford/wallingford/simulation/Role" (some 5) with
  accessFlags := 16432
  interfaces := #[]
  cf := some (fileOf pool6 1 #[] #[{ accessFlags := 0, nameIndex := 69, descriptorIndex := 70, attributes := #[] }] 16432 23 #[] #[{ accessFlags := 16409, nameIndex := 5, descriptorIndex := 6, attributes := #[] }, { accessFlags := 16409, nameIndex := 9, descriptorIndex := 6, attributes := #[] }, { accessFlags := 16409, nameIndex := 12, descriptorIndex := 6, attributes := #[] }, { accessFlags := 18, nameIndex := 34, descriptorIndex := 35, attributes := #[] }, { accessFlags := 18, nameIndex := 38, descriptorIndex := 35, attributes := #[] }, { accessFlags := 4122, nameIndex := 15, descriptorIndex := 16, attributes := #[] }])
  fields := #[{ name := "PLANTED", type := (.object "com/example/wallingford/wallingford/simulation/Role"), accessFlags := 16409, slot := 0, constantValue := 0 }, { name := "BACKGROUND", type := (.object "com/example/wallingford/wallingford/simulation/Role"), accessFlags := 16409, slot := 1, constantValue := 0 }, { name := "ABSENT", type := (.object "com/example/wallingford/wallingford/simulation/Role"), accessFlags := 16409, slot := 2, constantValue := 0 }, { name := "written", type := (.object "java/lang/String"), accessFlags := 18, slot := 3, constantValue := 0 }, { name := "libraries", type := (.object "java/lang/String"), accessFlags := 18, slot := 4, constantValue := 0 }, { name := "$VALUES", type := (.array (.object "com/example/wallingford/wallingford/simulation/Role")), accessFlags := 4122, slot := 3, constantValue := 0 }]
  methods := #[k6m0]
  instanceTypes := #[(.object "java/lang/String"), .int, .int, (.object "java/lang/String"), (.object "java/lang/String")]
  staticTypes := #[(.object "com/example/wallingford/wallingford/simulation/Role"), (.object "com/example/wallingford/wallingford/simulation/Role"), (.object "com/example/wallingford/wallingford/simulation/Role"), (.array (.object "com/example/wallingford/wallingford/simulation/Role"))]
  resolved := Array.replicate 77 none
  statics := some 0 }

def pool7 : Array CpInfo := pool [(1, u "java/lang/Cloneable"), (0, .class_ 1), (0, u "java/lang/Object"), (0, .class_ 3)] 3

/-- java/lang/Cloneable -/
def k7 : Class := { plain "java/lang/Cloneable" (some 0) with
  accessFlags := 1537
  interfaces := #[]
  cf := some (fileOf pool7 2 #[] #[] 1537 4 #[] #[])
  fields := #[]
  methods := #[]
  instanceTypes := #[]
  staticTypes := #[]
  resolved := Array.replicate 8 none
  statics := none }

/-- the primitive byte -/
def k8 : Class := { plain "byte" none with kind := .primitive 'B', accessFlags := 0x411 }
/-- [B -/
def k9 : Class := { plain "[B" (some 0) with kind := .array 8 .byte, interfaces := #[7, 4], accessFlags := 1041 }

/-- the primitive int -/
def k10 : Class := { plain "int" none with kind := .primitive 'I', accessFlags := 0x411 }
/-- [I -/
def k11 : Class := { plain "[I" (some 0) with kind := .array 10 .int, interfaces := #[7, 4], accessFlags := 1041 }

def heap : Heap := #[{ cls := 6, slots := #[.ref 1, .ref 2, .ref 3, .null], vm := .statics 6 },
  { cls := 6, slots := #[.null, .int 0, .int 0, .null, .null], vm := .none },
  { cls := 6, slots := #[.null, .int 1, .int 0, .null, .null], vm := .none },
  { cls := 6, slots := #[.null, .int 2, .int 0, .null, .null], vm := .none }]
def classes : Array Class := #[k0, k1, k2, k3, k4, k5, k6, k7, k8, k9, k10, k11]
def interned : List (Array UInt16 × Addr) := []
def slotsUsed : Nat := 19
def theMethod : MethodId := ⟨1, 1⟩
def args0 : Array Value := #[.int 5]
def aboutOver (below : List Frame) : State where
  vm := { classes := classes, interned := interned.toArray }
  heap := heap
  slotsUsed := slotsUsed
  threads := #[{ frames := .invoking theMethod args0 :: below }]
def below0 : List Frame := [.native { method := ⟨0, 0⟩, args := #[] }]
def about1 : State := aboutOver below0
def p0 : Program := .bare "" "" ""
def e0 : Env := launch0.env 0 0 0
theorem w_frames : about1.frames = Frame.invoking theMethod args0 :: below0 := rfl
set_option maxRecDepth 65536 in
theorem w_args : argsFit about1.vm theMethod args0 = true := by decide +kernel
set_option maxRecDepth 65536 in
theorem w_heap : heapFits about1 = true := by decide +kernel
set_option maxRecDepth 65536 in
theorem w_runnable : about1.curStatus? = some .runnable := by decide +kernel
set_option maxRecDepth 65536 in
theorem w_alone : about1.alone = true := by decide +kernel
set_option maxRecDepth 65536 in
theorem w_named : about1.methodNamed? x = some theMethod := by decide +kernel
set_option maxRecDepth 65536 in
theorem w_hears : about1.hears theMethod below0 = true := by decide +kernel
set_option maxRecDepth 65536 in
theorem w_ripe : about1.ripe theMethod args0 below0 = true := by decide +kernel
theorem w_running : about1.status = .running := rfl
set_option maxRecDepth 65536 in
theorem w_room : about1.hasRoom e0.platform room_1 = true :=
  launch0.hasRoom_least _ room_1 (by decide +kernel) (by decide +kernel) (by decide +kernel) (by decide +kernel) (by decide +kernel) (by decide +kernel)
theorem allAtoms_all (ts : List Jvm.Cond) (a : Array Jvm.Value) (st : Jvm.State) : (allAtoms ts).before a st = ts.all (fun c => c.before a st) := by
  induction ts with
  | nil => rfl
  | cons c t ih =>
    show (Jvm.Cond.and c (allAtoms t)).before a st = _
    rw [Jvm.Cond.before_and, ih, List.all_cons]
def words1 : List Jvm.Cond := Jvm.Cond.code x code maxLocals ret :: tables_1
/-- a 'code' word, met by the world's own term for the bytes: nothing is compared byte by byte -/
theorem code_word {y : MethodName} {bytes : ByteArray} {mx : Nat} {rt : Option FieldType} {a : Array Value} {s : State} {m : MethodId} {meth : Method} {c : Code} (h1 : s.methodNamed? y = some m) (h2 : s.vm.method? m = some meth) (h3 : meth.code = some c) (h4 : c.code = bytes)
    (h5 : (c.maxLocals == mx && c.exceptionTable.isEmpty && decide (c.maxStack ≤ mostOperands) && decide (meth.sig.returnType = rt) && !meth.locks && decide (parseMethodDescriptor y.desc = some meth.sig)) = true) : (Jvm.Cond.code y bytes mx rt).before a s = true := by
  simp only [Bool.and_eq_true, beq_iff_eq, Bool.not_eq_true', decide_eq_true_eq] at h5
  obtain ⟨⟨⟨⟨⟨g1, g2⟩, g3⟩, g4⟩, g5⟩, g6⟩ := h5
  simp [Cond.before, Cond.holds, Cond.value, h1, h2, h3, h4, g1, g2, g3, g4, g5, g6]
def isCode : Jvm.Cond → Bool
  | .code _ _ _ _ => true
  | _ => false
theorem all_split {L : List Jvm.Cond} {P : Jvm.Cond → Bool} (h1 : L.all (fun c => isCode c || P c) = true) (h2 : ∀ c ∈ L.filter isCode, P c = true) : L.all P = true := by
  refine List.all_eq_true.mpr fun c hc => ?_
  have h := List.all_eq_true.mp h1 c hc
  rcases Bool.eq_false_or_eq_true (isCode c) with hi | hi
  · exact h2 c (List.mem_filter.mpr ⟨hc, hi⟩)
  · simpa [hi] using h
set_option maxRecDepth 65536 in
theorem w_c0 : (Jvm.Cond.code x code maxLocals ret).before args0 about1 = true := code_word (m := ⟨1, 1⟩) (meth := k1m1) (c := k1c1) (by decide +kernel) rfl rfl rfl (by decide +kernel)
set_option maxRecDepth 65536 in
theorem w_c1 : (Jvm.Cond.code ({ cls := "com/example/wallingford/wallingford/simulation/Role", name := "present", desc := "()Z" } : Jvm.MethodName) prog_85_method_6_code (1 : Nat) (Option.some Jvm.ClassFile.FieldType.boolean)).before args0 about1 = true := code_word (m := ⟨6, 0⟩) (meth := k6m0) (c := k6c0) (by decide +kernel) rfl rfl rfl (by decide +kernel)
def codes1 : List Jvm.Cond := [Jvm.Cond.code x code maxLocals ret, Jvm.Cond.code ({ cls := "com/example/wallingford/wallingford/simulation/Role", name := "present", desc := "()Z" } : Jvm.MethodName) prog_85_method_6_code (1 : Nat) (Option.some Jvm.ClassFile.FieldType.boolean)]
set_option maxRecDepth 65536 in
theorem codes_eq : words1.filter isCode = codes1 := rfl
theorem w_codes : ∀ c ∈ words1.filter isCode, c.before args0 about1 = true := by
  rw [codes_eq]
  intro c hc
  simp only [codes1, List.mem_cons, List.not_mem_nil, or_false] at hc
  rcases hc with rfl | rfl
  · exact w_c0
  · exact w_c1
set_option maxRecDepth 65536 in
theorem w_t1 : words1.all (fun c => isCode c || c.before args0 about1) = true := by decide +kernel
theorem w_tables : (allAtoms (Jvm.Cond.code x code maxLocals ret :: tables_1)).before args0 about1 = true := by
  rw [allAtoms_all]
  show words1.all (fun c => c.before args0 about1) = true
  refine all_split ?_ w_codes
  rw [w_t1]
set_option maxRecDepth 65536 in
theorem w_case : (Jvm.Cond.and given_1 narrow_1).before args0 about1 = true := by decide +kernel
theorem w_applies : (headSpec (Jvm.Cond.code x code maxLocals ret :: tables_1) room_1).applies x e0.platform about1 = true :=
  (Spec.applies_iff w_frames).mpr ⟨w_running, w_runnable, w_alone, w_named, w_hears, w_ripe, w_room, w_tables⟩
theorem atStart : AtStart classFile x code maxLocals ret World_1 tables_1 room_1 Calls_1 rest_1 Pre_1 launch0 p0 e0 about1 theMethod args0 below0 :=
  ⟨lists_1, trivial, launch0.admits_env _ _ _, launch0.least_env, fairChoices_fair.cas, fairChoices_fair.clock, w_frames, w_args, w_heap, w_applies, trivial, trivial, w_case⟩
end start1
theorem witness_1 : WitnessClaimed_1 := ⟨start1.p0, start1.e0, start1.about1, start1.theMethod, start1.args0, start1.below0, start1.atStart⟩
end Jvm.Pilot.@@N@@
