import JvmDerived
import JvmDerived.Pilot.@@N@@Statement
import JvmDerived.Pilot.@@N@@Code
set_option linter.unusedVariables false
set_option linter.unusedSimpArgs false
namespace Jvm.RoadKit
open Sem ClassFile Op Lib Jvm.Stand Jvm.Free Jvm.LawKit
section Own
/-- from here the run comes to an end of which P holds -/
def own_Go (p : Program) (e : Env) (below : List Frame) (P : Outcome → State → Prop) (t : State) : Prop :=
  ∃ s₂ o, Steps p.tables e below t s₂ ∧ s₂.status = .running ∧ Ended s₂ below o ∧ P o s₂
variable {p : Program} {l : Launch} {e : Env} {R : Room} {s : State} {m : MethodId} {args : Array Value} {below : List Frame} {meth : Method} {c : Code} {T : State} {locs : List Loc} {cells slots : Nat}
theorem own_Go.st {P : Outcome → State → Prop} {t t' : State} (h : ∀ target, Steps p.tables e below t' target → Steps p.tables e below t target) (k : own_Go p e below P t') : own_Go p e below P t := by
  obtain ⟨a, b, h1, h2⟩ := k
  exact ⟨a, b, h _ h1, h2⟩
variable {C N : Nat} {Q : Option Value → Heap → List Loc → Prop}
theorem own_ret {v : Option Value} {g : JFrame} (X : Stand p l e R s m args below meth c T locs cells slots) (hlk : meth.locks = false) (hv : meth.sig.returnType = none → v = none)
    (hl : ∀ fs : List Frame, (∀ (f : JFrame) (acts : List Action), f.method = m → f.locked = none → f.entered = [] → (doReturn e (T.setTop f) acts v).1 = T.setFrames fs) → Steps p.tables e below (T.setTop g) (T.setFrames fs))
    (hc : cells ≤ C) (hn : slots ≤ N) (q : Q v T.heap locs) : own_Go p e below (fun o U' => ∃ v L, o = .returned v ∧ Q v U'.heap L ∧ FrameEnd s o U' L C N) (T.setTop g) := by
  obtain ⟨fs, hr, hrun, hended, hW, hsame⟩ := X.leave (v := v) hv hlk
  exact ⟨_, _, hl fs hr, hrun, hended, _, _, rfl, q, ⟨_, rfl⟩, hW, hsame.mono hc hn⟩
theorem own_retI {pc : Nat} {Ls : Array Slot} {z : Int32} {rest : List Value} (X : Stand p l e R s m args below meth c T locs cells slots) (hx : p.tables.exec = Jvm.exec) (hlk : meth.locks = false) (hret : meth.sig.returnType = some .int) (hd : decode c.code pc = .ok (.ireturn, 1))
    (hc : cells ≤ C) (hn : slots ≤ N) (q : Q (some (.int z)) T.heap locs) : own_Go p e below (fun o U' => ∃ v L, o = .returned v ∧ Q v U'.heap L ∧ FrameEnd s o U' L C N) (T.setTop (mkF m pc Ls (.int z :: rest))) :=
  own_ret X hlk (fun h => by rw [hret] at h; cases h) (fun fs hr => retOut X hx hret rfl (Or.inl ⟨rfl, Or.inl rfl, z, rfl⟩) hd hr) hc hn q
theorem own_retN {t : FieldType} {pc : Nat} {Ls : Array Slot} {z : Int32} {rest : List Value} (X : Stand p l e R s m args below meth c T locs cells slots) (hx : p.tables.exec = Jvm.exec) (hlk : meth.locks = false) (hret : meth.sig.returnType = some t) (ht : t = .boolean ∨ t = .byte ∨ t = .char ∨ t = .short) (hz : nar t z = z) (hd : decode c.code pc = .ok (.ireturn, 1))
    (hc : cells ≤ C) (hn : slots ≤ N) (q : Q (some (.int z)) T.heap locs) : own_Go p e below (fun o U' => ∃ v L, o = .returned v ∧ Q v U'.heap L ∧ FrameEnd s o U' L C N) (T.setTop (mkF m pc Ls (.int z :: rest))) :=
  own_ret X hlk (fun h => by rw [hret] at h; cases h) (fun fs hr => retN X hx (z := z) hret ht hd (by rw [hz]; exact hr)) hc hn q
theorem own_retZ {pc : Nat} {Ls : Array Slot} {z : Int32} {rest : List Value} (X : Stand p l e R s m args below meth c T locs cells slots) (hx : p.tables.exec = Jvm.exec) (hlk : meth.locks = false) (hret : meth.sig.returnType = some .boolean) (hz : z = 0 ∨ z = 1) (hd : decode c.code pc = .ok (.ireturn, 1))
    (hc : cells ≤ C) (hn : slots ≤ N) (q : Q (some (.int z)) T.heap locs) : own_Go p e below (fun o U' => ∃ v L, o = .returned v ∧ Q v U'.heap L ∧ FrameEnd s o U' L C N) (T.setTop (mkF m pc Ls (.int z :: rest))) :=
  own_retN X hx hlk hret (Or.inl rfl) (by rcases hz with rfl | rfl <;> rfl) hd hc hn q
theorem own_retJ {pc : Nat} {Ls : Array Slot} {z : Int64} {rest : List Value} (X : Stand p l e R s m args below meth c T locs cells slots) (hx : p.tables.exec = Jvm.exec) (hlk : meth.locks = false) (hret : meth.sig.returnType = some .long) (hd : decode c.code pc = .ok (.lreturn, 1))
    (hc : cells ≤ C) (hn : slots ≤ N) (q : Q (some (.long z)) T.heap locs) : own_Go p e below (fun o U' => ∃ v L, o = .returned v ∧ Q v U'.heap L ∧ FrameEnd s o U' L C N) (T.setTop (mkF m pc Ls (.long z :: rest))) :=
  own_ret X hlk (fun h => by rw [hret] at h; cases h) (fun fs hr => retOut X hx hret rfl (Or.inr (Or.inl ⟨rfl, rfl, z, rfl⟩)) hd hr) hc hn q
theorem own_retD {pc : Nat} {Ls : Array Slot} {z : UInt64} {rest : List Value} (X : Stand p l e R s m args below meth c T locs cells slots) (hx : p.tables.exec = Jvm.exec) (hlk : meth.locks = false) (hret : meth.sig.returnType = some .double) (hd : decode c.code pc = .ok (.dreturn, 1))
    (hc : cells ≤ C) (hn : slots ≤ N) (q : Q (some (.double z)) T.heap locs) : own_Go p e below (fun o U' => ∃ v L, o = .returned v ∧ Q v U'.heap L ∧ FrameEnd s o U' L C N) (T.setTop (mkF m pc Ls (.double z :: rest))) :=
  own_ret X hlk (fun h => by rw [hret] at h; cases h) (fun fs hr => retOut X hx hret rfl (Or.inr (Or.inr (Or.inl ⟨rfl, rfl, z, rfl⟩))) hd hr) hc hn q
theorem own_retA {t : FieldType} {pc : Nat} {Ls : Array Slot} {w : Value} {rest : List Value} (X : Stand p l e R s m args below meth c T locs cells slots) (hx : p.tables.exec = Jvm.exec) (hlk : meth.locks = false) (hret : meth.sig.returnType = some t) (ht : t.isReference = true) (hw : w.isRef = true) (hd : decode c.code pc = .ok (.areturn, 1))
    (hc : cells ≤ C) (hn : slots ≤ N) (q : Q (some w) T.heap locs) : own_Go p e below (fun o U' => ∃ v L, o = .returned v ∧ Q v U'.heap L ∧ FrameEnd s o U' L C N) (T.setTop (mkF m pc Ls (w :: rest))) :=
  own_ret X hlk (fun h => by rw [hret] at h; cases h) (fun fs hr => retOut X hx hret (by rcases ref_cases hw with rfl | ⟨z, rfl⟩ <;> cases t <;> rfl) (Or.inr (Or.inr (Or.inr (Or.inr ⟨rfl, ht, hw⟩)))) hd hr) hc hn q
theorem own_retV {pc : Nat} {Ls : Array Slot} (X : Stand p l e R s m args below meth c T locs cells slots) (hx : p.tables.exec = Jvm.exec) (hlk : meth.locks = false) (hret : meth.sig.returnType = none) (hd : decode c.code pc = .ok (.return_, 1))
    (hc : cells ≤ C) (hn : slots ≤ N) (q : Q none T.heap locs) : own_Go p e below (fun o U' => ∃ v L, o = .returned v ∧ Q v U'.heap L ∧ FrameEnd s o U' L C N) (T.setTop (mkF m pc Ls [])) :=
  own_ret X hlk (fun _ => rfl) (fun fs hr => X.returnOut hx hret hd hr) hc hn q
theorem own_retW {vm0 : Vm} {k0 : Nat} {v : Option Value} {g : JFrame} (X : Stand p l e R (s.setVm vm0) m args below meth c T locs cells slots) (hlk : meth.locks = false) (hv : meth.sig.returnType = none → v = none) (hS : s.Since vm0 k0) (hk : k0 ≤ T.heap.size)
    (hl : ∀ fs : List Frame, (∀ (f : JFrame) (acts : List Action), f.method = m → f.locked = none → f.entered = [] → (doReturn e (T.setTop f) acts v).1 = T.setFrames fs) → Steps p.tables e below (T.setTop g) (T.setFrames fs))
    (hc : cells ≤ C) (hn : slots ≤ N) (q : Q v T.heap locs) : own_Go p e below (fun o U' => ∃ v L, o = .returned v ∧ Q v U'.heap L ∧ ReturnedEndW s o U' L C N) (T.setTop g) := by
  obtain ⟨fs, hr, hrun, hended, h1, h2, h3, h4⟩ := X.leaveW hS hk (v := v) hv hlk
  exact ⟨_, _, hl fs hr, hrun, hended, _, _, rfl, q, h1, h2, h3, h4.mono hc hn⟩
theorem own_retWV {vm0 : Vm} {k0 : Nat} {pc : Nat} {Ls : Array Slot} (X : Stand p l e R (s.setVm vm0) m args below meth c T locs cells slots) (hx : p.tables.exec = Jvm.exec) (hlk : meth.locks = false) (hret : meth.sig.returnType = none) (hS : s.Since vm0 k0) (hk : k0 ≤ T.heap.size) (hd : decode c.code pc = .ok (.return_, 1))
    (hc : cells ≤ C) (hn : slots ≤ N) (q : Q none T.heap locs) : own_Go p e below (fun o U' => ∃ v L, o = .returned v ∧ Q v U'.heap L ∧ ReturnedEndW s o U' L C N) (T.setTop (mkF m pc Ls [])) :=
  own_retW X hlk (fun _ => rfl) hS hk (fun fs hr => X.returnOut hx hret hd hr) hc hn q
theorem own_retWZ {vm0 : Vm} {k0 : Nat} {pc : Nat} {Ls : Array Slot} {z : Int32} {rest : List Value} (X : Stand p l e R (s.setVm vm0) m args below meth c T locs cells slots) (hx : p.tables.exec = Jvm.exec) (hlk : meth.locks = false) (hret : meth.sig.returnType = some .boolean) (hS : s.Since vm0 k0) (hk : k0 ≤ T.heap.size) (hz : z = 0 ∨ z = 1) (hd : decode c.code pc = .ok (.ireturn, 1))
    (hc : cells ≤ C) (hn : slots ≤ N) (q : Q (some (.int z)) T.heap locs) : own_Go p e below (fun o U' => ∃ v L, o = .returned v ∧ Q v U'.heap L ∧ ReturnedEndW s o U' L C N) (T.setTop (mkF m pc Ls (.int z :: rest))) :=
  own_retW X hlk (fun h => by rw [hret] at h; cases h) hS hk (fun fs hr => retN X hx (z := z) (t := .boolean) hret (Or.inl rfl) hd (by rw [show nar .boolean z = z by rcases hz with rfl | rfl <;> rfl]; exact hr)) hc hn q
/-- an array: its length, and what each place holds -/
def own_Ar (Z : State) (h : Heap) (a : Addr) (ty : FieldType) (n : Nat) (f : Nat → Value) : Prop := ∃ c : Cell, Arr Z h a c ty ∧ c.slots.size = n ∧ ∀ j, j < n → c.slots[j]? = some (f j)
section OwnAr
variable {Z : State} {h h' : Heap} {a b : Addr} {ty : FieldType} {n : Nat} {f f' : Nat → Value} {ws : List Addr}
theorem own_Ar.lt (F : own_Ar Z h a ty n f) : a < h.size := by obtain ⟨c, A, -⟩ := F; exact A.lt
theorem own_Ar.ext (F : own_Ar Z h a ty n f) (E : Ext h h') : own_Ar Z h' a ty n f := by obtain ⟨c, A, r⟩ := F; exact ⟨c, A.ext E, r⟩
theorem own_Ar.other {sl : Nat} {v : Value} (F : own_Ar Z h b ty n f) (W : Wr h h' a sl v) (q : b ≠ a) : own_Ar Z h' b ty n f := by obtain ⟨c, A, r⟩ := F; exact ⟨c, A.other W q, r⟩
theorem own_Ar.keep (F : own_Ar Z h a ty n f) (K : Keep h h' ws) (q : a ∉ ws) : own_Ar Z h' a ty n f := by obtain ⟨c, A, r⟩ := F; exact ⟨c, ⟨K.2.1 a c A.1 q, A.2⟩, r⟩
theorem own_Ar.congr (F : own_Ar Z h a ty n f) (q : ∀ j, j < n → f j = f' j) : own_Ar Z h a ty n f' := by obtain ⟨c, A, S, r⟩ := F; exact ⟨c, A, S, fun j hj => by rw [← q j hj]; exact r j hj⟩
theorem own_Ar.new {cA : ClassId} {z : Int32} (A : Arr Z h a (newA cA ty z) ty) (hz : z.toInt = (n : Int)) : own_Ar Z h a ty n (fun _ => defaultValue ty) := by
  have e : z.toNatClampNeg = n := by show z.toInt.toNat = n; omega
  exact ⟨_, A, by rw [sz_new, e], fun j hj => by simp [newA, e, hj]⟩
theorem own_Ar.set {i : Nat} {v : Value} (F : own_Ar Z h a ty n f) (W : Wr h h' a i v) : own_Ar Z h' a ty n (fun j => if j = i then v else f j) := by
  obtain ⟨c, A, S, r⟩ := F
  refine ⟨c.setSlot i v, A.same W, by rw [sz_set, S], fun j hj => ?_⟩
  show (c.slots.setIfInBounds i v)[j]? = _
  by_cases q : j = i
  · subst q; simp [S, hj]
  · rw [Array.getElem?_setIfInBounds_ne (Ne.symm q), r j hj]; simp [q]
theorem own_inb {c : Cell} {j : Int32} {i : Nat} (S : c.slots.size = n) (hj : j.toInt = (i : Int)) (hi : i < n) : ¬ (j < 0 ∨ c.slots.size ≤ j.toNatClampNeg) := by
  have e : j.toNatClampNeg = i := by show j.toInt.toNat = i; omega
  rw [e, S, Int32.lt_iff_toInt_lt, hj, show (0 : Int32).toInt = 0 by decide]
  omega
theorem own_clamp {j : Int32} {i : Nat} (hj : j.toInt = (i : Int)) : j.toNatClampNeg = i := by show j.toInt.toNat = i; omega
theorem own_alen (X : Stand p l e R s m args below meth c T locs cells slots) (hx : p.tables.exec = Jvm.exec) (hZ : Z.Warmed39 s.vm) (eT : T.heap = h) (F : own_Ar Z h a ty n f) {z : Int32} (hz : z.toInt = (n : Int))
    {g : JFrame} (hg : g.method = m) {rest : List Value} (hs : g.stack = .ref a :: rest) (hd : decode c.code g.pc = .ok (.arraylength, 1)) (target : State)
    (hr : Steps p.tables e below (T.setTop { g with pc := g.pc + 1, stack := .int z :: rest }) target) : Steps p.tables e below (T.setTop g) target := by
  obtain ⟨cl, A, S, -⟩ := F
  refine X.arraylength hx (by rw [eT]; exact A.1) (State.isArrayOf_alike hZ.alike A.2.1) hg hs hd target ?_
  have q : cl.slots.size.toInt32 = z := by
    rw [← Int32.toInt_inj, S, hz]
    have := z.toInt_lt
    exact len_toInt (by omega)
  rw [q]; exact hr
theorem own_dld (X : Stand p l e R s m args below meth c T locs cells slots) (hx : p.tables.exec = Jvm.exec) (hZ : Z.Warmed39 s.vm) (eT : T.heap = h) (F : own_Ar Z h a .double n f) {j : Int32} {i : Nat} (hj : j.toInt = (i : Int)) (hi : i < n) {v : Value} (hv : f i = v)
    {g : JFrame} (hg : g.method = m) {rest : List Value} (hs : g.stack = .int j :: .ref a :: rest) (hd : decode c.code g.pc = .ok (.daload, 1)) (target : State)
    (hr : Steps p.tables e below (T.setTop { g with pc := g.pc + 1, stack := v :: rest }) target) : Steps p.tables e below (T.setTop g) target := by
  obtain ⟨cl, A, S, H⟩ := F
  exact X.daload hx (by rw [eT]; exact A.1) (State.isArrayOf_alike hZ.alike A.2.1) A.2.2 (own_inb S hj hi) (by rw [own_clamp hj, H i hi, hv]) hg hs hd target hr
theorem own_lld (X : Stand p l e R s m args below meth c T locs cells slots) (hx : p.tables.exec = Jvm.exec) (hZ : Z.Warmed39 s.vm) (eT : T.heap = h) (F : own_Ar Z h a .long n f) {j : Int32} {i : Nat} (hj : j.toInt = (i : Int)) (hi : i < n) {v : Value} (hv : f i = v)
    {g : JFrame} (hg : g.method = m) {rest : List Value} (hs : g.stack = .int j :: .ref a :: rest) (hd : decode c.code g.pc = .ok (.laload, 1)) (target : State)
    (hr : Steps p.tables e below (T.setTop { g with pc := g.pc + 1, stack := v :: rest }) target) : Steps p.tables e below (T.setTop g) target := by
  obtain ⟨cl, A, S, H⟩ := F
  exact X.laload hx (by rw [eT]; exact A.1) (State.isArrayOf_alike hZ.alike A.2.1) A.2.2 (own_inb S hj hi) (by rw [own_clamp hj, H i hi, hv]) hg hs hd target hr
theorem own_dst (X : Stand p l e R s m args below meth c T locs cells slots) (hx : p.tables.exec = Jvm.exec) (hZ : Z.Warmed39 s.vm) (eT : T.heap = h) (F : own_Ar Z h a .double n f) {j : Int32} {i : Nat} (hj : j.toInt = (i : Int)) (hi : i < n) {x : UInt64}
    {g : JFrame} (hg : g.method = m) {rest : List Value} (hs : g.stack = .double x :: .int j :: .ref a :: rest) (hd : decode c.code g.pc = .ok (.dastore, 1)) :
    ∃ T' h', Stand p l e R s m args below meth c T' (locs ++ [⟨a, i⟩]) cells slots ∧ T'.heap = h' ∧ Wr h h' a i (.double x) ∧ ∀ target, Steps p.tables e below (T'.setTop { g with pc := g.pc + 1, stack := rest }) target → Steps p.tables e below (T.setTop g) target := by
  obtain ⟨cl, A, S, H⟩ := F
  have q := stD X hx hZ eT A (x := x) (own_inb S hj hi) hg hs hd
  rw [own_clamp hj] at q
  exact q
theorem own_lst (X : Stand p l e R s m args below meth c T locs cells slots) (hx : p.tables.exec = Jvm.exec) (hZ : Z.Warmed39 s.vm) (eT : T.heap = h) (F : own_Ar Z h a .long n f) {j : Int32} {i : Nat} (hj : j.toInt = (i : Int)) (hi : i < n) {x : Int64}
    {g : JFrame} (hg : g.method = m) {rest : List Value} (hs : g.stack = .long x :: .int j :: .ref a :: rest) (hd : decode c.code g.pc = .ok (.lastore, 1)) :
    ∃ T' h', Stand p l e R s m args below meth c T' (locs ++ [⟨a, i⟩]) cells slots ∧ T'.heap = h' ∧ Wr h h' a i (.long x) ∧ ∀ target, Steps p.tables e below (T'.setTop { g with pc := g.pc + 1, stack := rest }) target → Steps p.tables e below (T.setTop g) target := by
  obtain ⟨cl, A, S, H⟩ := F
  have q := stJ X hx hZ eT A (x := x) (own_inb S hj hi) hg hs hd
  rw [own_clamp hj] at q
  exact q
end OwnAr
theorem own_stakeep {Z : State} {h h' : Heap} {C n d : String} {v : Value} {ws : List Addr} (F : Sta Z h C n d v) (K : Keep h h' ws) (q : ∀ x ∈ ws, ∀ c : Cell, h[x]? = some c → c.vm.isStatics = false) : Sta Z h' C n d v := by
  obtain ⟨cf, i, k, f, st, cell, h1, h2, h3, h4, h5, h6, h7⟩ := F
  exact ⟨cf, i, k, f, st, cell, h1, h2, h3, h4, K.2.1 st cell h5 (fun hm => by rw [q st hm cell h5] at h6; cases h6), h6, h7⟩
end Own
end Jvm.RoadKit
namespace Jvm.RoadKit
open Sem ClassFile Op Lib Jvm.Stand Jvm.Free Jvm.LawKit
section OwnPlain
def own_set (f : Nat → Int64) (i : Nat) (v : Int64) : Nat → Int64 := fun j => if j = i then v else f j
def own_cnt (f : Nat → Int64) : Nat → Int64 → Nat
  | 0, _ => 0
  | n + 1, x => own_cnt f n x + if f n = x then 1 else 0
def own_pgs (f : Nat → Int64) : Nat → List Int64
  | 0 => []
  | n + 1 => if f n = -1 then own_pgs f n else own_pgs f n ++ [f n]
theorem own_cnt_out {f : Nat → Int64} {i n : Nat} (v x : Int64) (h : n ≤ i) : own_cnt (own_set f i v) n x = own_cnt f n x := by
  induction n with
  | zero => rfl
  | succ n ih => rw [own_cnt, own_cnt, ih (by omega)]; simp [own_set, show n ≠ i by omega]
theorem own_cnt_set {f : Nat → Int64} {i n : Nat} (v x : Int64) (h : i < n) : own_cnt (own_set f i v) n x + (if f i = x then 1 else 0) = own_cnt f n x + (if v = x then 1 else 0) := by
  induction n with
  | zero => omega
  | succ n ih =>
    rw [own_cnt, own_cnt]
    by_cases q : n = i
    · subst q
      rw [own_cnt_out v x (Nat.le_refl _)]
      simp only [own_set, if_true]; omega
    · have := ih (by omega)
      simp only [own_set, q, if_false] at this ⊢; omega
theorem own_len_out {f : Nat → Int64} {i n : Nat} (v : Int64) (h : n ≤ i) : own_pgs (own_set f i v) n = own_pgs f n := by
  induction n with
  | zero => rfl
  | succ n ih => rw [own_pgs, own_pgs, ih (by omega)]; simp [own_set, show n ≠ i by omega]
theorem own_len_set {f : Nat → Int64} {i n : Nat} (v : Int64) (h : i < n) : (own_pgs (own_set f i v) n).length + (if f i = -1 then 0 else 1) = (own_pgs f n).length + (if v = -1 then 0 else 1) := by
  induction n with
  | zero => omega
  | succ n ih =>
    rw [own_pgs, own_pgs]
    by_cases q : n = i
    · subst q
      rw [own_len_out v (Nat.le_refl _)]
      simp only [own_set, if_true]
      split <;> split <;> simp
    · have := ih (by omega)
      have e : own_set f i v n = f n := by simp [own_set, q]
      rw [e]
      by_cases r : f n = -1
      · simpa [r] using this
      · simp only [r, if_false, List.length_append, List.length_singleton]; omega
theorem own_pgs_count (f : Nat → Int64) (n : Nat) (x : Int64) : (own_pgs f n).count x = if x = -1 then 0 else own_cnt f n x := by
  induction n with
  | zero => simp [own_pgs, own_cnt]
  | succ n ih =>
    rw [own_pgs, own_cnt]
    by_cases r : f n = -1
    · simp only [r, if_true, ih]
      by_cases q : x = -1
      · simp [q]
      · simp [q, Ne.symm q]
    · simp only [r, if_false, List.count_append, ih, List.count_singleton]
      by_cases q : x = -1
      · subst q; simp [r]
      · simp [q]
theorem own_pgs_mono (f : Nat → Int64) {i n : Nat} (h : i ≤ n) : (own_pgs f i).length ≤ (own_pgs f n).length := by
  induction n with
  | zero => simp [show i = 0 by omega]
  | succ n ih =>
    by_cases q : i = n + 1
    · rw [q]; exact Nat.le_refl _
    · have := ih (by omega)
      rw [own_pgs]; split
      · exact this
      · rw [List.length_append]; omega
theorem own_pgs_lt (f : Nat → Int64) {i n : Nat} (h : i < n) (q : f i ≠ -1) : (own_pgs f i).length < (own_pgs f n).length := by
  have := own_pgs_mono f (show i + 1 ≤ n from h)
  rw [own_pgs, if_neg q, List.length_append, List.length_singleton] at this; omega
theorem own_free (f : Nat → Int64) (n : Nat) (h : (own_pgs f n).length < n) : ∃ j, j < n ∧ f j = -1 := by
  induction n with
  | zero => omega
  | succ n ih =>
    by_cases r : f n = -1
    · exact ⟨n, by omega, r⟩
    · rw [own_pgs, if_neg r, List.length_append, List.length_singleton] at h
      obtain ⟨j, q1, q2⟩ := ih (by omega)
      exact ⟨j, by omega, q2⟩
theorem own_getD_app (l : List Int64) (v : Int64) (j : Nat) : (l ++ [v]).getD j 0 = if j = l.length then v else l.getD j 0 := by
  induction l generalizing j with
  | nil => cases j <;> simp
  | cons a l ih => cases j with
    | zero => simp
    | succ j => simpa using ih j
theorem own_least (P : Nat → Prop) (n : Nat) (h : ∃ d, d < n ∧ P d) : ∃ d, d < n ∧ P d ∧ ∀ c, c < d → ¬ P c := by
  obtain ⟨d, h1, h2⟩ := h
  induction d using Nat.strongRecOn with
  | ind d ih =>
    by_cases q : ∃ c, c < d ∧ P c
    · obtain ⟨c, q1, q2⟩ := q
      exact ih c q1 (by omega) q2
    · exact ⟨d, h1, h2, fun c hc hP => q ⟨c, hc, hP⟩⟩
def own_homeI (x : Int64) : Int32 := (((x * (-7046029254386353131 : Int64)).toUInt64 >>> ((60 : Int32) &&& 0x3f).toInt64.toUInt64).toInt64).toInt32
def own_H (x : Int64) : Nat := (own_homeI x).toInt.toNat
theorem own_homeI_lt (x : Int64) : (own_homeI x).toInt = (own_H x : Int) ∧ own_H x < 16 := by
  unfold own_H own_homeI
  have h := c_lushr (x * (-7046029254386353131 : Int64)) (60 : Int32) 60 (by decide) (by decide)
  have r := rng64 (x * (-7046029254386353131 : Int64))
  have l := c_l2i (((x * (-7046029254386353131 : Int64)).toUInt64 >>> ((60 : Int32) &&& 0x3f).toInt64.toUInt64).toInt64)
  have r2 := rng32 (((x * (-7046029254386353131 : Int64)).toUInt64 >>> ((60 : Int32) &&& 0x3f).toInt64.toUInt64).toInt64).toInt32
  generalize (((x * (-7046029254386353131 : Int64)).toUInt64 >>> ((60 : Int32) &&& 0x3f).toInt64.toUInt64).toInt64) = u at *
  generalize (x * (-7046029254386353131 : Int64)).toInt = w at *
  have e : ((2 ^ 60 : Nat) : Int) = 1152921504606846976 := by decide
  rw [e] at h
  omega
theorem own_next {z : Int32} {i : Nat} (h : z.toInt = (i : Int)) (hi : i < 16) : ((z + 1) &&& (15 : Int32)).toInt = (((i + 1) % 16 : Nat) : Int) := by
  have h1 := c_mask (z + 1) 15 4 (by decide) (by decide)
  have h2 := c_iadd z 1
  have h3 := rng32 (z + 1)
  rw [show (1 : Int32).toInt = 1 by decide] at h2
  omega
/-- the place d behind p's home -/
def own_P (p : Int64) (d : Nat) : Nat := (own_H p + d) % 16
theorem own_P_lt (p : Int64) (d : Nat) : own_P p d < 16 := Nat.mod_lt _ (by decide)
theorem own_P_next (p : Int64) (d : Nat) : (own_P p d + 1) % 16 = own_P p (d + 1) := by unfold own_P; omega
theorem own_P_zero (p : Int64) : own_P p 0 = own_H p := by have := (own_homeI_lt p).2; unfold own_P; omega
theorem own_P_hit (p : Int64) {j : Nat} (hj : j < 16) : ∃ d, d < 16 ∧ own_P p d = j := by
  have := (own_homeI_lt p).2
  exact ⟨(j + 16 - own_H p) % 16, by omega, by unfold own_P; omega⟩
/-- find comes to p -/
def own_Fnd (f : Nat → Int64) (p : Int64) : Prop := ∃ d, d < 16 ∧ f (own_P p d) = p ∧ ∀ c, c < d → f (own_P p c) ≠ -1
/-- the map's places hold just the pages of ls -/
def own_St (f : Nat → Int64) (ls : List Int64) : Prop := (∀ x, x ≠ -1 → own_cnt f 16 x = if x ∈ ls then 1 else 0) ∧ (own_pgs f 16).length = ls.length ∧ ∀ x, x ∈ ls → x ≠ -1 ∧ own_Fnd f x
theorem own_St.stop {f : Nat → Int64} {ls : List Int64} (S : own_St f ls) (hl : ls.length < 16) (p : Int64) : ∃ d, d < 16 ∧ (f (own_P p d) = p ∨ f (own_P p d) = -1) ∧ ∀ c, c < d → ¬ (f (own_P p c) = p ∨ f (own_P p c) = -1) := by
  obtain ⟨j, h1, h2⟩ := own_free f 16 (by rw [S.2.1]; exact hl)
  obtain ⟨d, h3, h4⟩ := own_P_hit p h1
  exact own_least (fun d => f (own_P p d) = p ∨ f (own_P p d) = -1) 16 ⟨d, h3, Or.inr (by rw [h4]; exact h2)⟩
theorem own_cnt_pos {f : Nat → Int64} {n j : Nat} {x : Int64} (h : j < n) (q : f j = x) : 0 < own_cnt f n x := by
  induction n with
  | zero => omega
  | succ n ih =>
    rw [own_cnt]
    by_cases e : j = n
    · subst e; simp [q]
    · have := ih (by omega); omega
theorem own_St.here {f : Nat → Int64} {ls : List Int64} (S : own_St f ls) {j : Nat} (hj : j < 16) (q : f j ≠ -1) : f j ∈ ls := by
  have h := S.1 (f j) q
  have := own_cnt_pos (x := f j) hj rfl
  by_cases r : f j ∈ ls
  · exact r
  · rw [if_neg r] at h; omega
/-- where find stops at p's page: it is in; where it stops at a free place: it isn't -/
theorem own_St.absent {f : Nat → Int64} {ls : List Int64} (S : own_St f ls) {p : Int64} {d : Nat} (hd : d < 16) (h1 : f (own_P p d) = -1) (h2 : ∀ c, c < d → ¬ (f (own_P p c) = p ∨ f (own_P p c) = -1)) : p ∉ ls := fun hm => by
  obtain ⟨hne, d', h3, h4, h5⟩ := S.2.2 p hm
  rcases Nat.lt_trichotomy d d' with q | q | q
  · exact h5 d q h1
  · subst q; rw [h1] at h4; exact hne h4.symm
  · exact h2 d' q (Or.inl h4)
theorem own_tail {u : Nat} {ls : List Int64} {p x : Int64} (hab : p ∉ ls) (e : u + 0 = (if x ∈ ls then 1 else 0) + (if p = x then 1 else 0)) : u = if x ∈ p :: ls then 1 else 0 := by
  by_cases q : p = x
  · subst q; rw [if_neg hab, if_pos rfl] at e; rw [if_pos (List.mem_cons_self ..)]; exact e
  · rw [if_neg q] at e
    by_cases r : x ∈ ls
    · rw [if_pos r] at e; rw [if_pos (List.mem_cons_of_mem _ r)]; exact e
    · rw [if_neg r] at e; rw [if_neg (fun z => (List.mem_cons.mp z).elim (Ne.symm q) r)]; exact e
theorem own_St.put {f : Nat → Int64} {ls : List Int64} (S : own_St f ls) {p : Int64} (hp : p ≠ -1) {d : Nat} (hd : d < 16) (h1 : f (own_P p d) = -1) (h2 : ∀ c, c < d → ¬ (f (own_P p c) = p ∨ f (own_P p c) = -1)) : own_St (own_set f (own_P p d) p) (p :: ls) := by
  have hab := S.absent hd h1 h2
  refine ⟨fun x hx => ?_, ?_, fun x hx => ?_⟩
  · have e := own_cnt_set p x (own_P_lt p d) (f := f)
    rw [S.1 x hx, h1, if_neg (Ne.symm hx)] at e
    exact own_tail hab e
  · have e := own_len_set p (own_P_lt p d) (f := f)
    rw [S.2.1, h1, if_pos rfl, if_neg hp, Nat.add_zero] at e
    rw [List.length_cons]; exact e
  · rcases List.mem_cons.mp hx with rfl | hm
    · refine ⟨hp, d, hd, by simp [own_set], fun c hc => ?_⟩
      have := h2 c hc
      have ne : own_P x c ≠ own_P x d := fun e => this (Or.inr (by rw [e]; exact h1))
      simp only [own_set, ne, if_false]
      exact fun e => this (Or.inr e)
    · obtain ⟨hne, d', h3, h4, h5⟩ := S.2.2 x hm
      refine ⟨hne, d', h3, ?_, fun c hc => ?_⟩
      · have ne : own_P x d' ≠ own_P p d := fun e => hne (by rw [← h4, e, h1])
        simp only [own_set, ne, if_false]; exact h4
      · have ne : own_P x c ≠ own_P p d := fun e => h5 c hc (by rw [e, h1])
        simp only [own_set, ne, if_false]; exact h5 c hc
/-- what pages() reads: counts and length alone -/
def own_Ct (f : Nat → Int64) (P : Int64 → Prop) (n : Nat) : Prop := (∀ x, x ≠ -1 → (P x → own_cnt f 16 x = 1) ∧ (¬ P x → own_cnt f 16 x = 0)) ∧ (own_pgs f 16).length = n
theorem own_St.ct {f : Nat → Int64} {ls : List Int64} (S : own_St f ls) : own_Ct f (fun x => x ∈ ls) ls.length :=
  ⟨fun x hx => ⟨fun h => by rw [S.1 x hx, if_pos h], fun h => by rw [S.1 x hx, if_neg h]⟩, S.2.1⟩
/-- the hole wanders: f with the hole at g counts as f0 without t -/
def own_Hole (f0 f : Nat → Int64) (t : Int64) (g : Nat) : Prop := (∀ x, own_cnt (own_set f g (-1)) 16 x + (if t = x then 1 else 0) = own_cnt f0 16 x + (if (-1 : Int64) = x then 1 else 0)) ∧ (own_pgs (own_set f g (-1)) 16).length + 1 = (own_pgs f0 16).length
theorem own_Hole.start {f : Nat → Int64} {t : Int64} {g : Nat} (hg : g < 16) (ht : t ≠ -1) (h : f g = t) : own_Hole f f t g := by
  refine ⟨fun x => ?_, ?_⟩
  · have := own_cnt_set (-1) x hg (f := f); rw [h] at this; exact this
  · have := own_len_set (-1) hg (f := f); rw [h, if_neg ht] at this; simpa using this
theorem own_Hole.move {f0 f : Nat → Int64} {t : Int64} {g q : Nat} (H : own_Hole f0 f t g) (hg : g < 16) (hq : q < 16) (hne : q ≠ g) (hf : f q ≠ -1) : own_Hole f0 (own_set f g (f q)) t q := by
  have e : own_set (own_set f g (f q)) q (-1) = own_set (own_set (own_set f g (-1)) g (f q)) q (-1) := by
    funext j; simp only [own_set]; by_cases a : j = q <;> by_cases b : j = g <;> simp [a, b]
  have f1 : own_set f g (-1) g = -1 := by simp [own_set]
  have f2 : own_set (own_set f g (-1)) g (f q) q = f q := by simp [own_set, hne]
  refine ⟨fun x => ?_, ?_⟩
  · rw [e]
    have a := own_cnt_set (f q) x hg (f := own_set f g (-1))
    have b := own_cnt_set (-1) x hq (f := own_set (own_set f g (-1)) g (f q))
    have c := H.1 x
    rw [f1] at a; rw [f2] at b
    omega
  · rw [e]
    have a := own_len_set (f q) hg (f := own_set f g (-1))
    have b := own_len_set (-1) hq (f := own_set (own_set f g (-1)) g (f q))
    have c := H.2
    rw [f1, if_pos rfl, if_neg hf] at a; rw [f2, if_neg hf, if_pos rfl] at b
    omega
theorem own_Hole.ct {f0 f : Nat → Int64} {t : Int64} {g : Nat} {ls : List Int64} (S : own_St f0 ls) (H : own_Hole f0 f t g) (hm : t ∈ ls) : own_Ct (own_set f g (-1)) (fun x => x ∈ ls ∧ x ≠ t) (ls.length - 1) := by
  refine ⟨fun x hx => ?_, ?_⟩
  · have e := H.1 x
    rw [S.1 x hx, if_neg (Ne.symm hx)] at e
    by_cases q : t = x
    · subst q; rw [if_pos rfl, if_pos hm] at e
      exact ⟨fun h => absurd rfl h.2, fun _ => by omega⟩
    · rw [if_neg q] at e
      by_cases r : x ∈ ls
      · rw [if_pos r] at e
        exact ⟨fun _ => by omega, fun h => absurd ⟨r, Ne.symm q⟩ h⟩
      · rw [if_neg r] at e
        exact ⟨fun h => absurd h.1 r, fun _ => by omega⟩
  · have := H.2; rw [S.2.1] at this; omega
theorem own_Ct.mem {f : Nat → Int64} {P : Int64 → Prop} {n : Nat} (S : own_Ct f P n) {x : Int64} (hx : x ≠ -1) (h : P x) : x ∈ own_pgs f 16 := by
  have := own_pgs_count f 16 x
  rw [if_neg hx, (S.1 x hx).1 h] at this
  exact List.count_pos_iff.mp (by omega)
/-- a free place ahead of the hole, and how far the probe may go -/
theorem own_ahead {f : Nat → Int64} {i : Nat} (hi : i < 16) (hf : f i ≠ -1) (h : (own_pgs f 16).length < 16) : ∃ m, 0 < m ∧ m < 16 ∧ f ((i + m) % 16) = -1 := by
  obtain ⟨j, h1, h2⟩ := own_free f 16 h
  have : j ≠ i := fun e => hf (e ▸ h2)
  exact ⟨(j + 16 - i) % 16, by omega, by omega, by rw [show (i + (j + 16 - i) % 16) % 16 = j by omega]; exact h2⟩
end OwnPlain
end Jvm.RoadKit
namespace Jvm.RoadKit
open Sem ClassFile Op Lib Jvm.Stand Jvm.Free Jvm.LawKit
section OwnRo
variable {p : Program} {l : Launch} {e : Env} {R : Room} {s : State} {m : MethodId} {args : Array Value} {below : List Frame} {meth : Method} {c : Code} {T : State} {locs : List Loc} {cells slots : Nat}
variable {Z : State} {h h' : Heap} {a b : Addr} {n : Nat} {ws : List Addr} {v : Value}
/-- null, or an Integer -/
def own_Ok (Z : State) (h : Heap) (v : Value) : Prop := v = .null ∨ ∃ y, v = .ref y ∧ Exa Z h y "java/lang/Integer"
theorem own_Ok.isRef (F : own_Ok Z h v) : v.isRef = true := by rcases F with rfl | ⟨y, rfl, -⟩ <;> rfl
theorem own_Ok.ext (F : own_Ok Z h v) (E : Ext h h') : own_Ok Z h' v := F.imp id fun ⟨y, q, x⟩ => ⟨y, q, x.ext E⟩
theorem own_Ok.wr {sl : Nat} {w : Value} (F : own_Ok Z h v) (W : Wr h h' a sl w) : own_Ok Z h' v := F.imp id fun ⟨y, q, x⟩ => ⟨y, q, x.wr W⟩
theorem own_Ok.keep (F : own_Ok Z h v) (K : Keep h h' ws) : own_Ok Z h' v := F.imp id fun ⟨y, q, x⟩ => ⟨y, q, x.keep K⟩
/-- an Object[] that holds nulls and Integers -/
def own_Ro (Z : State) (h : Heap) (a : Addr) (n : Nat) : Prop := ∃ c : Cell, Arr Z h a c (.object "java/lang/Object") ∧ Ovr Z c.cls "java/lang/Object" ∧ c.slots.size = n ∧ ∀ j, j < n → ∃ v, c.slots[j]? = some v ∧ own_Ok Z h v
theorem own_Ro.lt (F : own_Ro Z h a n) : a < h.size := by obtain ⟨c, A, -⟩ := F; exact A.lt
theorem own_Ro.ext (F : own_Ro Z h a n) (E : Ext h h') : own_Ro Z h' a n := by
  obtain ⟨c, A, O, S, r⟩ := F
  exact ⟨c, A.ext E, O, S, fun j hj => by obtain ⟨v, q, k⟩ := r j hj; exact ⟨v, q, k.ext E⟩⟩
theorem own_Ro.other {sl : Nat} {w : Value} (F : own_Ro Z h b n) (W : Wr h h' a sl w) (q : b ≠ a) : own_Ro Z h' b n := by
  obtain ⟨c, A, O, S, r⟩ := F
  exact ⟨c, A.other W q, O, S, fun j hj => by obtain ⟨v, q, k⟩ := r j hj; exact ⟨v, q, k.wr W⟩⟩
theorem own_Ro.keep (F : own_Ro Z h a n) (K : Keep h h' ws) (q : a ∉ ws) : own_Ro Z h' a n := by
  obtain ⟨c, A, O, S, r⟩ := F
  exact ⟨c, ⟨K.2.1 a c A.1 q, A.2⟩, O, S, fun j hj => by obtain ⟨v, q, k⟩ := r j hj; exact ⟨v, q, k.keep K⟩⟩
theorem own_Ro.new {cA : ClassId} {z : Int32} (A : Arr Z h a (newA cA (.object "java/lang/Object") z) (.object "java/lang/Object")) (O : Ovr Z cA "java/lang/Object") (hz : z.toInt = (n : Int)) : own_Ro Z h a n := by
  have e : z.toNatClampNeg = n := by show z.toInt.toNat = n; omega
  exact ⟨_, A, O, by rw [sz_new, e], fun j hj => ⟨.null, by simp [newA, e, hj, defaultValue], Or.inl rfl⟩⟩
theorem own_Ro.set {i : Nat} {w : Value} (F : own_Ro Z h a n) (W : Wr h h' a i w) (k : own_Ok Z h w) : own_Ro Z h' a n := by
  obtain ⟨c, A, O, S, r⟩ := F
  refine ⟨c.setSlot i w, A.same W, O, by rw [sz_set, S], fun j hj => ?_⟩
  show ∃ v, (c.slots.setIfInBounds i w)[j]? = some v ∧ _
  by_cases q : j = i
  · subst q; exact ⟨w, by simp [S, hj], k.wr W⟩
  · obtain ⟨v, g, k2⟩ := r j hj
    exact ⟨v, by rw [Array.getElem?_setIfInBounds_ne (Ne.symm q), g], k2.wr W⟩
theorem own_rld (X : Stand p l e R s m args below meth c T locs cells slots) (hx : p.tables.exec = Jvm.exec) (hZ : Z.Warmed39 s.vm) (eT : T.heap = h) (F : own_Ro Z h a n) {j : Int32} {i : Nat} (hj : j.toInt = (i : Int)) (hi : i < n)
    {g : JFrame} (hg : g.method = m) {rest : List Value} (hs : g.stack = .int j :: .ref a :: rest) (hd : decode c.code g.pc = .ok (.aaload, 1)) :
    ∃ v, own_Ok Z h v ∧ ∀ target, Steps p.tables e below (T.setTop { g with pc := g.pc + 1, stack := v :: rest }) target → Steps p.tables e below (T.setTop g) target := by
  obtain ⟨cl, A, O, S, H⟩ := F
  obtain ⟨v, q, k⟩ := H i hi
  exact ⟨v, k, fun target hr => X.aaload hx (by rw [eT]; exact A.1) (State.isArrayOf_alike hZ.alike A.2.1) rfl A.2.2 (own_inb S hj hi) (by rw [own_clamp hj, q]) hg hs hd target hr⟩
theorem own_rst (X : Stand p l e R s m args below meth c T locs cells slots) (hx : p.tables.exec = Jvm.exec) (hZ : Z.Warmed39 s.vm) (eT : T.heap = h) (F : own_Ro Z h a n) {a0 : Array Value} (wc : (Cond.castable "java/lang/Integer" "java/lang/Object").before a0 Z = true) {j : Int32} {i : Nat} (hj : j.toInt = (i : Int)) (hi : i < n) (k : own_Ok Z h v)
    {g : JFrame} (hg : g.method = m) {rest : List Value} (hs : g.stack = v :: .int j :: .ref a :: rest) (hd : decode c.code g.pc = .ok (.aastore, 1)) :
    ∃ T' h', Stand p l e R s m args below meth c T' (locs ++ [⟨a, i⟩]) cells slots ∧ T'.heap = h' ∧ Wr h h' a i v ∧ ∀ target, Steps p.tables e below (T'.setTop { g with pc := g.pc + 1, stack := rest }) target → Steps p.tables e below (T.setTop g) target := by
  obtain ⟨cl, A, O, S, H⟩ := F
  have q := stR X hx hZ eT A (v := v) (own_inb S hj hi) rfl (by rcases k with rfl | ⟨y, rfl, E⟩; exact Or.inl rfl; exact Sto.of A O (Ins.of_exa E wc)) hg hs hd
  rw [own_clamp hj] at q
  exact q
/-- the cache of Integers -/
def own_Ic (Z : State) (h : Heap) (a : Addr) : Prop := ∃ c : Cell, Arr Z h a c (.object "java/lang/Integer") ∧ c.slots.size = 256 ∧ ∀ j, j < 256 → ∃ y, c.slots[j]? = some (.ref y) ∧ Exa Z h y "java/lang/Integer"
theorem own_Ic.lt (F : own_Ic Z h a) : a < h.size := by obtain ⟨c, A, -⟩ := F; exact A.lt
theorem own_Ic.ext (F : own_Ic Z h a) (E : Ext h h') : own_Ic Z h' a := by
  obtain ⟨c, A, S, r⟩ := F
  exact ⟨c, A.ext E, S, fun j hj => by obtain ⟨v, q, k⟩ := r j hj; exact ⟨v, q, k.ext E⟩⟩
theorem own_Ic.other {sl : Nat} {w : Value} (F : own_Ic Z h b) (W : Wr h h' a sl w) (q : b ≠ a) : own_Ic Z h' b := by
  obtain ⟨c, A, S, r⟩ := F
  exact ⟨c, A.other W q, S, fun j hj => by obtain ⟨v, q, k⟩ := r j hj; exact ⟨v, q, k.wr W⟩⟩
theorem own_Ic.keep (F : own_Ic Z h a) (K : Keep h h' ws) (q : a ∉ ws) : own_Ic Z h' a := by
  obtain ⟨c, A, S, r⟩ := F
  exact ⟨c, ⟨K.2.1 a c A.1 q, A.2⟩, S, fun j hj => by obtain ⟨v, q, k⟩ := r j hj; exact ⟨v, q, k.keep K⟩⟩
theorem own_cld (X : Stand p l e R s m args below meth c T locs cells slots) (hx : p.tables.exec = Jvm.exec) (hZ : Z.Warmed39 s.vm) (eT : T.heap = h) (F : own_Ic Z h a) {j : Int32} {i : Nat} (hj : j.toInt = (i : Int)) (hi : i < 256)
    {g : JFrame} (hg : g.method = m) {rest : List Value} (hs : g.stack = .int j :: .ref a :: rest) (hd : decode c.code g.pc = .ok (.aaload, 1)) :
    ∃ y, Exa Z h y "java/lang/Integer" ∧ ∀ target, Steps p.tables e below (T.setTop { g with pc := g.pc + 1, stack := .ref y :: rest }) target → Steps p.tables e below (T.setTop g) target := by
  obtain ⟨cl, A, S, H⟩ := F
  obtain ⟨v, q, k⟩ := H i hi
  exact ⟨v, k, fun target hr => X.aaload hx (by rw [eT]; exact A.1) (State.isArrayOf_alike hZ.alike A.2.1) rfl A.2.2 (own_inb S hj hi) (by rw [own_clamp hj, q]) hg hs hd target hr⟩
theorem own_Ic.start {args : Array Value} {t F : Term} {G : Cond} (et : ∀ idx, t.eval args Z none idx Z = some (.ref a)) (ha : (Cond.arrayOf t (.object "java/lang/Integer")).value args Z none Z [] = some true) (hl : (Cond.eq (.length t) (.int 256)).value args Z none Z [] = some true)
    (h : (Cond.all t (.and (.exactly (.elem t (.index 0)) "java/lang/Integer") G)).value args Z none Z [] = some true) : own_Ic Z Z.heap a := by
  obtain ⟨c, A⟩ := Arr.start (et []) ha
  have fin := A.fin (Vm.Alike.refl _)
  have e := eqv_i (Term.int_eval (256)) hl
  have S : c.slots.size = 256 := by
    simp only [Term.eval, et [], fin, Option.bind_eq_bind, Option.bind_some] at e
    split at e
    · rename_i q
      have e1 : c.slots.size.toInt32 = 256 := by simpa using e
      have := congrArg Int32.toInt e1
      rw [len_toInt q, show (256 : Int32).toInt = 256 by decide] at this
      omega
    · cases e
  refine ⟨c, A, S, fun j hj => ?_⟩
  have nn : ¬ (Nat.toInt32 j) < 0 := by rw [Int32.lt_iff_toInt_lt, len_toInt (by omega), show (0 : Int32).toInt = 0 by decide]; omega
  have ej : (Nat.toInt32 j).toNatClampNeg = j := own_clamp (len_toInt (by omega))
  obtain ⟨u1, u2⟩ := and_e (Cond.all_elim (et []) fin h j (by rw [S]; exact hj))
  rw [← ej] at u1
  obtain ⟨box, eb⟩ := exa_v u1
  have g := (elem_f (et _) (idx_at nn) fin nn).symm.trans eb
  rw [ej] at g
  exact ⟨box, g, exa_at eb u1⟩
theorem own_selp {a0 : Array Value} {K : String} {y0 y : MethodName} (hZ : Z.Warmed39 s.vm) (w0 : (Cond.selects K y0 y0).before a0 Z = true) (hk : y0.cls = y.cls) (wi : (Cond.instanceMethod y).before a0 Z = true) (wp : (Cond.privateMethod y).before a0 Z = true) (hy : y.cls ≠ "java/lang/invoke/MethodHandle" ∧ y.cls ≠ "java/lang/invoke/VarHandle") : (Cond.selects y.cls y y).before args s = true := by
  obtain ⟨c, r, m, -, -, q3, -, k, hk1, hk2⟩ := Cond.selects_spec (mvT (args := args) hZ w0)
  have hc := findClass_of_methodNamed q3
  rw [hk] at hc
  exact selects_self_of_private hc hk1 hk2 (Cond.privateMethod_at (mvP (args := args) hZ wp)) (mvT hZ wi) hy
theorem own_cat {v : Value} (h : v.isRef = true) : v.category = 1 := by rcases ref_cases h with rfl | ⟨_, rfl⟩ <;> rfl
/-- the map: its three fields and two arrays -/
def own_PM (Z : State) (h : Heap) (n0 : Nat) (o rp rv : Addr) (f : Nat → Int64) (n : Int32) : Prop :=
  Exa Z h o "com/example/thicket/thicket/PageMap" ∧ Fld Z h o "com/example/thicket/thicket/PageMap" "pages" "[J" (.ref rp) ∧ Fld Z h o "com/example/thicket/thicket/PageMap" "values" "[Ljava/lang/Object;" (.ref rv) ∧ Fld Z h o "com/example/thicket/thicket/PageMap" "size" "I" (.int n) ∧
  own_Ar Z h rp .long 16 (fun j => .long (f j)) ∧ own_Ro Z h rv 16 ∧ o ≠ rp ∧ o ≠ rv ∧ rp ≠ rv ∧ n0 ≤ o ∧ n0 ≤ rp ∧ n0 ≤ rv
theorem own_PM.nostat {n0 : Nat} {o rp rv : Addr} {f : Nat → Int64} {n : Int32} (F : own_PM Z h n0 o rp rv f n) : ∀ x ∈ [o, rp, rv], ∀ c : Cell, h[x]? = some c → c.vm.isStatics = false := by
  obtain ⟨⟨c1, k1, e1, -, -, e2, -⟩, -, -, -, ⟨c2, A2, -⟩, ⟨c3, A3, -⟩, -⟩ := F
  intro x hx c hc
  simp only [List.mem_cons, List.not_mem_nil, or_false] at hx
  rcases hx with rfl | rfl | rfl
  · cases e1.symm.trans hc; exact e2
  · cases A2.1.symm.trans hc; exact A2.plain
  · cases A3.1.symm.trans hc; exact A3.plain
theorem own_setfn (f : Nat → Int64) (i : Nat) (v : Int64) (j : Nat) : (if j = i then Value.long v else .long (f j)) = .long (own_set f i v j) := by unfold own_set; split <;> rfl
theorem own_put_sz {n : Int32} {k : Nat} (h : n.toInt = (k : Int)) (hk : k ≤ 2) : ¬ (16 : Int32) < (2 : Int32) * (n + 1) ∧ (n + 1).toInt = ((k + 1 : Nat) : Int) := by
  have h1 := c_iadd n 1
  have h2 := rng32 (n + 1)
  have h3 := c_imul 2 (n + 1)
  have h4 := rng32 (2 * (n + 1))
  rw [show (1 : Int32).toInt = 1 by decide] at h1
  rw [show (2 : Int32).toInt = 2 by decide] at h3
  have e : (n + 1).toInt = ((k + 1 : Nat) : Int) := by omega
  refine ⟨?_, e⟩
  rw [Int32.lt_iff_toInt_lt, show (16 : Int32).toInt = 16 by decide]
  omega
theorem own_dec {n : Int32} {k : Nat} (h : n.toInt = (k : Int)) (hk : 0 < k) : (n - 1).toInt = ((k - 1 : Nat) : Int) := by
  have h1 := c_isub n 1
  have h2 := rng32 (n - 1)
  have h3 := rng32 n
  rw [show (1 : Int32).toInt = 1 by decide] at h1
  omega
theorem own_inc {n : Int32} {k : Nat} (h : n.toInt = (k : Int)) (hk : k < 1000) : (n + 1).toInt = ((k + 1 : Nat) : Int) := by
  have h1 := c_iadd n 1
  have h2 := rng32 (n + 1)
  rw [show (1 : Int32).toInt = 1 by decide] at h1
  omega
def own_putl (ls : List Int64) (x : Int64) : List Int64 := if x ∈ ls then ls else x :: ls
theorem own_fillstep (xv : Int64) (fv : Nat → Value) (i j : Nat) : (if j = i then Value.long xv else if j < i then .long xv else fv j) = (if j < i + 1 then .long xv else fv j) := by
  by_cases q : j = i
  · subst q; simp
  · by_cases q2 : j < i
    · simp [q, q2, show j < i + 1 by omega]
    · simp [q, q2, show ¬ j < i + 1 by omega]
theorem own_nostat1 {K : String} (E : Exa Z h a K) : ∀ x ∈ [a], ∀ c : Cell, h[x]? = some c → c.vm.isStatics = false := by
  obtain ⟨c1, k1, e1, -, -, e2, -⟩ := E
  intro x hx c hc
  simp only [List.mem_cons, List.not_mem_nil, or_false] at hx
  subst hx
  cases e1.symm.trans hc; exact e2
theorem own_cnt_neg {x : Int64} (hx : x ≠ -1) (n : Nat) : own_cnt (fun _ => -1) n x = 0 := by
  induction n with
  | zero => rfl
  | succ n ih => rw [own_cnt, ih, if_neg (Ne.symm hx)]
theorem own_pgs_neg (n : Nat) : own_pgs (fun _ => -1) n = [] := by
  induction n with
  | zero => rfl
  | succ n ih => rw [own_pgs, ih, if_pos rfl]
theorem own_St_nil : own_St (fun _ => -1) [] := ⟨fun x hx => by rw [own_cnt_neg hx, if_neg (List.not_mem_nil)], by rw [own_pgs_neg], fun x hx => absurd hx List.not_mem_nil⟩
theorem own_putl_len (ls : List Int64) (x : Int64) : (own_putl ls x).length ≤ ls.length + 1 := by unfold own_putl; split <;> simp
theorem own_putl_mem (ls : List Int64) (x y : Int64) : y ∈ own_putl ls x ↔ y = x ∨ y ∈ ls := by
  unfold own_putl; split
  · rename_i h
    exact ⟨Or.inr, fun q => q.elim (fun e => e ▸ h) id⟩
  · exact List.mem_cons
def own_ls3 (x y z : Int64) : List Int64 := own_putl (own_putl (own_putl [] x) y) z
theorem own_ls3_len (x y z : Int64) : (own_ls3 x y z).length ≤ 3 := by
  have h1 := own_putl_len [] x
  have h2 := own_putl_len (own_putl [] x) y
  have h3 := own_putl_len (own_putl (own_putl [] x) y) z
  simp only [List.length_nil] at h1
  unfold own_ls3; omega
theorem own_m0 (x y z : Int64) : x ∈ own_ls3 x y z := by simp [own_ls3, own_putl_mem]
theorem own_m1 (x y z : Int64) : y ∈ own_ls3 x y z := by simp [own_ls3, own_putl_mem]
theorem own_m2 (x y z : Int64) : z ∈ own_ls3 x y z := by simp [own_ls3, own_putl_mem]
/-- a Java boolean that says P -/
def own_B (z : Int32) (P : Prop) : Prop := (z = 1 ∧ P) ∨ (z = 0 ∧ ¬ P)
theorem own_i32 {n z : Int32} (h : n.toInt = z.toInt) : n = z := Int32.toInt_inj.mp h
theorem own_tot0 {x y z : Int64} {z0 z1 z2 n : Int32} (g0 : own_B z0 True) (g1 : own_B z1 (y ≠ x)) (g2 : own_B z2 (z ≠ x ∧ z ≠ y)) (hn : n.toInt = ((own_ls3 x y z).length : Int)) : n = z0 + z1 + z2 := by
  apply own_i32
  rw [hn]
  unfold own_ls3 own_putl
  unfold own_B at g0 g1 g2
  have h0 : z0 = 1 := by rcases g0 with ⟨h, -⟩ | ⟨-, h⟩; exact h; exact absurd trivial h
  subst h0
  rcases g1 with ⟨rfl, a⟩ | ⟨rfl, a⟩ <;> rcases g2 with ⟨rfl, b⟩ | ⟨rfl, b⟩
  · simp [a, b.1, b.2]
  · simp [a]
    by_cases c : z = x
    · simp [c]
    · by_cases d : z = y
      · simp [d]
      · exact absurd ⟨c, d⟩ b
  · have e : y = x := Decidable.not_not.mp a
    subst e
    simp [b.1]
  · have e : y = x := Decidable.not_not.mp a
    subst e
    have f : z = y := Decidable.byContradiction fun q => b ⟨q, q⟩
    simp [f]
theorem own_tot1 {x y z t : Int64} {z0 z1 z2 n : Int32} (ht : t = x ∨ t = z) (g0 : own_B z0 (x ≠ t)) (g1 : own_B z1 (y ≠ x ∧ y ≠ t)) (g2 : own_B z2 (z ≠ x ∧ z ≠ y ∧ z ≠ t)) (hn : n.toInt = (((own_ls3 x y z).length - 1 : Nat) : Int)) : n = z0 + z1 + z2 := by
  apply own_i32
  rw [hn]
  unfold own_ls3 own_putl
  unfold own_B at g0 g1 g2
  by_cases a : y = x
  · subst a
    have h1 : z1 = 0 := by rcases g1 with ⟨-, h⟩ | ⟨h, -⟩; exact absurd rfl h.1; exact h
    by_cases b : z = y
    · subst b
      have h2 : z2 = 0 := by rcases g2 with ⟨-, h⟩ | ⟨h, -⟩; exact absurd rfl h.1; exact h
      have ht' : t = z := ht.elim id id
      have h0 : z0 = 0 := by rcases g0 with ⟨-, h⟩ | ⟨h, -⟩; exact absurd ht'.symm h; exact h
      subst h0 h1 h2; simp
    · rcases ht with rfl | rfl
      · have h0 : z0 = 0 := by rcases g0 with ⟨-, h⟩ | ⟨h, -⟩; exact absurd rfl h; exact h
        have h2 : z2 = 1 := by rcases g2 with ⟨h, -⟩ | ⟨-, h⟩; exact h; exact absurd ⟨b, b, b⟩ h
        subst h0 h1 h2; simp [b]
      · have h0 : z0 = 1 := by rcases g0 with ⟨h, -⟩ | ⟨-, h⟩; exact h; exact absurd (Ne.symm b) h
        have h2 : z2 = 0 := by rcases g2 with ⟨-, h⟩ | ⟨h, -⟩; exact absurd rfl h.2.2; exact h
        subst h0 h1 h2; simp [b]
  · by_cases b : z = x
    · subst b
      have h2 : z2 = 0 := by rcases g2 with ⟨-, h⟩ | ⟨h, -⟩; exact absurd rfl h.1; exact h
      have ht' : t = z := ht.elim id id
      have h0 : z0 = 0 := by rcases g0 with ⟨-, h⟩ | ⟨h, -⟩; exact absurd ht'.symm h; exact h
      have h1 : z1 = 1 := by rcases g1 with ⟨h, -⟩ | ⟨-, h⟩; exact h; exact absurd ⟨a, ht'.symm ▸ a⟩ h
      subst h0 h1 h2; simp [a]
    · by_cases d : z = y
      · subst d
        have h2 : z2 = 0 := by rcases g2 with ⟨-, h⟩ | ⟨h, -⟩; exact absurd rfl h.2.1; exact h
        rcases ht with rfl | rfl
        · have h0 : z0 = 0 := by rcases g0 with ⟨-, h⟩ | ⟨h, -⟩; exact absurd rfl h; exact h
          have h1 : z1 = 1 := by rcases g1 with ⟨h, -⟩ | ⟨-, h⟩; exact h; exact absurd ⟨a, a⟩ h
          subst h0 h1 h2; simp [a]
        · have h0 : z0 = 1 := by rcases g0 with ⟨h, -⟩ | ⟨-, h⟩; exact h; exact absurd (Ne.symm a) h
          have h1 : z1 = 0 := by rcases g1 with ⟨-, h⟩ | ⟨h, -⟩; exact absurd rfl h.2; exact h
          subst h0 h1 h2; simp [a]
      · rcases ht with rfl | rfl
        · have h0 : z0 = 0 := by rcases g0 with ⟨-, h⟩ | ⟨h, -⟩; exact absurd rfl h; exact h
          have h1 : z1 = 1 := by rcases g1 with ⟨h, -⟩ | ⟨-, h⟩; exact h; exact absurd ⟨a, a⟩ h
          have h2 : z2 = 1 := by rcases g2 with ⟨h, -⟩ | ⟨-, h⟩; exact h; exact absurd ⟨b, d, b⟩ h
          subst h0 h1 h2; simp [a, b, d]
        · have h0 : z0 = 1 := by rcases g0 with ⟨h, -⟩ | ⟨-, h⟩; exact h; exact absurd (Ne.symm b) h
          have h1 : z1 = 1 := by rcases g1 with ⟨h, -⟩ | ⟨-, h⟩; exact h; exact absurd ⟨a, Ne.symm d⟩ h
          have h2 : z2 = 0 := by rcases g2 with ⟨-, h⟩ | ⟨h, -⟩; exact absurd rfl h.2.2; exact h
          subst h0 h1 h2; simp [a, b, d]
theorem own_nneg (x : Int64) : (x &&& (9223372036854775807 : Int64)) ≠ -1 := fun q => by
  have h := c_maskL x 9223372036854775807 63 (by decide) (by decide)
  rw [q, show ((-1 : Int64)).toInt = -1 by decide, show ((2 ^ 63 : Nat) : Int) = 9223372036854775808 by decide] at h
  omega
end OwnRo
end Jvm.RoadKit
namespace Jvm.Pilot.@@N@@
open Jvm Jvm.ClassFile Sem Op Lib Jvm.Free Jvm.Stand Jvm.LawKit Jvm.RoadKit Bundle Jvm.Pilot.@@N@@.Jvm.D
theorem own_pn0 : plainName "java/lang/Integer" = true := by first | (simp [plainName, overriddenIn]; done) | decide +kernel
theorem own_ef1 (m : MethodId) (x0 : Int32) : entryFrame m #[(.int x0)] 2 = mkF m 0 #[.val (.int x0), .unset] [] := by first | (simp [entryFrame, mkF, argsToLocals, Value.category]; done) | rfl
theorem own_d_jdk_33_48_0 : decode jdk_33_method_48_code 0 = .ok (.iload_n 0, 1) := by decide +kernel
theorem own_d_jdk_33_48_1 : decode jdk_33_method_48_code 1 = .ok (.iconst (-1), 1) := by decide +kernel
theorem own_d_jdk_33_48_2 : decode jdk_33_method_48_code 2 = .ok (.ixor, 1) := by decide +kernel
theorem own_d_jdk_33_48_3 : decode jdk_33_method_48_code 3 = .ok (.iload_n 0, 1) := by decide +kernel
theorem own_d_jdk_33_48_4 : decode jdk_33_method_48_code 4 = .ok (.iconst 1, 1) := by decide +kernel
theorem own_d_jdk_33_48_5 : decode jdk_33_method_48_code 5 = .ok (.isub, 1) := by decide +kernel
theorem own_d_jdk_33_48_6 : decode jdk_33_method_48_code 6 = .ok (.iand, 1) := by decide +kernel
theorem own_d_jdk_33_48_7 : decode jdk_33_method_48_code 7 = .ok (.istore_n 0, 1) := by decide +kernel
theorem own_d_jdk_33_48_8 : decode jdk_33_method_48_code 8 = .ok (.iload_n 0, 1) := by decide +kernel
theorem own_d_jdk_33_48_9 : decode jdk_33_method_48_code 9 = .ok (.ifCond .gt 8, 3) := by decide +kernel
theorem own_d_jdk_33_48_17 : decode jdk_33_method_48_code 17 = .ok (.iconst 1, 1) := by decide +kernel
theorem own_d_jdk_33_48_18 : decode jdk_33_method_48_code 18 = .ok (.istore_n 1, 1) := by decide +kernel
theorem own_d_jdk_33_48_19 : decode jdk_33_method_48_code 19 = .ok (.iload_n 0, 1) := by decide +kernel
theorem own_d_jdk_33_48_20 : decode jdk_33_method_48_code 20 = .ok (.ldc_w 264, 3) := by decide +kernel
theorem own_d_jdk_33_48_23 : decode jdk_33_method_48_code 23 = .ok (.if_icmp .le 11, 3) := by decide +kernel
theorem own_d_jdk_33_48_34 : decode jdk_33_method_48_code 34 = .ok (.iload_n 0, 1) := by decide +kernel
theorem own_d_jdk_33_48_35 : decode jdk_33_method_48_code 35 = .ok (.sipush 256, 3) := by decide +kernel
theorem own_d_jdk_33_48_38 : decode jdk_33_method_48_code 38 = .ok (.if_icmp .le 11, 3) := by decide +kernel
theorem own_d_jdk_33_48_49 : decode jdk_33_method_48_code 49 = .ok (.iload_n 0, 1) := by decide +kernel
theorem own_d_jdk_33_48_50 : decode jdk_33_method_48_code 50 = .ok (.bipush 16, 2) := by decide +kernel
theorem own_d_jdk_33_48_52 : decode jdk_33_method_48_code 52 = .ok (.if_icmp .le 10, 3) := by decide +kernel
theorem own_d_jdk_33_48_62 : decode jdk_33_method_48_code 62 = .ok (.iload_n 0, 1) := by decide +kernel
theorem own_d_jdk_33_48_63 : decode jdk_33_method_48_code 63 = .ok (.iconst 4, 1) := by decide +kernel
theorem own_d_jdk_33_48_64 : decode jdk_33_method_48_code 64 = .ok (.if_icmp .le 10, 3) := by decide +kernel
theorem own_d_jdk_33_48_67 : decode jdk_33_method_48_code 67 = .ok (.iinc 1 2, 3) := by decide +kernel
theorem own_d_jdk_33_48_70 : decode jdk_33_method_48_code 70 = .ok (.iload_n 0, 1) := by decide +kernel
theorem own_d_jdk_33_48_71 : decode jdk_33_method_48_code 71 = .ok (.iconst 2, 1) := by decide +kernel
theorem own_d_jdk_33_48_72 : decode jdk_33_method_48_code 72 = .ok (.iushr, 1) := by decide +kernel
theorem own_d_jdk_33_48_73 : decode jdk_33_method_48_code 73 = .ok (.istore_n 0, 1) := by decide +kernel
theorem own_d_jdk_33_48_74 : decode jdk_33_method_48_code 74 = .ok (.iload_n 1, 1) := by decide +kernel
theorem own_d_jdk_33_48_75 : decode jdk_33_method_48_code 75 = .ok (.iload_n 0, 1) := by decide +kernel
theorem own_d_jdk_33_48_76 : decode jdk_33_method_48_code 76 = .ok (.iconst 1, 1) := by decide +kernel
theorem own_d_jdk_33_48_77 : decode jdk_33_method_48_code 77 = .ok (.iushr, 1) := by decide +kernel
theorem own_d_jdk_33_48_78 : decode jdk_33_method_48_code 78 = .ok (.iadd, 1) := by decide +kernel
theorem own_d_jdk_33_48_79 : decode jdk_33_method_48_code 79 = .ok (.ireturn, 1) := by decide +kernel
def own_Q_own_ntzI (Z : State)  (h0 : Heap) (n0 : Nat) (v : Option Value) (h : Heap) (L : List Loc) : Prop := v = some (.int 4) ∧ Fr n0 L ∧ h = h0
set_option maxRecDepth 65536 in
set_option maxHeartbeats 40000000 in
theorem own_ntzI (l : Launch) (Z : State) (a0 : Array Value) (hw : ∀ d ∈ tables_1, d.before a0 Z = true) (ws : List Jvm.Cond)  (h0 : Heap) (n0 : Nat) (Z0 : n0 ≤ h0.size)  :
    MetFree l (⟨"java/lang/Integer", "numberOfTrailingZeros", "(I)I"⟩ : MethodName) (head1 (Jvm.Cond.code (⟨"java/lang/Integer", "numberOfTrailingZeros", "(I)I"⟩ : MethodName) jdk_33_method_48_code 2 (some .int) :: ws) ({ frames := 0, cells := 0, slots := 0, locals := 0 } : Room)) (fun av_ U => av_ = #[(.int (16 : Int32))] ∧ Z.Warmed39 U.vm ∧ U.heap = h0) (fun _ _ _ _ _ => True) (fun _ U o U' => ∃ v L, o = .returned v ∧ own_Q_own_ntzI Z  h0 n0 v U'.heap L ∧ FrameEnd U o U' L ({ frames := 0, cells := 0, slots := 0, locals := 0 } : Room).cells ({ frames := 0, cells := 0, slots := 0, locals := 0 } : Room).slots) := by
  refine MetFree.of_bodySF (plainFor_of_name own_pn0) hisR ?_
  intro p e s m args below meth c s₁ Bd hml0 hP hK
  obtain ⟨rfl, hZ, hh⟩ := hP
  have hx := Bd.exec
  have hby := Bd.bytes
  have hml : c.maxLocals = 2 := hml0
  have hown : s.vm.findClass "java/lang/Integer" = some m.cls := findClass_of_methodNamed Bd.named
  have hnm := (name_of_methodNamed Bd.named Bd.method).1
  have X0 : Stand p l e ({ frames := 0, cells := 0, slots := 0, locals := 0 } : Room) s m #[(.int (16 : Int32))] below meth c s₁ [] 0 0 := Stand.of_body Bd
  have e0 : s₁.heap = h0 := by rw [← hh, Bd.state]; rfl
  have N0 := Fr.nil n0
  suffices hgo : own_Go p e below (fun o U' => ∃ v L, o = .returned v ∧ own_Q_own_ntzI Z  h0 n0 v U'.heap L ∧ FrameEnd s o U' L ({ frames := 0, cells := 0, slots := 0, locals := 0 } : Room).cells ({ frames := 0, cells := 0, slots := 0, locals := 0 } : Room).slots) (s₁.setTop (mkF m 0 #[.val (.int (16 : Int32)), .unset] [])) by
    obtain ⟨s₂, o, h1, h2, h3, h4⟩ := hgo
    exact ⟨s₂, o, castTop (own_ef1 m (16 : Int32)) h1, h2, h3, h4⟩
  show own_Go p e below _ (s₁.setTop (mkF m 0 #[.val (.int (16 : Int32)), .unset] []))
  refine own_Go.st (fun _ kt => XS.iloadN X0.here hx rfl (hb hby own_d_jdk_33_48_0) rfl kt) ?_
  show own_Go p e below _ (s₁.setTop (mkF m 1 #[.val (.int (16 : Int32)), .unset] [(.int (16 : Int32))]))
  refine own_Go.st (fun _ kt => XS.iconst X0.here hx rfl (hb hby own_d_jdk_33_48_1) kt) ?_
  show own_Go p e below _ (s₁.setTop (mkF m 2 #[.val (.int (16 : Int32)), .unset] [(.int (-1 : Int32)), (.int (16 : Int32))]))
  refine own_Go.st (fun _ kt => XS.ixor X0.here hx rfl (hb hby own_d_jdk_33_48_2) rfl kt) ?_
  show own_Go p e below _ (s₁.setTop (mkF m 3 #[.val (.int (16 : Int32)), .unset] [(.int ((16 : Int32) ^^^ (-1 : Int32)))]))
  refine own_Go.st (fun _ kt => XS.iloadN X0.here hx rfl (hb hby own_d_jdk_33_48_3) rfl kt) ?_
  show own_Go p e below _ (s₁.setTop (mkF m 4 #[.val (.int (16 : Int32)), .unset] [(.int (16 : Int32)), (.int ((16 : Int32) ^^^ (-1 : Int32)))]))
  refine own_Go.st (fun _ kt => XS.iconst X0.here hx rfl (hb hby own_d_jdk_33_48_4) kt) ?_
  show own_Go p e below _ (s₁.setTop (mkF m 5 #[.val (.int (16 : Int32)), .unset] [(.int (1 : Int32)), (.int (16 : Int32)), (.int ((16 : Int32) ^^^ (-1 : Int32)))]))
  refine own_Go.st (fun _ kt => XS.isub X0.here hx rfl (hb hby own_d_jdk_33_48_5) rfl kt) ?_
  show own_Go p e below _ (s₁.setTop (mkF m 6 #[.val (.int (16 : Int32)), .unset] [(.int ((16 : Int32) - (1 : Int32))), (.int ((16 : Int32) ^^^ (-1 : Int32)))]))
  refine own_Go.st (fun _ kt => XS.iand X0.here hx rfl (hb hby own_d_jdk_33_48_6) rfl kt) ?_
  show own_Go p e below _ (s₁.setTop (mkF m 7 #[.val (.int (16 : Int32)), .unset] [(.int (((16 : Int32) ^^^ (-1 : Int32)) &&& ((16 : Int32) - (1 : Int32))))]))
  rw [show (((16 : Int32) ^^^ (-1 : Int32)) &&& ((16 : Int32) - (1 : Int32))) = (15 : Int32) from (by decide)]
  show own_Go p e below _ (s₁.setTop (mkF m 7 #[.val (.int (16 : Int32)), .unset] [(.int (15 : Int32))]))
  refine own_Go.st (fun _ kt => XS.istoreN X0.here hx rfl (hb hby own_d_jdk_33_48_7) rfl (l' := #[.val (.int (15 : Int32)), .unset]) rfl kt) ?_
  show own_Go p e below _ (s₁.setTop (mkF m 8 #[.val (.int (15 : Int32)), .unset] []))
  refine own_Go.st (fun _ kt => XS.iloadN X0.here hx rfl (hb hby own_d_jdk_33_48_8) rfl kt) ?_
  show own_Go p e below _ (s₁.setTop (mkF m 9 #[.val (.int (15 : Int32)), .unset] [(.int (15 : Int32))]))
  refine own_Go.st (fun _ kt => XS.ifYes X0.here hx rfl (pc0 := 9) (pc' := 17) rfl (hb hby own_d_jdk_33_48_9) rfl ((if0 _ _).trans (tlt (by decide)).2.2.1) (by decide) (by decide) kt) ?_
  show own_Go p e below _ (s₁.setTop (mkF m 17 #[.val (.int (15 : Int32)), .unset] []))
  refine own_Go.st (fun _ kt => XS.iconst X0.here hx rfl (hb hby own_d_jdk_33_48_17) kt) ?_
  show own_Go p e below _ (s₁.setTop (mkF m 18 #[.val (.int (15 : Int32)), .unset] [(.int (1 : Int32))]))
  refine own_Go.st (fun _ kt => XS.istoreN X0.here hx rfl (hb hby own_d_jdk_33_48_18) rfl (l' := #[.val (.int (15 : Int32)), .val (.int (1 : Int32))]) rfl kt) ?_
  show own_Go p e below _ (s₁.setTop (mkF m 19 #[.val (.int (15 : Int32)), .val (.int (1 : Int32))] []))
  refine own_Go.st (fun _ kt => XS.iloadN X0.here hx rfl (hb hby own_d_jdk_33_48_19) rfl kt) ?_
  show own_Go p e below _ (s₁.setTop (mkF m 20 #[.val (.int (15 : Int32)), .val (.int (1 : Int32))] [(.int (15 : Int32))]))
  refine own_Go.st (fun _ kt => X0.ldcWI hx hown (mvT hZ (hw _ (List.mem_of_getElem? (i := 57) rfl))) rfl (hb hby own_d_jdk_33_48_20) kt) ?_
  show own_Go p e below _ (s₁.setTop (mkF m 23 #[.val (.int (15 : Int32)), .val (.int (1 : Int32))] [(.int (65536 : Int32)), (.int (15 : Int32))]))
  refine own_Go.st (fun _ kt => XS.icmpYes X0.here hx rfl (pc0 := 23) (pc' := 34) rfl (hb hby own_d_jdk_33_48_23) rfl (flt (by decide)).2.2.2 (by decide) (by decide) kt) ?_
  show own_Go p e below _ (s₁.setTop (mkF m 34 #[.val (.int (15 : Int32)), .val (.int (1 : Int32))] []))
  refine own_Go.st (fun _ kt => XS.iloadN X0.here hx rfl (hb hby own_d_jdk_33_48_34) rfl kt) ?_
  show own_Go p e below _ (s₁.setTop (mkF m 35 #[.val (.int (15 : Int32)), .val (.int (1 : Int32))] [(.int (15 : Int32))]))
  refine own_Go.st (fun _ kt => XS.sipush X0.here hx rfl (hb hby own_d_jdk_33_48_35) kt) ?_
  show own_Go p e below _ (s₁.setTop (mkF m 38 #[.val (.int (15 : Int32)), .val (.int (1 : Int32))] [(.int (256 : Int32)), (.int (15 : Int32))]))
  refine own_Go.st (fun _ kt => XS.icmpYes X0.here hx rfl (pc0 := 38) (pc' := 49) rfl (hb hby own_d_jdk_33_48_38) rfl (flt (by decide)).2.2.2 (by decide) (by decide) kt) ?_
  show own_Go p e below _ (s₁.setTop (mkF m 49 #[.val (.int (15 : Int32)), .val (.int (1 : Int32))] []))
  refine own_Go.st (fun _ kt => XS.iloadN X0.here hx rfl (hb hby own_d_jdk_33_48_49) rfl kt) ?_
  show own_Go p e below _ (s₁.setTop (mkF m 50 #[.val (.int (15 : Int32)), .val (.int (1 : Int32))] [(.int (15 : Int32))]))
  refine own_Go.st (fun _ kt => XS.bipush X0.here hx rfl (hb hby own_d_jdk_33_48_50) kt) ?_
  show own_Go p e below _ (s₁.setTop (mkF m 52 #[.val (.int (15 : Int32)), .val (.int (1 : Int32))] [(.int (16 : Int32)), (.int (15 : Int32))]))
  refine own_Go.st (fun _ kt => XS.icmpYes X0.here hx rfl (pc0 := 52) (pc' := 62) rfl (hb hby own_d_jdk_33_48_52) rfl (flt (by decide)).2.2.2 (by decide) (by decide) kt) ?_
  show own_Go p e below _ (s₁.setTop (mkF m 62 #[.val (.int (15 : Int32)), .val (.int (1 : Int32))] []))
  refine own_Go.st (fun _ kt => XS.iloadN X0.here hx rfl (hb hby own_d_jdk_33_48_62) rfl kt) ?_
  show own_Go p e below _ (s₁.setTop (mkF m 63 #[.val (.int (15 : Int32)), .val (.int (1 : Int32))] [(.int (15 : Int32))]))
  refine own_Go.st (fun _ kt => XS.iconst X0.here hx rfl (hb hby own_d_jdk_33_48_63) kt) ?_
  show own_Go p e below _ (s₁.setTop (mkF m 64 #[.val (.int (15 : Int32)), .val (.int (1 : Int32))] [(.int (4 : Int32)), (.int (15 : Int32))]))
  refine own_Go.st (fun _ kt => XS.icmpNo X0.here hx rfl (hb hby own_d_jdk_33_48_64) rfl (tlt (by decide)).2.2.2 kt) ?_
  show own_Go p e below _ (s₁.setTop (mkF m 67 #[.val (.int (15 : Int32)), .val (.int (1 : Int32))] []))
  refine own_Go.st (fun _ kt => XS.iinc X0.here hx rfl (hb hby own_d_jdk_33_48_67) rfl (l' := #[.val (.int (15 : Int32)), .val (.int ((1 : Int32) + (2 : Int32)))]) rfl kt) ?_
  show own_Go p e below _ (s₁.setTop (mkF m 70 #[.val (.int (15 : Int32)), .val (.int ((1 : Int32) + (2 : Int32)))] []))
  refine own_Go.st (fun _ kt => XS.iloadN X0.here hx rfl (hb hby own_d_jdk_33_48_70) rfl kt) ?_
  show own_Go p e below _ (s₁.setTop (mkF m 71 #[.val (.int (15 : Int32)), .val (.int ((1 : Int32) + (2 : Int32)))] [(.int (15 : Int32))]))
  refine own_Go.st (fun _ kt => XS.iconst X0.here hx rfl (hb hby own_d_jdk_33_48_71) kt) ?_
  show own_Go p e below _ (s₁.setTop (mkF m 72 #[.val (.int (15 : Int32)), .val (.int ((1 : Int32) + (2 : Int32)))] [(.int (2 : Int32)), (.int (15 : Int32))]))
  refine own_Go.st (fun _ kt => XS.iushr X0.here hx rfl (hb hby own_d_jdk_33_48_72) rfl kt) ?_
  show own_Go p e below _ (s₁.setTop (mkF m 73 #[.val (.int (15 : Int32)), .val (.int ((1 : Int32) + (2 : Int32)))] [(.int (((15 : Int32).toUInt32 >>> ((2 : Int32) &&& 31).toUInt32).toInt32))]))
  refine own_Go.st (fun _ kt => XS.istoreN X0.here hx rfl (hb hby own_d_jdk_33_48_73) rfl (l' := #[.val (.int (((15 : Int32).toUInt32 >>> ((2 : Int32) &&& 31).toUInt32).toInt32)), .val (.int ((1 : Int32) + (2 : Int32)))]) rfl kt) ?_
  show own_Go p e below _ (s₁.setTop (mkF m 74 #[.val (.int (((15 : Int32).toUInt32 >>> ((2 : Int32) &&& 31).toUInt32).toInt32)), .val (.int ((1 : Int32) + (2 : Int32)))] []))
  refine own_Go.st (fun _ kt => XS.iloadN X0.here hx rfl (hb hby own_d_jdk_33_48_74) rfl kt) ?_
  show own_Go p e below _ (s₁.setTop (mkF m 75 #[.val (.int (((15 : Int32).toUInt32 >>> ((2 : Int32) &&& 31).toUInt32).toInt32)), .val (.int ((1 : Int32) + (2 : Int32)))] [(.int ((1 : Int32) + (2 : Int32)))]))
  refine own_Go.st (fun _ kt => XS.iloadN X0.here hx rfl (hb hby own_d_jdk_33_48_75) rfl kt) ?_
  show own_Go p e below _ (s₁.setTop (mkF m 76 #[.val (.int (((15 : Int32).toUInt32 >>> ((2 : Int32) &&& 31).toUInt32).toInt32)), .val (.int ((1 : Int32) + (2 : Int32)))] [(.int (((15 : Int32).toUInt32 >>> ((2 : Int32) &&& 31).toUInt32).toInt32)), (.int ((1 : Int32) + (2 : Int32)))]))
  refine own_Go.st (fun _ kt => XS.iconst X0.here hx rfl (hb hby own_d_jdk_33_48_76) kt) ?_
  show own_Go p e below _ (s₁.setTop (mkF m 77 #[.val (.int (((15 : Int32).toUInt32 >>> ((2 : Int32) &&& 31).toUInt32).toInt32)), .val (.int ((1 : Int32) + (2 : Int32)))] [(.int (1 : Int32)), (.int (((15 : Int32).toUInt32 >>> ((2 : Int32) &&& 31).toUInt32).toInt32)), (.int ((1 : Int32) + (2 : Int32)))]))
  refine own_Go.st (fun _ kt => XS.iushr X0.here hx rfl (hb hby own_d_jdk_33_48_77) rfl kt) ?_
  show own_Go p e below _ (s₁.setTop (mkF m 78 #[.val (.int (((15 : Int32).toUInt32 >>> ((2 : Int32) &&& 31).toUInt32).toInt32)), .val (.int ((1 : Int32) + (2 : Int32)))] [(.int (((((15 : Int32).toUInt32 >>> ((2 : Int32) &&& 31).toUInt32).toInt32).toUInt32 >>> ((1 : Int32) &&& 31).toUInt32).toInt32)), (.int ((1 : Int32) + (2 : Int32)))]))
  refine own_Go.st (fun _ kt => XS.iadd X0.here hx rfl (hb hby own_d_jdk_33_48_78) rfl kt) ?_
  show own_Go p e below _ (s₁.setTop (mkF m 79 #[.val (.int (((15 : Int32).toUInt32 >>> ((2 : Int32) &&& 31).toUInt32).toInt32)), .val (.int ((1 : Int32) + (2 : Int32)))] [(.int (((1 : Int32) + (2 : Int32)) + (((((15 : Int32).toUInt32 >>> ((2 : Int32) &&& 31).toUInt32).toInt32).toUInt32 >>> ((1 : Int32) &&& 31).toUInt32).toInt32)))]))
  rw [show (((1 : Int32) + (2 : Int32)) + (((((15 : Int32).toUInt32 >>> ((2 : Int32) &&& 31).toUInt32).toInt32).toUInt32 >>> ((1 : Int32) &&& 31).toUInt32).toInt32)) = (4 : Int32) from (by decide)]
  show own_Go p e below _ (s₁.setTop (mkF m 79 #[.val (.int (((15 : Int32).toUInt32 >>> ((2 : Int32) &&& 31).toUInt32).toInt32)), .val (.int ((1 : Int32) + (2 : Int32)))] [(.int (4 : Int32))]))
  exact own_retI X0 hx Bd.notSynchronized Bd.returns (hb hby own_d_jdk_33_48_79) (by decide) (by decide) ⟨rfl, N0, e0⟩
theorem own_pn1 : plainName "java/lang/Long" = true := by first | (simp [plainName, overriddenIn]; done) | decide +kernel
theorem own_ef2 (m : MethodId) (x0 : Int64) : entryFrame m #[(.long x0)] 3 = mkF m 0 #[.val (.long x0), .second, .unset] [] := by first | (simp [entryFrame, mkF, argsToLocals, Value.category]; done) | rfl
theorem own_d_jdk_35_49_0 : decode jdk_35_method_49_code 0 = .ok (.lload_n 0, 1) := by decide +kernel
theorem own_d_jdk_35_49_1 : decode jdk_35_method_49_code 1 = .ok (.l2i, 1) := by decide +kernel
theorem own_d_jdk_35_49_2 : decode jdk_35_method_49_code 2 = .ok (.istore_n 2, 1) := by decide +kernel
theorem own_d_jdk_35_49_3 : decode jdk_35_method_49_code 3 = .ok (.iload_n 2, 1) := by decide +kernel
theorem own_d_jdk_35_49_4 : decode jdk_35_method_49_code 4 = .ok (.ifCond .ne 17, 3) := by decide +kernel
theorem own_d_jdk_35_49_21 : decode jdk_35_method_49_code 21 = .ok (.iload_n 2, 1) := by decide +kernel
theorem own_d_jdk_35_49_22 : decode jdk_35_method_49_code 22 = .ok (.invokestatic 311, 3) := by decide +kernel
theorem own_pd0 : parseMethodDescriptor "(I)I" = some ⟨[.int], some .int⟩ := by decide +kernel
theorem own_d_jdk_35_49_25 : decode jdk_35_method_49_code 25 = .ok (.ireturn, 1) := by decide +kernel
def own_Q_own_ntzL (Z : State)  (h0 : Heap) (n0 : Nat) (v : Option Value) (h : Heap) (L : List Loc) : Prop := v = some (.int 4) ∧ Fr n0 L ∧ h = h0
set_option maxRecDepth 65536 in
set_option maxHeartbeats 40000000 in
theorem own_ntzL (l : Launch) (Z : State) (a0 : Array Value) (hw : ∀ d ∈ tables_1, d.before a0 Z = true) (ws : List Jvm.Cond)  (h0 : Heap) (n0 : Nat) (Z0 : n0 ≤ h0.size)  :
    MetFree l (⟨"java/lang/Long", "numberOfTrailingZeros", "(J)I"⟩ : MethodName) (head1 (Jvm.Cond.code (⟨"java/lang/Long", "numberOfTrailingZeros", "(J)I"⟩ : MethodName) jdk_35_method_49_code 3 (some .int) :: ws) ({ frames := 1, cells := 0, slots := 0, locals := 13 } : Room)) (fun av_ U => av_ = #[(.long (16 : Int64))] ∧ Z.Warmed39 U.vm ∧ U.heap = h0) (fun _ _ _ _ _ => True) (fun _ U o U' => ∃ v L, o = .returned v ∧ own_Q_own_ntzL Z  h0 n0 v U'.heap L ∧ FrameEnd U o U' L ({ frames := 1, cells := 0, slots := 0, locals := 13 } : Room).cells ({ frames := 1, cells := 0, slots := 0, locals := 13 } : Room).slots) := by
  refine MetFree.of_bodySF (plainFor_of_name own_pn1) hisR ?_
  intro p e s m args below meth c s₁ Bd hml0 hP hK
  obtain ⟨rfl, hZ, hh⟩ := hP
  have hx := Bd.exec
  have hby := Bd.bytes
  have hml : c.maxLocals = 3 := hml0
  have hown : s.vm.findClass "java/lang/Long" = some m.cls := findClass_of_methodNamed Bd.named
  have hnm := (name_of_methodNamed Bd.named Bd.method).1
  have X0 : Stand p l e ({ frames := 1, cells := 0, slots := 0, locals := 13 } : Room) s m #[(.long (16 : Int64))] below meth c s₁ [] 0 0 := Stand.of_body Bd
  have e0 : s₁.heap = h0 := by rw [← hh, Bd.state]; rfl
  have N0 := Fr.nil n0
  suffices hgo : own_Go p e below (fun o U' => ∃ v L, o = .returned v ∧ own_Q_own_ntzL Z  h0 n0 v U'.heap L ∧ FrameEnd s o U' L ({ frames := 1, cells := 0, slots := 0, locals := 13 } : Room).cells ({ frames := 1, cells := 0, slots := 0, locals := 13 } : Room).slots) (s₁.setTop (mkF m 0 #[.val (.long (16 : Int64)), .second, .unset] [])) by
    obtain ⟨s₂, o, h1, h2, h3, h4⟩ := hgo
    exact ⟨s₂, o, castTop (own_ef2 m (16 : Int64)) h1, h2, h3, h4⟩
  show own_Go p e below _ (s₁.setTop (mkF m 0 #[.val (.long (16 : Int64)), .second, .unset] []))
  refine own_Go.st (fun _ kt => XS.lloadN X0.here hx rfl (hb hby own_d_jdk_35_49_0) rfl kt) ?_
  show own_Go p e below _ (s₁.setTop (mkF m 1 #[.val (.long (16 : Int64)), .second, .unset] [(.long (16 : Int64))]))
  refine own_Go.st (fun _ kt => XS.l2i X0.here hx rfl (hb hby own_d_jdk_35_49_1) rfl kt) ?_
  show own_Go p e below _ (s₁.setTop (mkF m 2 #[.val (.long (16 : Int64)), .second, .unset] [(.int ((16 : Int64).toInt32))]))
  rw [show ((16 : Int64).toInt32) = (16 : Int32) from (by decide)]
  show own_Go p e below _ (s₁.setTop (mkF m 2 #[.val (.long (16 : Int64)), .second, .unset] [(.int (16 : Int32))]))
  refine own_Go.st (fun _ kt => XS.istoreN X0.here hx rfl (hb hby own_d_jdk_35_49_2) rfl (l' := #[.val (.long (16 : Int64)), .second, .val (.int (16 : Int32))]) rfl kt) ?_
  show own_Go p e below _ (s₁.setTop (mkF m 3 #[.val (.long (16 : Int64)), .second, .val (.int (16 : Int32))] []))
  refine own_Go.st (fun _ kt => XS.iloadN X0.here hx rfl (hb hby own_d_jdk_35_49_3) rfl kt) ?_
  show own_Go p e below _ (s₁.setTop (mkF m 4 #[.val (.long (16 : Int64)), .second, .val (.int (16 : Int32))] [(.int (16 : Int32))]))
  refine own_Go.st (fun _ kt => XS.ifYes X0.here hx rfl (pc0 := 4) (pc' := 21) rfl (hb hby own_d_jdk_35_49_4) rfl ((if0 _ _).trans (feq (by decide)).2) (by decide) (by decide) kt) ?_
  show own_Go p e below _ (s₁.setTop (mkF m 21 #[.val (.long (16 : Int64)), .second, .val (.int (16 : Int32))] []))
  refine own_Go.st (fun _ kt => XS.iloadN X0.here hx rfl (hb hby own_d_jdk_35_49_21) rfl kt) ?_
  show own_Go p e below _ (s₁.setTop (mkF m 22 #[.val (.long (16 : Int64)), .second, .val (.int (16 : Int32))] [(.int (16 : Int32))]))
  obtain ⟨_, _, ⟨T1, L1, k1, n1⟩, -, X1, ⟨Lc1, hQ1, l1, y1, z1⟩, st1⟩ := Jvm.LawKit.callS X0 hx (y := (⟨"java/lang/Integer", "numberOfTrailingZeros", "(I)I"⟩ : MethodName)) hown (mvT hZ (hw _ (List.mem_of_getElem? (i := 54) rfl))) (mvT hZ (hw _ (List.mem_of_getElem? (i := 55) rfl))) (mvT hZ (hw _ (List.mem_of_getElem? (i := 31) rfl))) (mvT hZ (hw _ (List.mem_of_getElem? (i := 56) rfl))) (by decide) (backOf (W := 0) (own_ntzI l Z a0 hw []  h0 n0 Z0 ) hZ (hw _ (List.mem_of_getElem? (i := 56) rfl)) (hw _ (List.mem_of_getElem? (i := 31) rfl)) (by decide) (by decide)) (g := (mkF m 22 #[.val (.long (16 : Int64)), .second, .val (.int (16 : Int32))] [(.int (16 : Int32))])) rfl (by rw [hml]; rfl) (argsL := [(.int (16 : Int32))]) (rest := []) (lenOf own_pd0 rfl) rfl (by show 2 * 0 + _ ≤ _; exact Nat.le_of_eq rfl) (hb hby own_d_jdk_35_49_22) (fun _ _ => ⟨rfl, e0, (by decide : 0 + 0 ≤ _), (by decide : 0 + 0 ≤ _)⟩)
  dsimp only [Pt.U, Pt.locs, Pt.cells, Pt.slots] at X1 l1 y1 z1 st1 hQ1
  subst l1 y1 z1
  obtain ⟨rfl, N1q, hh1⟩ := hQ1
  have N1 := Fr.app N0 N1q
  refine own_Go.st (fun _ kt => st1 _ kt) ?_
  show own_Go p e below _ (T1.setTop (mkF m 25 #[.val (.long (16 : Int64)), .second, .val (.int (16 : Int32))] [(.int (4 : Int32))]))
  exact own_retI X1 hx Bd.notSynchronized Bd.returns (hb hby own_d_jdk_35_49_25) (by decide) (by decide) ⟨rfl, N1, hh1⟩
theorem own_pn2 : plainName "com/example/thicket/thicket/PageMap" = true := by first | (simp [plainName, overriddenIn]; done) | decide +kernel
theorem own_ef3 (m : MethodId) (x0 : Addr) (x1 : Int64) : entryFrame m #[(.ref x0), (.long x1)] 3 = mkF m 0 #[.val (.ref x0), .val (.long x1), .second] [] := by first | (simp [entryFrame, mkF, argsToLocals, Value.category]; done) | rfl
theorem own_d_prog_77_11_0 : decode prog_77_method_11_code 0 = .ok (.lload_n 1, 1) := by decide +kernel
theorem own_d_prog_77_11_1 : decode prog_77_method_11_code 1 = .ok (.ldc2_w 57, 3) := by decide +kernel
theorem own_d_prog_77_11_4 : decode prog_77_method_11_code 4 = .ok (.lmul, 1) := by decide +kernel
theorem own_d_prog_77_11_5 : decode prog_77_method_11_code 5 = .ok (.bipush 64, 2) := by decide +kernel
theorem own_d_prog_77_11_7 : decode prog_77_method_11_code 7 = .ok (.aload_n 0, 1) := by decide +kernel
theorem own_d_prog_77_11_8 : decode prog_77_method_11_code 8 = .ok (.getfield 20, 3) := by decide +kernel
theorem own_d_prog_77_11_11 : decode prog_77_method_11_code 11 = .ok (.arraylength, 1) := by decide +kernel
theorem own_d_prog_77_11_12 : decode prog_77_method_11_code 12 = .ok (.i2l, 1) := by decide +kernel
theorem own_d_prog_77_11_13 : decode prog_77_method_11_code 13 = .ok (.invokestatic 59, 3) := by decide +kernel
theorem own_pd1 : parseMethodDescriptor "(J)I" = some ⟨[.long], some .int⟩ := by decide +kernel
theorem own_d_prog_77_11_16 : decode prog_77_method_11_code 16 = .ok (.isub, 1) := by decide +kernel
theorem own_d_prog_77_11_17 : decode prog_77_method_11_code 17 = .ok (.lushr, 1) := by decide +kernel
theorem own_d_prog_77_11_18 : decode prog_77_method_11_code 18 = .ok (.l2i, 1) := by decide +kernel
theorem own_d_prog_77_11_19 : decode prog_77_method_11_code 19 = .ok (.ireturn, 1) := by decide +kernel
def own_Q_own_home (Z : State) (ob rp : Addr) (xp : Int64) (f : Nat → Int64) (h0 : Heap) (n0 : Nat) (v : Option Value) (h : Heap) (L : List Loc) : Prop := v = some (.int (own_homeI xp)) ∧ Fr n0 L ∧ h = h0
set_option maxRecDepth 65536 in
set_option maxHeartbeats 40000000 in
theorem own_home (l : Launch) (Z : State) (a0 : Array Value) (hw : ∀ d ∈ tables_1, d.before a0 Z = true) (ws : List Jvm.Cond) (ob rp : Addr) (xp : Int64) (f : Nat → Int64) (h0 : Heap) (n0 : Nat) (Z0 : n0 ≤ h0.size) (fP : Fld Z h0 ob "com/example/thicket/thicket/PageMap" "pages" "[J" (.ref rp)) (aP : own_Ar Z h0 rp .long 16 (fun j => .long (f j))) :
    MetFree l (⟨"com/example/thicket/thicket/PageMap", "home", "(J)I"⟩ : MethodName) (head1 (Jvm.Cond.code (⟨"com/example/thicket/thicket/PageMap", "home", "(J)I"⟩ : MethodName) prog_77_method_11_code 3 (some .int) :: ws) ({ frames := 2, cells := 0, slots := 0, locals := 30 } : Room)) (fun av_ U => av_ = #[(.ref ob), (.long xp)] ∧ Z.Warmed39 U.vm ∧ U.heap = h0) (fun _ _ _ _ _ => True) (fun _ U o U' => ∃ v L, o = .returned v ∧ own_Q_own_home Z ob rp xp f h0 n0 v U'.heap L ∧ FrameEnd U o U' L ({ frames := 2, cells := 0, slots := 0, locals := 30 } : Room).cells ({ frames := 2, cells := 0, slots := 0, locals := 30 } : Room).slots) := by
  refine MetFree.of_bodySF (plainFor_of_name own_pn2) hisR ?_
  intro p e s m args below meth c s₁ Bd hml0 hP hK
  obtain ⟨rfl, hZ, hh⟩ := hP
  have hx := Bd.exec
  have hby := Bd.bytes
  have hml : c.maxLocals = 3 := hml0
  have hown : s.vm.findClass "com/example/thicket/thicket/PageMap" = some m.cls := findClass_of_methodNamed Bd.named
  have hnm := (name_of_methodNamed Bd.named Bd.method).1
  have X0 : Stand p l e ({ frames := 2, cells := 0, slots := 0, locals := 30 } : Room) s m #[(.ref ob), (.long xp)] below meth c s₁ [] 0 0 := Stand.of_body Bd
  have e0 : s₁.heap = h0 := by rw [← hh, Bd.state]; rfl
  have N0 := Fr.nil n0
  suffices hgo : own_Go p e below (fun o U' => ∃ v L, o = .returned v ∧ own_Q_own_home Z ob rp xp f h0 n0 v U'.heap L ∧ FrameEnd s o U' L ({ frames := 2, cells := 0, slots := 0, locals := 30 } : Room).cells ({ frames := 2, cells := 0, slots := 0, locals := 30 } : Room).slots) (s₁.setTop (mkF m 0 #[.val (.ref ob), .val (.long xp), .second] [])) by
    obtain ⟨s₂, o, h1, h2, h3, h4⟩ := hgo
    exact ⟨s₂, o, castTop (own_ef3 m ob xp) h1, h2, h3, h4⟩
  show own_Go p e below _ (s₁.setTop (mkF m 0 #[.val (.ref ob), .val (.long xp), .second] []))
  refine own_Go.st (fun _ kt => XS.lloadN X0.here hx rfl (hb hby own_d_prog_77_11_0) rfl kt) ?_
  show own_Go p e below _ (s₁.setTop (mkF m 1 #[.val (.ref ob), .val (.long xp), .second] [(.long xp)]))
  refine own_Go.st (fun _ kt => X0.ldc2J hx hown (mvT hZ (hw _ (List.mem_of_getElem? (i := 49) rfl))) rfl (hb hby own_d_prog_77_11_1) kt) ?_
  show own_Go p e below _ (s₁.setTop (mkF m 4 #[.val (.ref ob), .val (.long xp), .second] [(.long (-7046029254386353131 : Int64)), (.long xp)]))
  refine own_Go.st (fun _ kt => XS.lmul X0.here hx rfl (hb hby own_d_prog_77_11_4) rfl kt) ?_
  show own_Go p e below _ (s₁.setTop (mkF m 5 #[.val (.ref ob), .val (.long xp), .second] [(.long (xp * (-7046029254386353131 : Int64)))]))
  refine own_Go.st (fun _ kt => XS.bipush X0.here hx rfl (hb hby own_d_prog_77_11_5) kt) ?_
  show own_Go p e below _ (s₁.setTop (mkF m 7 #[.val (.ref ob), .val (.long xp), .second] [(.int (64 : Int32)), (.long (xp * (-7046029254386353131 : Int64)))]))
  refine own_Go.st (fun _ kt => XS.aloadN X0.here hx rfl (hb hby own_d_prog_77_11_7) rfl rfl kt) ?_
  show own_Go p e below _ (s₁.setTop (mkF m 8 #[.val (.ref ob), .val (.long xp), .second] [(.ref ob), (.int (64 : Int32)), (.long (xp * (-7046029254386353131 : Int64)))]))
  obtain ⟨T1, X1, e1, st1⟩ := getF X0 hx hZ hown (host := "") (Or.inl (hw _ (List.mem_of_getElem? (i := 16) rfl))) Via.refl e0 fP (g := (mkF m 8 #[.val (.ref ob), .val (.long xp), .second] [(.ref ob), (.int (64 : Int32)), (.long (xp * (-7046029254386353131 : Int64)))])) rfl rfl (hb hby own_d_prog_77_11_8)
  refine own_Go.st st1 ?_
  show own_Go p e below _ (T1.setTop (mkF m 11 #[.val (.ref ob), .val (.long xp), .second] [(.ref rp), (.int (64 : Int32)), (.long (xp * (-7046029254386353131 : Int64)))]))
  refine own_Go.st (fun _ kt => own_alen X1 hx hZ e1 aP (z := (16 : Int32)) (by decide) (g := (mkF m 11 #[.val (.ref ob), .val (.long xp), .second] [(.ref rp), (.int (64 : Int32)), (.long (xp * (-7046029254386353131 : Int64)))])) rfl rfl (hb hby own_d_prog_77_11_11) _ kt) ?_
  show own_Go p e below _ (T1.setTop (mkF m 12 #[.val (.ref ob), .val (.long xp), .second] [(.int (16 : Int32)), (.int (64 : Int32)), (.long (xp * (-7046029254386353131 : Int64)))]))
  refine own_Go.st (fun _ kt => XS.i2l X1.here hx rfl (hb hby own_d_prog_77_11_12) rfl kt) ?_
  show own_Go p e below _ (T1.setTop (mkF m 13 #[.val (.ref ob), .val (.long xp), .second] [(.long ((16 : Int32).toInt64)), (.int (64 : Int32)), (.long (xp * (-7046029254386353131 : Int64)))]))
  rw [show ((16 : Int32).toInt64) = (16 : Int64) from (by decide)]
  show own_Go p e below _ (T1.setTop (mkF m 13 #[.val (.ref ob), .val (.long xp), .second] [(.long (16 : Int64)), (.int (64 : Int32)), (.long (xp * (-7046029254386353131 : Int64)))]))
  obtain ⟨_, _, ⟨T2, L2, k2, n2⟩, -, X2, ⟨Lc2, hQ2, l2, y2, z2⟩, st2⟩ := Jvm.LawKit.callS X1 hx (y := (⟨"java/lang/Long", "numberOfTrailingZeros", "(J)I"⟩ : MethodName)) hown (mvT hZ (hw _ (List.mem_of_getElem? (i := 50) rfl))) (mvT hZ (hw _ (List.mem_of_getElem? (i := 51) rfl))) (mvT hZ (hw _ (List.mem_of_getElem? (i := 52) rfl))) (mvT hZ (hw _ (List.mem_of_getElem? (i := 53) rfl))) (by decide) (backOf (W := 3) (own_ntzL l Z a0 hw []  h0 n0 Z0 ) hZ (hw _ (List.mem_of_getElem? (i := 53) rfl)) (hw _ (List.mem_of_getElem? (i := 52) rfl)) (by decide) (by decide)) (g := (mkF m 13 #[.val (.ref ob), .val (.long xp), .second] [(.long (16 : Int64)), (.int (64 : Int32)), (.long (xp * (-7046029254386353131 : Int64)))])) rfl (by rw [hml]; rfl) (argsL := [(.long (16 : Int64))]) (rest := [(.int (64 : Int32)), (.long (xp * (-7046029254386353131 : Int64)))]) (lenOf own_pd1 rfl) rfl (by show 2 * 0 + _ ≤ _; exact Nat.le_of_eq rfl) (hb hby own_d_prog_77_11_13) (fun _ _ => ⟨rfl, e1, (by decide : 0 + 0 ≤ _), (by decide : 0 + 0 ≤ _)⟩)
  dsimp only [Pt.U, Pt.locs, Pt.cells, Pt.slots] at X2 l2 y2 z2 st2 hQ2
  subst l2 y2 z2
  obtain ⟨rfl, N2q, hh2⟩ := hQ2
  have N2 := Fr.app N0 N2q
  refine own_Go.st (fun _ kt => st2 _ kt) ?_
  show own_Go p e below _ (T2.setTop (mkF m 16 #[.val (.ref ob), .val (.long xp), .second] [(.int (4 : Int32)), (.int (64 : Int32)), (.long (xp * (-7046029254386353131 : Int64)))]))
  refine own_Go.st (fun _ kt => XS.isub X2.here hx rfl (hb hby own_d_prog_77_11_16) rfl kt) ?_
  show own_Go p e below _ (T2.setTop (mkF m 17 #[.val (.ref ob), .val (.long xp), .second] [(.int ((64 : Int32) - (4 : Int32))), (.long (xp * (-7046029254386353131 : Int64)))]))
  rw [show ((64 : Int32) - (4 : Int32)) = (60 : Int32) from (by decide)]
  show own_Go p e below _ (T2.setTop (mkF m 17 #[.val (.ref ob), .val (.long xp), .second] [(.int (60 : Int32)), (.long (xp * (-7046029254386353131 : Int64)))]))
  refine own_Go.st (fun _ kt => XS.lushr X2.here hx rfl (hb hby own_d_prog_77_11_17) rfl kt) ?_
  show own_Go p e below _ (T2.setTop (mkF m 18 #[.val (.ref ob), .val (.long xp), .second] [(.long (((xp * (-7046029254386353131 : Int64)).toUInt64 >>> ((60 : Int32) &&& 0x3f).toInt64.toUInt64).toInt64))]))
  refine own_Go.st (fun _ kt => XS.l2i X2.here hx rfl (hb hby own_d_prog_77_11_18) rfl kt) ?_
  show own_Go p e below _ (T2.setTop (mkF m 19 #[.val (.ref ob), .val (.long xp), .second] [(.int ((((xp * (-7046029254386353131 : Int64)).toUInt64 >>> ((60 : Int32) &&& 0x3f).toInt64.toUInt64).toInt64).toInt32))]))
  exact own_retI X2 hx Bd.notSynchronized Bd.returns (hb hby own_d_prog_77_11_19) (by decide) (by decide) ⟨rfl, N2, hh2⟩
theorem own_ef4 (m : MethodId) (x0 : Addr) (x1 : Int64) : entryFrame m #[(.ref x0), (.long x1)] 5 = mkF m 0 #[.val (.ref x0), .val (.long x1), .second, .unset, .unset] [] := by first | (simp [entryFrame, mkF, argsToLocals, Value.category]; done) | rfl
theorem own_d_prog_77_10_0 : decode prog_77_method_10_code 0 = .ok (.aload_n 0, 1) := by decide +kernel
theorem own_d_prog_77_10_1 : decode prog_77_method_10_code 1 = .ok (.getfield 20, 3) := by decide +kernel
theorem own_d_prog_77_10_4 : decode prog_77_method_10_code 4 = .ok (.arraylength, 1) := by decide +kernel
theorem own_d_prog_77_10_5 : decode prog_77_method_10_code 5 = .ok (.iconst 1, 1) := by decide +kernel
theorem own_d_prog_77_10_6 : decode prog_77_method_10_code 6 = .ok (.isub, 1) := by decide +kernel
theorem own_d_prog_77_10_7 : decode prog_77_method_10_code 7 = .ok (.istore_n 3, 1) := by decide +kernel
theorem own_d_prog_77_10_8 : decode prog_77_method_10_code 8 = .ok (.aload_n 0, 1) := by decide +kernel
theorem own_d_prog_77_10_9 : decode prog_77_method_10_code 9 = .ok (.lload_n 1, 1) := by decide +kernel
theorem own_d_prog_77_10_10 : decode prog_77_method_10_code 10 = .ok (.invokevirtual 37, 3) := by decide +kernel
theorem own_d_prog_77_10_13 : decode prog_77_method_10_code 13 = .ok (.istore 4, 2) := by decide +kernel
theorem own_d_prog_77_10_15 : decode prog_77_method_10_code 15 = .ok (.aload_n 0, 1) := by decide +kernel
theorem own_d_prog_77_10_16 : decode prog_77_method_10_code 16 = .ok (.getfield 20, 3) := by decide +kernel
theorem own_d_prog_77_10_19 : decode prog_77_method_10_code 19 = .ok (.iload 4, 2) := by decide +kernel
theorem own_d_prog_77_10_21 : decode prog_77_method_10_code 21 = .ok (.laload, 1) := by decide +kernel
theorem own_d_prog_77_10_22 : decode prog_77_method_10_code 22 = .ok (.lload_n 1, 1) := by decide +kernel
theorem own_d_prog_77_10_23 : decode prog_77_method_10_code 23 = .ok (.lcmp, 1) := by decide +kernel
theorem own_d_prog_77_10_24 : decode prog_77_method_10_code 24 = .ok (.ifCond .eq 28, 3) := by decide +kernel
theorem own_d_prog_77_10_52 : decode prog_77_method_10_code 52 = .ok (.iload 4, 2) := by decide +kernel
theorem own_d_prog_77_10_54 : decode prog_77_method_10_code 54 = .ok (.ireturn, 1) := by decide +kernel
theorem own_d_prog_77_10_27 : decode prog_77_method_10_code 27 = .ok (.aload_n 0, 1) := by decide +kernel
theorem own_d_prog_77_10_28 : decode prog_77_method_10_code 28 = .ok (.getfield 20, 3) := by decide +kernel
theorem own_d_prog_77_10_31 : decode prog_77_method_10_code 31 = .ok (.iload 4, 2) := by decide +kernel
theorem own_d_prog_77_10_33 : decode prog_77_method_10_code 33 = .ok (.laload, 1) := by decide +kernel
theorem own_d_prog_77_10_34 : decode prog_77_method_10_code 34 = .ok (.ldc2_w 35, 3) := by decide +kernel
theorem own_d_prog_77_10_37 : decode prog_77_method_10_code 37 = .ok (.lcmp, 1) := by decide +kernel
theorem own_d_prog_77_10_38 : decode prog_77_method_10_code 38 = .ok (.ifCond .eq 14, 3) := by decide +kernel
theorem own_d_prog_77_10_41 : decode prog_77_method_10_code 41 = .ok (.iload 4, 2) := by decide +kernel
theorem own_d_prog_77_10_43 : decode prog_77_method_10_code 43 = .ok (.iconst 1, 1) := by decide +kernel
theorem own_d_prog_77_10_44 : decode prog_77_method_10_code 44 = .ok (.iadd, 1) := by decide +kernel
theorem own_d_prog_77_10_45 : decode prog_77_method_10_code 45 = .ok (.iload_n 3, 1) := by decide +kernel
theorem own_d_prog_77_10_46 : decode prog_77_method_10_code 46 = .ok (.iand, 1) := by decide +kernel
theorem own_d_prog_77_10_47 : decode prog_77_method_10_code 47 = .ok (.istore 4, 2) := by decide +kernel
theorem own_d_prog_77_10_49 : decode prog_77_method_10_code 49 = .ok (.goto (-34), 3) := by decide +kernel
def own_Q_own_find (Z : State) (ob rp : Addr) (xp : Int64) (f : Nat → Int64) (d0 : Nat) (h0 : Heap) (n0 : Nat) (v : Option Value) (h : Heap) (L : List Loc) : Prop := ∃ z, v = some (.int z) ∧ Fr n0 L ∧ z.toInt = (own_P xp d0 : Int) ∧ h = h0
set_option maxRecDepth 65536 in
set_option maxHeartbeats 40000000 in
theorem own_find (l : Launch) (Z : State) (a0 : Array Value) (hw : ∀ d ∈ tables_1, d.before a0 Z = true) (ws : List Jvm.Cond) (ob rp : Addr) (xp : Int64) (f : Nat → Int64) (d0 : Nat) (h0 : Heap) (n0 : Nat) (Z0 : n0 ≤ h0.size) (fE : Exa Z h0 ob "com/example/thicket/thicket/PageMap") (fP : Fld Z h0 ob "com/example/thicket/thicket/PageMap" "pages" "[J" (.ref rp)) (aP : own_Ar Z h0 rp .long 16 (fun j => .long (f j))) (hd0 : d0 < 16) (hs : f (own_P xp d0) = xp ∨ f (own_P xp d0) = -1) (hbf : ∀ c, c < d0 → ¬ (f (own_P xp c) = xp ∨ f (own_P xp c) = -1)) :
    MetFree l (⟨"com/example/thicket/thicket/PageMap", "find", "(J)I"⟩ : MethodName) (head1 (Jvm.Cond.code (⟨"com/example/thicket/thicket/PageMap", "find", "(J)I"⟩ : MethodName) prog_77_method_10_code 5 (some .int) :: ws) ({ frames := 3, cells := 0, slots := 0, locals := 44 } : Room)) (fun av_ U => av_ = #[(.ref ob), (.long xp)] ∧ Z.Warmed39 U.vm ∧ U.heap = h0) (fun _ _ _ _ _ => True) (fun _ U o U' => ∃ v L, o = .returned v ∧ own_Q_own_find Z ob rp xp f d0 h0 n0 v U'.heap L ∧ FrameEnd U o U' L ({ frames := 3, cells := 0, slots := 0, locals := 44 } : Room).cells ({ frames := 3, cells := 0, slots := 0, locals := 44 } : Room).slots) := by
  refine MetFree.of_bodySF (plainFor_of_name own_pn2) hisR ?_
  intro p e s m args below meth c s₁ Bd hml0 hP hK
  obtain ⟨rfl, hZ, hh⟩ := hP
  have hx := Bd.exec
  have hby := Bd.bytes
  have hml : c.maxLocals = 5 := hml0
  have hown : s.vm.findClass "com/example/thicket/thicket/PageMap" = some m.cls := findClass_of_methodNamed Bd.named
  have hnm := (name_of_methodNamed Bd.named Bd.method).1
  have X0 : Stand p l e ({ frames := 3, cells := 0, slots := 0, locals := 44 } : Room) s m #[(.ref ob), (.long xp)] below meth c s₁ [] 0 0 := Stand.of_body Bd
  have e0 : s₁.heap = h0 := by rw [← hh, Bd.state]; rfl
  have N0 := Fr.nil n0
  suffices hgo : own_Go p e below (fun o U' => ∃ v L, o = .returned v ∧ own_Q_own_find Z ob rp xp f d0 h0 n0 v U'.heap L ∧ FrameEnd s o U' L ({ frames := 3, cells := 0, slots := 0, locals := 44 } : Room).cells ({ frames := 3, cells := 0, slots := 0, locals := 44 } : Room).slots) (s₁.setTop (mkF m 0 #[.val (.ref ob), .val (.long xp), .second, .unset, .unset] [])) by
    obtain ⟨s₂, o, h1, h2, h3, h4⟩ := hgo
    exact ⟨s₂, o, castTop (own_ef4 m ob xp) h1, h2, h3, h4⟩
  show own_Go p e below _ (s₁.setTop (mkF m 0 #[.val (.ref ob), .val (.long xp), .second, .unset, .unset] []))
  refine own_Go.st (fun _ kt => XS.aloadN X0.here hx rfl (hb hby own_d_prog_77_10_0) rfl rfl kt) ?_
  show own_Go p e below _ (s₁.setTop (mkF m 1 #[.val (.ref ob), .val (.long xp), .second, .unset, .unset] [(.ref ob)]))
  obtain ⟨T1, X1, e1, st1⟩ := getF X0 hx hZ hown (host := "") (Or.inl (hw _ (List.mem_of_getElem? (i := 16) rfl))) Via.refl e0 fP (g := (mkF m 1 #[.val (.ref ob), .val (.long xp), .second, .unset, .unset] [(.ref ob)])) rfl rfl (hb hby own_d_prog_77_10_1)
  refine own_Go.st st1 ?_
  show own_Go p e below _ (T1.setTop (mkF m 4 #[.val (.ref ob), .val (.long xp), .second, .unset, .unset] [(.ref rp)]))
  refine own_Go.st (fun _ kt => own_alen X1 hx hZ e1 aP (z := (16 : Int32)) (by decide) (g := (mkF m 4 #[.val (.ref ob), .val (.long xp), .second, .unset, .unset] [(.ref rp)])) rfl rfl (hb hby own_d_prog_77_10_4) _ kt) ?_
  show own_Go p e below _ (T1.setTop (mkF m 5 #[.val (.ref ob), .val (.long xp), .second, .unset, .unset] [(.int (16 : Int32))]))
  refine own_Go.st (fun _ kt => XS.iconst X1.here hx rfl (hb hby own_d_prog_77_10_5) kt) ?_
  show own_Go p e below _ (T1.setTop (mkF m 6 #[.val (.ref ob), .val (.long xp), .second, .unset, .unset] [(.int (1 : Int32)), (.int (16 : Int32))]))
  refine own_Go.st (fun _ kt => XS.isub X1.here hx rfl (hb hby own_d_prog_77_10_6) rfl kt) ?_
  show own_Go p e below _ (T1.setTop (mkF m 7 #[.val (.ref ob), .val (.long xp), .second, .unset, .unset] [(.int ((16 : Int32) - (1 : Int32)))]))
  rw [show ((16 : Int32) - (1 : Int32)) = (15 : Int32) from (by decide)]
  show own_Go p e below _ (T1.setTop (mkF m 7 #[.val (.ref ob), .val (.long xp), .second, .unset, .unset] [(.int (15 : Int32))]))
  refine own_Go.st (fun _ kt => XS.istoreN X1.here hx rfl (hb hby own_d_prog_77_10_7) rfl (l' := #[.val (.ref ob), .val (.long xp), .second, .val (.int (15 : Int32)), .unset]) rfl kt) ?_
  show own_Go p e below _ (T1.setTop (mkF m 8 #[.val (.ref ob), .val (.long xp), .second, .val (.int (15 : Int32)), .unset] []))
  refine own_Go.st (fun _ kt => XS.aloadN X1.here hx rfl (hb hby own_d_prog_77_10_8) rfl rfl kt) ?_
  show own_Go p e below _ (T1.setTop (mkF m 9 #[.val (.ref ob), .val (.long xp), .second, .val (.int (15 : Int32)), .unset] [(.ref ob)]))
  refine own_Go.st (fun _ kt => XS.lloadN X1.here hx rfl (hb hby own_d_prog_77_10_9) rfl kt) ?_
  show own_Go p e below _ (T1.setTop (mkF m 10 #[.val (.ref ob), .val (.long xp), .second, .val (.int (15 : Int32)), .unset] [(.long xp), (.ref ob)]))
  obtain ⟨cq2, q2, q2'⟩ := Exa.cell fE
  obtain ⟨_, _, ⟨T2, L2, k2, n2⟩, -, X2, ⟨Lc2, hQ2, l2, y2, z2⟩, st2⟩ := X1.privateBack hx (y := (⟨"com/example/thicket/thicket/PageMap", "home", "(J)I"⟩ : MethodName)) hown (mvT hZ (hw _ (List.mem_of_getElem? (i := 45) rfl))) (mvT hZ (hw _ (List.mem_of_getElem? (i := 46) rfl))) (own_selp hZ (hw _ (List.mem_of_getElem? (i := 13) rfl)) rfl (hw _ (List.mem_of_getElem? (i := 46) rfl)) (hw _ (List.mem_of_getElem? (i := 47) rfl)) (by decide)) (Cond.privateMethod_at (mvP hZ (hw _ (List.mem_of_getElem? (i := 47) rfl)) (args := #[]))) (mvT hZ (hw _ (List.mem_of_getElem? (i := 48) rfl))) (by decide) (backOf (W := 0) (own_home l Z a0 hw [] ob rp xp f h0 n0 Z0 fP aP) hZ (hw _ (List.mem_of_getElem? (i := 48) rfl)) (hw _ (List.mem_of_getElem? (i := 3) rfl)) (by decide) (by decide)) (g := (mkF m 10 #[.val (.ref ob), .val (.long xp), .second, .val (.int (15 : Int32)), .unset] [(.long xp), (.ref ob)])) rfl (by rw [hml]; rfl) (Steps.refl _) (a := ob) (by rw [e1]; exact q2) q2' (argsL := [(.long xp)]) (rest := []) (lenOf own_pd1 rfl) rfl (by show 2 * 0 + _ ≤ _; exact Nat.le_of_eq rfl) (hb hby own_d_prog_77_10_10) (fun _ _ => ⟨rfl, e1, (by decide : 0 + 0 ≤ _), (by decide : 0 + 0 ≤ _)⟩)
  dsimp only [Pt.U, Pt.locs, Pt.cells, Pt.slots] at X2 l2 y2 z2 st2 hQ2
  subst l2 y2 z2
  obtain ⟨rfl, N2q, hh2⟩ := hQ2
  have N2 := Fr.app N0 N2q
  refine own_Go.st (fun _ kt => st2.trans kt) ?_
  show own_Go p e below _ (T2.setTop (mkF m 13 #[.val (.ref ob), .val (.long xp), .second, .val (.int (15 : Int32)), .unset] [(.int (own_homeI xp))]))
  refine own_Go.st (fun _ kt => XS.istore X2.here hx rfl (hb hby own_d_prog_77_10_13) rfl (l' := #[.val (.ref ob), .val (.long xp), .second, .val (.int (15 : Int32)), .val (.int (own_homeI xp))]) rfl kt) ?_
  show own_Go p e below _ (T2.setTop (mkF m 15 #[.val (.ref ob), .val (.long xp), .second, .val (.int (15 : Int32)), .val (.int (own_homeI xp))] []))
  have LO : ∀ (td : Nat) (T3 : State) (lc3 : List Loc) (X3 : Stand p l e ({ frames := 3, cells := 0, slots := 0, locals := 44 } : Room) s m #[(.ref ob), (.long xp)] below meth c T3 lc3 0 0) (e3 : T3.heap = h0) (N3 : Fr n0 lc3) (d : Nat) (xz : Int32) (hd : d + td = d0) (hz : xz.toInt = (own_P xp d : Int)), own_Go p e below (fun o U' => ∃ v L, o = .returned v ∧ own_Q_own_find Z ob rp xp f d0 h0 n0 v U'.heap L ∧ FrameEnd s o U' L ({ frames := 3, cells := 0, slots := 0, locals := 44 } : Room).cells ({ frames := 3, cells := 0, slots := 0, locals := 44 } : Room).slots) (T3.setTop (mkF m 15 #[.val (.ref ob), .val (.long xp), .second, .val (.int (15 : Int32)), .val (.int xz)] [])) := by
    intro td
    induction td using Nat.strongRecOn with
    | ind td IH =>
      intro T3 lc3 X3 e3 N3 d xz hd hz
      show own_Go p e below _ (T3.setTop (mkF m 15 #[.val (.ref ob), .val (.long xp), .second, .val (.int (15 : Int32)), .val (.int xz)] []))
      refine own_Go.st (fun _ kt => XS.aloadN X3.here hx rfl (hb hby own_d_prog_77_10_15) rfl rfl kt) ?_
      show own_Go p e below _ (T3.setTop (mkF m 16 #[.val (.ref ob), .val (.long xp), .second, .val (.int (15 : Int32)), .val (.int xz)] [(.ref ob)]))
      obtain ⟨T4, X4, e4, st4⟩ := getF X3 hx hZ hown (host := "") (Or.inl (hw _ (List.mem_of_getElem? (i := 16) rfl))) Via.refl e3 fP (g := (mkF m 16 #[.val (.ref ob), .val (.long xp), .second, .val (.int (15 : Int32)), .val (.int xz)] [(.ref ob)])) rfl rfl (hb hby own_d_prog_77_10_16)
      refine own_Go.st st4 ?_
      show own_Go p e below _ (T4.setTop (mkF m 19 #[.val (.ref ob), .val (.long xp), .second, .val (.int (15 : Int32)), .val (.int xz)] [(.ref rp)]))
      refine own_Go.st (fun _ kt => XS.iload X4.here hx rfl (hb hby own_d_prog_77_10_19) rfl kt) ?_
      show own_Go p e below _ (T4.setTop (mkF m 21 #[.val (.ref ob), .val (.long xp), .second, .val (.int (15 : Int32)), .val (.int xz)] [(.int xz), (.ref rp)]))
      refine own_Go.st (fun _ kt => own_lld X4 hx hZ e4 aP hz (own_P_lt _ _) (v := (.long (f (own_P xp d)))) rfl (g := (mkF m 21 #[.val (.ref ob), .val (.long xp), .second, .val (.int (15 : Int32)), .val (.int xz)] [(.int xz), (.ref rp)])) rfl rfl (hb hby own_d_prog_77_10_21) _ kt) ?_
      show own_Go p e below _ (T4.setTop (mkF m 22 #[.val (.ref ob), .val (.long xp), .second, .val (.int (15 : Int32)), .val (.int xz)] [(.long (f (own_P xp d)))]))
      refine own_Go.st (fun _ kt => XS.lloadN X4.here hx rfl (hb hby own_d_prog_77_10_22) rfl kt) ?_
      show own_Go p e below _ (T4.setTop (mkF m 23 #[.val (.ref ob), .val (.long xp), .second, .val (.int (15 : Int32)), .val (.int xz)] [(.long xp), (.long (f (own_P xp d)))]))
      refine own_Go.st (fun _ kt => XS.lcmp X4.here hx rfl (hb hby own_d_prog_77_10_23) rfl kt) ?_
      show own_Go p e below _ (T4.setTop (mkF m 24 #[.val (.ref ob), .val (.long xp), .second, .val (.int (15 : Int32)), .val (.int xz)] [(.int (lcmpW (f (own_P xp d)) xp))]))
      by_cases hc1 : (f (own_P xp d)) = xp
      · refine own_Go.st (fun _ kt => XS.ifYes X4.here hx rfl (pc0 := 24) (pc' := 52) rfl (hb hby own_d_prog_77_10_24) rfl ((if0 _ _).trans (teq ((lw_eq _ _).mpr hc1)).1) (by decide) (by decide) kt) ?_
        show own_Go p e below _ (T4.setTop (mkF m 52 #[.val (.ref ob), .val (.long xp), .second, .val (.int (15 : Int32)), .val (.int xz)] []))
        refine own_Go.st (fun _ kt => XS.iload X4.here hx rfl (hb hby own_d_prog_77_10_52) rfl kt) ?_
        show own_Go p e below _ (T4.setTop (mkF m 54 #[.val (.ref ob), .val (.long xp), .second, .val (.int (15 : Int32)), .val (.int xz)] [(.int xz)]))
        have hq : d = d0 := by
          rcases Nat.lt_or_ge d d0 with q | q
          · exact absurd (Or.inl hc1) (hbf d q)
          · omega
        subst hq
        exact own_retI X4 hx Bd.notSynchronized Bd.returns (hb hby own_d_prog_77_10_54) (by decide) (by decide) ⟨_, rfl, N3, hz, e4⟩
      · refine own_Go.st (fun _ kt => XS.ifNo X4.here hx rfl (hb hby own_d_prog_77_10_24) rfl ((if0 _ _).trans (feq (mt (lw_eq _ _).mp hc1)).1) kt) ?_
        show own_Go p e below _ (T4.setTop (mkF m 27 #[.val (.ref ob), .val (.long xp), .second, .val (.int (15 : Int32)), .val (.int xz)] []))
        refine own_Go.st (fun _ kt => XS.aloadN X4.here hx rfl (hb hby own_d_prog_77_10_27) rfl rfl kt) ?_
        show own_Go p e below _ (T4.setTop (mkF m 28 #[.val (.ref ob), .val (.long xp), .second, .val (.int (15 : Int32)), .val (.int xz)] [(.ref ob)]))
        obtain ⟨T5, X5, e5, st5⟩ := getF X4 hx hZ hown (host := "") (Or.inl (hw _ (List.mem_of_getElem? (i := 16) rfl))) Via.refl e4 fP (g := (mkF m 28 #[.val (.ref ob), .val (.long xp), .second, .val (.int (15 : Int32)), .val (.int xz)] [(.ref ob)])) rfl rfl (hb hby own_d_prog_77_10_28)
        refine own_Go.st st5 ?_
        show own_Go p e below _ (T5.setTop (mkF m 31 #[.val (.ref ob), .val (.long xp), .second, .val (.int (15 : Int32)), .val (.int xz)] [(.ref rp)]))
        refine own_Go.st (fun _ kt => XS.iload X5.here hx rfl (hb hby own_d_prog_77_10_31) rfl kt) ?_
        show own_Go p e below _ (T5.setTop (mkF m 33 #[.val (.ref ob), .val (.long xp), .second, .val (.int (15 : Int32)), .val (.int xz)] [(.int xz), (.ref rp)]))
        refine own_Go.st (fun _ kt => own_lld X5 hx hZ e5 aP hz (own_P_lt _ _) (v := (.long (f (own_P xp d)))) rfl (g := (mkF m 33 #[.val (.ref ob), .val (.long xp), .second, .val (.int (15 : Int32)), .val (.int xz)] [(.int xz), (.ref rp)])) rfl rfl (hb hby own_d_prog_77_10_33) _ kt) ?_
        show own_Go p e below _ (T5.setTop (mkF m 34 #[.val (.ref ob), .val (.long xp), .second, .val (.int (15 : Int32)), .val (.int xz)] [(.long (f (own_P xp d)))]))
        refine own_Go.st (fun _ kt => X5.ldc2J hx hown (mvT hZ (hw _ (List.mem_of_getElem? (i := 18) rfl))) rfl (hb hby own_d_prog_77_10_34) kt) ?_
        show own_Go p e below _ (T5.setTop (mkF m 37 #[.val (.ref ob), .val (.long xp), .second, .val (.int (15 : Int32)), .val (.int xz)] [(.long (-1 : Int64)), (.long (f (own_P xp d)))]))
        refine own_Go.st (fun _ kt => XS.lcmp X5.here hx rfl (hb hby own_d_prog_77_10_37) rfl kt) ?_
        show own_Go p e below _ (T5.setTop (mkF m 38 #[.val (.ref ob), .val (.long xp), .second, .val (.int (15 : Int32)), .val (.int xz)] [(.int (lcmpW (f (own_P xp d)) (-1 : Int64)))]))
        by_cases hc2 : (f (own_P xp d)) = (-1 : Int64)
        · refine own_Go.st (fun _ kt => XS.ifYes X5.here hx rfl (pc0 := 38) (pc' := 52) rfl (hb hby own_d_prog_77_10_38) rfl ((if0 _ _).trans (teq ((lw_eq _ _).mpr hc2)).1) (by decide) (by decide) kt) ?_
          show own_Go p e below _ (T5.setTop (mkF m 52 #[.val (.ref ob), .val (.long xp), .second, .val (.int (15 : Int32)), .val (.int xz)] []))
          refine own_Go.st (fun _ kt => XS.iload X5.here hx rfl (hb hby own_d_prog_77_10_52) rfl kt) ?_
          show own_Go p e below _ (T5.setTop (mkF m 54 #[.val (.ref ob), .val (.long xp), .second, .val (.int (15 : Int32)), .val (.int xz)] [(.int xz)]))
          have hq : d = d0 := by
            rcases Nat.lt_or_ge d d0 with q | q
            · exact absurd (Or.inr hc2) (hbf d q)
            · omega
          subst hq
          exact own_retI X5 hx Bd.notSynchronized Bd.returns (hb hby own_d_prog_77_10_54) (by decide) (by decide) ⟨_, rfl, N3, hz, e5⟩
        · refine own_Go.st (fun _ kt => XS.ifNo X5.here hx rfl (hb hby own_d_prog_77_10_38) rfl ((if0 _ _).trans (feq (mt (lw_eq _ _).mp hc2)).1) kt) ?_
          show own_Go p e below _ (T5.setTop (mkF m 41 #[.val (.ref ob), .val (.long xp), .second, .val (.int (15 : Int32)), .val (.int xz)] []))
          refine own_Go.st (fun _ kt => XS.iload X5.here hx rfl (hb hby own_d_prog_77_10_41) rfl kt) ?_
          show own_Go p e below _ (T5.setTop (mkF m 43 #[.val (.ref ob), .val (.long xp), .second, .val (.int (15 : Int32)), .val (.int xz)] [(.int xz)]))
          refine own_Go.st (fun _ kt => XS.iconst X5.here hx rfl (hb hby own_d_prog_77_10_43) kt) ?_
          show own_Go p e below _ (T5.setTop (mkF m 44 #[.val (.ref ob), .val (.long xp), .second, .val (.int (15 : Int32)), .val (.int xz)] [(.int (1 : Int32)), (.int xz)]))
          refine own_Go.st (fun _ kt => XS.iadd X5.here hx rfl (hb hby own_d_prog_77_10_44) rfl kt) ?_
          show own_Go p e below _ (T5.setTop (mkF m 45 #[.val (.ref ob), .val (.long xp), .second, .val (.int (15 : Int32)), .val (.int xz)] [(.int (xz + (1 : Int32)))]))
          refine own_Go.st (fun _ kt => XS.iloadN X5.here hx rfl (hb hby own_d_prog_77_10_45) rfl kt) ?_
          show own_Go p e below _ (T5.setTop (mkF m 46 #[.val (.ref ob), .val (.long xp), .second, .val (.int (15 : Int32)), .val (.int xz)] [(.int (15 : Int32)), (.int (xz + (1 : Int32)))]))
          refine own_Go.st (fun _ kt => XS.iand X5.here hx rfl (hb hby own_d_prog_77_10_46) rfl kt) ?_
          show own_Go p e below _ (T5.setTop (mkF m 47 #[.val (.ref ob), .val (.long xp), .second, .val (.int (15 : Int32)), .val (.int xz)] [(.int ((xz + (1 : Int32)) &&& (15 : Int32)))]))
          refine own_Go.st (fun _ kt => XS.istore X5.here hx rfl (hb hby own_d_prog_77_10_47) rfl (l' := #[.val (.ref ob), .val (.long xp), .second, .val (.int (15 : Int32)), .val (.int ((xz + (1 : Int32)) &&& (15 : Int32)))]) rfl kt) ?_
          show own_Go p e below _ (T5.setTop (mkF m 49 #[.val (.ref ob), .val (.long xp), .second, .val (.int (15 : Int32)), .val (.int ((xz + (1 : Int32)) &&& (15 : Int32)))] []))
          refine own_Go.st (fun _ kt => XS.goto X5.here hx rfl (pc0 := 49) (pc' := 15) rfl (hb hby own_d_prog_77_10_49) (by decide) (by decide) kt) ?_
          show own_Go p e below _ (T5.setTop (mkF m 15 #[.val (.ref ob), .val (.long xp), .second, .val (.int (15 : Int32)), .val (.int ((xz + (1 : Int32)) &&& (15 : Int32)))] []))
          have hq : d ≠ d0 := fun q => by
            subst q
            exact hs.elim hc1 hc2
          exact IH (td - 1) (by omega) _ _ X5 e5 N3 (d + 1) _ (by omega) (by rw [← own_P_next]; exact own_next hz (own_P_lt _ _))
  exact LO d0 _ _ X2 hh2 N2 0 _ (by omega) (by rw [own_P_zero]; exact (own_homeI_lt xp).1)
theorem own_ef5 (m : MethodId) (x0 : Addr) (x1 : Int32) : entryFrame m #[(.ref x0), (.int x1)] 2 = mkF m 0 #[.val (.ref x0), .val (.int x1)] [] := by first | (simp [entryFrame, mkF, argsToLocals, Value.category]; done) | rfl
theorem own_d_prog_77_13_0 : decode prog_77_method_13_code 0 = .ok (.aload_n 0, 1) := by decide +kernel
theorem own_d_prog_77_13_1 : decode prog_77_method_13_code 1 = .ok (.getfield 28, 3) := by decide +kernel
theorem own_d_prog_77_13_4 : decode prog_77_method_13_code 4 = .ok (.iload_n 1, 1) := by decide +kernel
theorem own_d_prog_77_13_5 : decode prog_77_method_13_code 5 = .ok (.aaload, 1) := by decide +kernel
theorem own_d_prog_77_13_6 : decode prog_77_method_13_code 6 = .ok (.areturn, 1) := by decide +kernel
def own_Q_own_value (Z : State) (ob rv : Addr) (xi : Int32) (ii : Nat) (h0 : Heap) (n0 : Nat) (v : Option Value) (h : Heap) (L : List Loc) : Prop := ∃ u, v = some u ∧ Fr n0 L ∧ own_Ok Z h0 u ∧ h = h0
set_option maxRecDepth 65536 in
set_option maxHeartbeats 40000000 in
theorem own_value (l : Launch) (Z : State) (a0 : Array Value) (hw : ∀ d ∈ tables_1, d.before a0 Z = true) (ws : List Jvm.Cond) (ob rv : Addr) (xi : Int32) (ii : Nat) (h0 : Heap) (n0 : Nat) (Z0 : n0 ≤ h0.size) (fV : Fld Z h0 ob "com/example/thicket/thicket/PageMap" "values" "[Ljava/lang/Object;" (.ref rv)) (aV : own_Ro Z h0 rv 16) (hi : xi.toInt = (ii : Int)) (li : ii < 16) :
    MetFree l (⟨"com/example/thicket/thicket/PageMap", "value", "(I)Ljava/lang/Object;"⟩ : MethodName) (head1 (Jvm.Cond.code (⟨"com/example/thicket/thicket/PageMap", "value", "(I)Ljava/lang/Object;"⟩ : MethodName) prog_77_method_13_code 2 (some (.object "java/lang/Object")) :: ws) ({ frames := 0, cells := 0, slots := 0, locals := 0 } : Room)) (fun av_ U => av_ = #[(.ref ob), (.int xi)] ∧ Z.Warmed39 U.vm ∧ U.heap = h0) (fun _ _ _ _ _ => True) (fun _ U o U' => ∃ v L, o = .returned v ∧ own_Q_own_value Z ob rv xi ii h0 n0 v U'.heap L ∧ FrameEnd U o U' L ({ frames := 0, cells := 0, slots := 0, locals := 0 } : Room).cells ({ frames := 0, cells := 0, slots := 0, locals := 0 } : Room).slots) := by
  refine MetFree.of_bodySF (plainFor_of_name own_pn2) hisR ?_
  intro p e s m args below meth c s₁ Bd hml0 hP hK
  obtain ⟨rfl, hZ, hh⟩ := hP
  have hx := Bd.exec
  have hby := Bd.bytes
  have hml : c.maxLocals = 2 := hml0
  have hown : s.vm.findClass "com/example/thicket/thicket/PageMap" = some m.cls := findClass_of_methodNamed Bd.named
  have hnm := (name_of_methodNamed Bd.named Bd.method).1
  have X0 : Stand p l e ({ frames := 0, cells := 0, slots := 0, locals := 0 } : Room) s m #[(.ref ob), (.int xi)] below meth c s₁ [] 0 0 := Stand.of_body Bd
  have e0 : s₁.heap = h0 := by rw [← hh, Bd.state]; rfl
  have N0 := Fr.nil n0
  suffices hgo : own_Go p e below (fun o U' => ∃ v L, o = .returned v ∧ own_Q_own_value Z ob rv xi ii h0 n0 v U'.heap L ∧ FrameEnd s o U' L ({ frames := 0, cells := 0, slots := 0, locals := 0 } : Room).cells ({ frames := 0, cells := 0, slots := 0, locals := 0 } : Room).slots) (s₁.setTop (mkF m 0 #[.val (.ref ob), .val (.int xi)] [])) by
    obtain ⟨s₂, o, h1, h2, h3, h4⟩ := hgo
    exact ⟨s₂, o, castTop (own_ef5 m ob xi) h1, h2, h3, h4⟩
  show own_Go p e below _ (s₁.setTop (mkF m 0 #[.val (.ref ob), .val (.int xi)] []))
  refine own_Go.st (fun _ kt => XS.aloadN X0.here hx rfl (hb hby own_d_prog_77_13_0) rfl rfl kt) ?_
  show own_Go p e below _ (s₁.setTop (mkF m 1 #[.val (.ref ob), .val (.int xi)] [(.ref ob)]))
  obtain ⟨T1, X1, e1, st1⟩ := getF X0 hx hZ hown (host := "") (Or.inl (hw _ (List.mem_of_getElem? (i := 25) rfl))) Via.refl e0 fV (g := (mkF m 1 #[.val (.ref ob), .val (.int xi)] [(.ref ob)])) rfl rfl (hb hby own_d_prog_77_13_1)
  refine own_Go.st st1 ?_
  show own_Go p e below _ (T1.setTop (mkF m 4 #[.val (.ref ob), .val (.int xi)] [(.ref rv)]))
  refine own_Go.st (fun _ kt => XS.iloadN X1.here hx rfl (hb hby own_d_prog_77_13_4) rfl kt) ?_
  show own_Go p e below _ (T1.setTop (mkF m 5 #[.val (.ref ob), .val (.int xi)] [(.int xi), (.ref rv)]))
  obtain ⟨u, ok_u, st2⟩ := own_rld X1 hx hZ e1 aV hi li (g := (mkF m 5 #[.val (.ref ob), .val (.int xi)] [(.int xi), (.ref rv)])) rfl rfl (hb hby own_d_prog_77_13_5)
  refine own_Go.st st2 ?_
  show own_Go p e below _ (T1.setTop (mkF m 6 #[.val (.ref ob), .val (.int xi)] [u]))
  exact own_retA X1 hx Bd.notSynchronized Bd.returns rfl (own_Ok.isRef ok_u) (hb hby own_d_prog_77_13_6) (by decide) (by decide) ⟨_, rfl, N0, ok_u, e1⟩
theorem own_pn3 : plainName "java/util/Arrays" = true := by first | (simp [plainName, overriddenIn]; done) | decide +kernel
theorem own_ef6 (m : MethodId) (x0 : Addr) (x1 : Int64) : entryFrame m #[(.ref x0), (.long x1)] 5 = mkF m 0 #[.val (.ref x0), .val (.long x1), .second, .unset, .unset] [] := by first | (simp [entryFrame, mkF, argsToLocals, Value.category]; done) | rfl
theorem own_d_jdk_65_101_0 : decode jdk_65_method_101_code 0 = .ok (.iconst 0, 1) := by decide +kernel
theorem own_d_jdk_65_101_1 : decode jdk_65_method_101_code 1 = .ok (.istore_n 3, 1) := by decide +kernel
theorem own_d_jdk_65_101_2 : decode jdk_65_method_101_code 2 = .ok (.aload_n 0, 1) := by decide +kernel
theorem own_d_jdk_65_101_3 : decode jdk_65_method_101_code 3 = .ok (.arraylength, 1) := by decide +kernel
theorem own_d_jdk_65_101_4 : decode jdk_65_method_101_code 4 = .ok (.istore 4, 2) := by decide +kernel
theorem own_d_jdk_65_101_6 : decode jdk_65_method_101_code 6 = .ok (.iload_n 3, 1) := by decide +kernel
theorem own_d_jdk_65_101_7 : decode jdk_65_method_101_code 7 = .ok (.iload 4, 2) := by decide +kernel
theorem own_d_jdk_65_101_9 : decode jdk_65_method_101_code 9 = .ok (.if_icmp .ge 13, 3) := by decide +kernel
theorem own_d_jdk_65_101_12 : decode jdk_65_method_101_code 12 = .ok (.aload_n 0, 1) := by decide +kernel
theorem own_d_jdk_65_101_13 : decode jdk_65_method_101_code 13 = .ok (.iload_n 3, 1) := by decide +kernel
theorem own_d_jdk_65_101_14 : decode jdk_65_method_101_code 14 = .ok (.lload_n 1, 1) := by decide +kernel
theorem own_d_jdk_65_101_15 : decode jdk_65_method_101_code 15 = .ok (.lastore, 1) := by decide +kernel
theorem own_d_jdk_65_101_16 : decode jdk_65_method_101_code 16 = .ok (.iinc 3 1, 3) := by decide +kernel
theorem own_d_jdk_65_101_19 : decode jdk_65_method_101_code 19 = .ok (.goto (-13), 3) := by decide +kernel
theorem own_d_jdk_65_101_22 : decode jdk_65_method_101_code 22 = .ok (.return_, 1) := by decide +kernel
def own_Q_own_fill (Z : State) (rp : Addr) (xv : Int64) (fv : Nat → Value) (h0 : Heap) (n0 : Nat) (v : Option Value) (h : Heap) (L : List Loc) : Prop := v = none ∧ Fr n0 L ∧ own_Ar Z h rp .long 16 (fun _ => .long xv) ∧ Keep h0 h [rp]
set_option maxRecDepth 65536 in
set_option maxHeartbeats 40000000 in
theorem own_fill (l : Launch) (Z : State) (a0 : Array Value) (hw : ∀ d ∈ tables_1, d.before a0 Z = true) (ws : List Jvm.Cond) (rp : Addr) (xv : Int64) (fv : Nat → Value) (h0 : Heap) (n0 : Nat) (Z0 : n0 ≤ h0.size) (ap : own_Ar Z h0 rp .long 16 fv) (gp : n0 ≤ rp) :
    MetFree l (⟨"java/util/Arrays", "fill", "([JJ)V"⟩ : MethodName) (head1 (Jvm.Cond.code (⟨"java/util/Arrays", "fill", "([JJ)V"⟩ : MethodName) jdk_65_method_101_code 5 none :: ws) ({ frames := 0, cells := 0, slots := 0, locals := 0 } : Room)) (fun av_ U => av_ = #[(.ref rp), (.long xv)] ∧ Z.Warmed39 U.vm ∧ U.heap = h0) (fun _ _ _ _ _ => True) (fun _ U o U' => ∃ v L, o = .returned v ∧ own_Q_own_fill Z rp xv fv h0 n0 v U'.heap L ∧ FrameEnd U o U' L ({ frames := 0, cells := 0, slots := 0, locals := 0 } : Room).cells ({ frames := 0, cells := 0, slots := 0, locals := 0 } : Room).slots) := by
  refine MetFree.of_bodySF (plainFor_of_name own_pn3) hisR ?_
  intro p e s m args below meth c s₁ Bd hml0 hP hK
  obtain ⟨rfl, hZ, hh⟩ := hP
  have hx := Bd.exec
  have hby := Bd.bytes
  have hml : c.maxLocals = 5 := hml0
  have hown : s.vm.findClass "java/util/Arrays" = some m.cls := findClass_of_methodNamed Bd.named
  have hnm := (name_of_methodNamed Bd.named Bd.method).1
  have X0 : Stand p l e ({ frames := 0, cells := 0, slots := 0, locals := 0 } : Room) s m #[(.ref rp), (.long xv)] below meth c s₁ [] 0 0 := Stand.of_body Bd
  have e0 : s₁.heap = h0 := by rw [← hh, Bd.state]; rfl
  have N0 := Fr.nil n0
  suffices hgo : own_Go p e below (fun o U' => ∃ v L, o = .returned v ∧ own_Q_own_fill Z rp xv fv h0 n0 v U'.heap L ∧ FrameEnd s o U' L ({ frames := 0, cells := 0, slots := 0, locals := 0 } : Room).cells ({ frames := 0, cells := 0, slots := 0, locals := 0 } : Room).slots) (s₁.setTop (mkF m 0 #[.val (.ref rp), .val (.long xv), .second, .unset, .unset] [])) by
    obtain ⟨s₂, o, h1, h2, h3, h4⟩ := hgo
    exact ⟨s₂, o, castTop (own_ef6 m rp xv) h1, h2, h3, h4⟩
  have kk0 : Keep h0 h0 [rp] := Keep.refl _ _
  show own_Go p e below _ (s₁.setTop (mkF m 0 #[.val (.ref rp), .val (.long xv), .second, .unset, .unset] []))
  refine own_Go.st (fun _ kt => XS.iconst X0.here hx rfl (hb hby own_d_jdk_65_101_0) kt) ?_
  show own_Go p e below _ (s₁.setTop (mkF m 1 #[.val (.ref rp), .val (.long xv), .second, .unset, .unset] [(.int (0 : Int32))]))
  refine own_Go.st (fun _ kt => XS.istoreN X0.here hx rfl (hb hby own_d_jdk_65_101_1) rfl (l' := #[.val (.ref rp), .val (.long xv), .second, .val (.int (0 : Int32)), .unset]) rfl kt) ?_
  show own_Go p e below _ (s₁.setTop (mkF m 2 #[.val (.ref rp), .val (.long xv), .second, .val (.int (0 : Int32)), .unset] []))
  refine own_Go.st (fun _ kt => XS.aloadN X0.here hx rfl (hb hby own_d_jdk_65_101_2) rfl rfl kt) ?_
  show own_Go p e below _ (s₁.setTop (mkF m 3 #[.val (.ref rp), .val (.long xv), .second, .val (.int (0 : Int32)), .unset] [(.ref rp)]))
  refine own_Go.st (fun _ kt => own_alen X0 hx hZ e0 ap (z := (16 : Int32)) (by decide) (g := (mkF m 3 #[.val (.ref rp), .val (.long xv), .second, .val (.int (0 : Int32)), .unset] [(.ref rp)])) rfl rfl (hb hby own_d_jdk_65_101_3) _ kt) ?_
  show own_Go p e below _ (s₁.setTop (mkF m 4 #[.val (.ref rp), .val (.long xv), .second, .val (.int (0 : Int32)), .unset] [(.int (16 : Int32))]))
  refine own_Go.st (fun _ kt => XS.istore X0.here hx rfl (hb hby own_d_jdk_65_101_4) rfl (l' := #[.val (.ref rp), .val (.long xv), .second, .val (.int (0 : Int32)), .val (.int (16 : Int32))]) rfl kt) ?_
  show own_Go p e below _ (s₁.setTop (mkF m 6 #[.val (.ref rp), .val (.long xv), .second, .val (.int (0 : Int32)), .val (.int (16 : Int32))] []))
  have LO : ∀ (td : Nat) (T1 : State) (lc1 : List Loc) (h1 : Heap) (X1 : Stand p l e ({ frames := 0, cells := 0, slots := 0, locals := 0 } : Room) s m #[(.ref rp), (.long xv)] below meth c T1 lc1 0 0) (e1 : T1.heap = h1) (N1 : Fr n0 lc1) (i : Nat) (xi : Int32) (ht : i + td = 16) (hi : xi.toInt = (i : Int)) (ar : own_Ar Z h1 rp .long 16 (fun j => if j < i then .long xv else fv j)) (zz : n0 ≤ Array.size h1) (kk : Keep h0 h1 [rp]), own_Go p e below (fun o U' => ∃ v L, o = .returned v ∧ own_Q_own_fill Z rp xv fv h0 n0 v U'.heap L ∧ FrameEnd s o U' L ({ frames := 0, cells := 0, slots := 0, locals := 0 } : Room).cells ({ frames := 0, cells := 0, slots := 0, locals := 0 } : Room).slots) (T1.setTop (mkF m 6 #[.val (.ref rp), .val (.long xv), .second, .val (.int xi), .val (.int (16 : Int32))] [])) := by
    intro td
    induction td using Nat.strongRecOn with
    | ind td IH =>
      intro T1 lc1 h1 X1 e1 N1 i xi ht hi ar zz kk
      show own_Go p e below _ (T1.setTop (mkF m 6 #[.val (.ref rp), .val (.long xv), .second, .val (.int xi), .val (.int (16 : Int32))] []))
      refine own_Go.st (fun _ kt => XS.iloadN X1.here hx rfl (hb hby own_d_jdk_65_101_6) rfl kt) ?_
      show own_Go p e below _ (T1.setTop (mkF m 7 #[.val (.ref rp), .val (.long xv), .second, .val (.int xi), .val (.int (16 : Int32))] [(.int xi)]))
      refine own_Go.st (fun _ kt => XS.iload X1.here hx rfl (hb hby own_d_jdk_65_101_7) rfl kt) ?_
      show own_Go p e below _ (T1.setTop (mkF m 9 #[.val (.ref rp), .val (.long xv), .second, .val (.int xi), .val (.int (16 : Int32))] [(.int (16 : Int32)), (.int xi)]))
      have hci : xi < 16 ↔ i < 16 := by rw [Int32.lt_iff_toInt_lt, hi, show (16 : Int32).toInt = 16 by decide]; omega
      by_cases hc9 : xi < (16 : Int32)
      · refine own_Go.st (fun _ kt => XS.icmpNo X1.here hx rfl (hb hby own_d_jdk_65_101_9) rfl (tlt hc9).2.1 kt) ?_
        show own_Go p e below _ (T1.setTop (mkF m 12 #[.val (.ref rp), .val (.long xv), .second, .val (.int xi), .val (.int (16 : Int32))] []))
        refine own_Go.st (fun _ kt => XS.aloadN X1.here hx rfl (hb hby own_d_jdk_65_101_12) rfl rfl kt) ?_
        show own_Go p e below _ (T1.setTop (mkF m 13 #[.val (.ref rp), .val (.long xv), .second, .val (.int xi), .val (.int (16 : Int32))] [(.ref rp)]))
        refine own_Go.st (fun _ kt => XS.iloadN X1.here hx rfl (hb hby own_d_jdk_65_101_13) rfl kt) ?_
        show own_Go p e below _ (T1.setTop (mkF m 14 #[.val (.ref rp), .val (.long xv), .second, .val (.int xi), .val (.int (16 : Int32))] [(.int xi), (.ref rp)]))
        refine own_Go.st (fun _ kt => XS.lloadN X1.here hx rfl (hb hby own_d_jdk_65_101_14) rfl kt) ?_
        show own_Go p e below _ (T1.setTop (mkF m 15 #[.val (.ref rp), .val (.long xv), .second, .val (.int xi), .val (.int (16 : Int32))] [(.long xv), (.int xi), (.ref rp)]))
        have hlt := hci.mp hc9
        obtain ⟨T2, h2, X2, e2, W2, st2⟩ := own_lst X1 hx hZ e1 ar hi hlt (g := (mkF m 15 #[.val (.ref rp), .val (.long xv), .second, .val (.int xi), .val (.int (16 : Int32))] [(.long xv), (.int xi), (.ref rp)])) rfl rfl (hb hby own_d_jdk_65_101_15)
        refine own_Go.st st2 ?_
        have N2 := Fr.snoc X2 N1 gp
        have a2 := own_Ar.set ar W2
        have zz3 : n0 ≤ Array.size h2 := Nat.le_trans zz (Nat.le_of_eq (Wr.size W2).symm)
        have kk3 : Keep h0 h2 [rp] := kk.wr W2 (Or.inl (List.mem_of_getElem? (i := 0) rfl))
        show own_Go p e below _ (T2.setTop (mkF m 16 #[.val (.ref rp), .val (.long xv), .second, .val (.int xi), .val (.int (16 : Int32))] []))
        refine own_Go.st (fun _ kt => XS.iinc X2.here hx rfl (hb hby own_d_jdk_65_101_16) rfl (l' := #[.val (.ref rp), .val (.long xv), .second, .val (.int (xi + (1 : Int32))), .val (.int (16 : Int32))]) rfl kt) ?_
        show own_Go p e below _ (T2.setTop (mkF m 19 #[.val (.ref rp), .val (.long xv), .second, .val (.int (xi + (1 : Int32))), .val (.int (16 : Int32))] []))
        refine own_Go.st (fun _ kt => XS.goto X2.here hx rfl (pc0 := 19) (pc' := 6) rfl (hb hby own_d_jdk_65_101_19) (by decide) (by decide) kt) ?_
        show own_Go p e below _ (T2.setTop (mkF m 6 #[.val (.ref rp), .val (.long xv), .second, .val (.int (xi + (1 : Int32))), .val (.int (16 : Int32))] []))
        exact IH (td - 1) (by omega) _ _ _ X2 e2 N2 (i + 1) _ (by omega) (own_inc hi (by omega)) (a2.congr fun j _ => own_fillstep xv fv i j) zz3 kk3
      · refine own_Go.st (fun _ kt => XS.icmpYes X1.here hx rfl (pc0 := 9) (pc' := 22) rfl (hb hby own_d_jdk_65_101_9) rfl (flt hc9).2.1 (by decide) (by decide) kt) ?_
        show own_Go p e below _ (T1.setTop (mkF m 22 #[.val (.ref rp), .val (.long xv), .second, .val (.int xi), .val (.int (16 : Int32))] []))
        have hge : i = 16 := by have := mt hci.mpr hc9; omega
        subst hge
        have fin := ar.congr (f' := fun _ => .long xv) (fun j hj => by simp [hj])
        rw [← e1] at fin kk
        exact own_retV X1 hx Bd.notSynchronized Bd.returns (hb hby own_d_jdk_65_101_22) (by decide) (by decide) ⟨rfl, N1, fin, kk⟩
  exact LO 16 _ _ _ X0 e0 N0 0 _ (by omega) (by decide) (ap.congr fun j _ => by simp) Z0 kk0
theorem own_ef7 (m : MethodId) (x0 : Addr) : entryFrame m #[(.ref x0)] 1 = mkF m 0 #[.val (.ref x0)] [] := by first | (simp [entryFrame, mkF, argsToLocals, Value.category]; done) | rfl
theorem own_d_prog_77_9_0 : decode prog_77_method_9_code 0 = .ok (.aload_n 0, 1) := by decide +kernel
theorem own_d_prog_77_9_1 : decode prog_77_method_9_code 1 = .ok (.bipush 16, 2) := by decide +kernel
theorem own_d_prog_77_9_3 : decode prog_77_method_9_code 3 = .ok (.newarray .long, 2) := by decide +kernel
theorem own_d_prog_77_9_5 : decode prog_77_method_9_code 5 = .ok (.putfield 20, 3) := by decide +kernel
theorem own_d_prog_77_9_8 : decode prog_77_method_9_code 8 = .ok (.aload_n 0, 1) := by decide +kernel
theorem own_d_prog_77_9_9 : decode prog_77_method_9_code 9 = .ok (.getfield 20, 3) := by decide +kernel
theorem own_d_prog_77_9_12 : decode prog_77_method_9_code 12 = .ok (.ldc2_w 35, 3) := by decide +kernel
theorem own_d_prog_77_9_15 : decode prog_77_method_9_code 15 = .ok (.invokestatic 51, 3) := by decide +kernel
theorem own_pd2 : parseMethodDescriptor "([JJ)V" = some ⟨[(.array .long), .long], none⟩ := by decide +kernel
theorem own_d_prog_77_9_18 : decode prog_77_method_9_code 18 = .ok (.aload_n 0, 1) := by decide +kernel
theorem own_d_prog_77_9_19 : decode prog_77_method_9_code 19 = .ok (.bipush 16, 2) := by decide +kernel
theorem own_d_prog_77_9_21 : decode prog_77_method_9_code 21 = .ok (.anewarray 2, 3) := by decide +kernel
theorem own_d_prog_77_9_24 : decode prog_77_method_9_code 24 = .ok (.putfield 28, 3) := by decide +kernel
theorem own_d_prog_77_9_27 : decode prog_77_method_9_code 27 = .ok (.aload_n 0, 1) := by decide +kernel
theorem own_d_prog_77_9_28 : decode prog_77_method_9_code 28 = .ok (.iconst 0, 1) := by decide +kernel
theorem own_d_prog_77_9_29 : decode prog_77_method_9_code 29 = .ok (.putfield 12, 3) := by decide +kernel
theorem own_d_prog_77_9_32 : decode prog_77_method_9_code 32 = .ok (.return_, 1) := by decide +kernel
def own_Q_own_clear (Z : State) (ob : Addr) (h0 : Heap) (n0 : Nat) (v : Option Value) (h : Heap) (L : List Loc) : Prop := ∃ rp rv, v = none ∧ Fr n0 L ∧ own_PM Z h n0 ob rp rv (fun _ => -1) 0 ∧ Array.size h0 ≤ rp ∧ Array.size h0 ≤ rv ∧ Keep h0 h [ob]
set_option maxRecDepth 65536 in
set_option maxHeartbeats 40000000 in
theorem own_clear (l : Launch) (Z : State) (a0 : Array Value) (hw : ∀ d ∈ tables_1, d.before a0 Z = true) (ws : List Jvm.Cond) (ob : Addr) (h0 : Heap) (n0 : Nat) (Z0 : n0 ≤ h0.size) (fE : Exa Z h0 ob "com/example/thicket/thicket/PageMap") (fP : Fld Z h0 ob "com/example/thicket/thicket/PageMap" "pages" "[J" .null) (fV : Fld Z h0 ob "com/example/thicket/thicket/PageMap" "values" "[Ljava/lang/Object;" .null) (fS : Fld Z h0 ob "com/example/thicket/thicket/PageMap" "size" "I" (.int 0)) (go : n0 ≤ ob) :
    MetFree l (⟨"com/example/thicket/thicket/PageMap", "clear", "()V"⟩ : MethodName) (head1 (Jvm.Cond.code (⟨"com/example/thicket/thicket/PageMap", "clear", "()V"⟩ : MethodName) prog_77_method_9_code 1 none :: ws) ({ frames := 1, cells := 2, slots := 32, locals := 16 } : Room)) (fun av_ U => av_ = #[(.ref ob)] ∧ Z.Warmed39 U.vm ∧ U.heap = h0) (fun _ _ _ _ _ => True) (fun _ U o U' => ∃ v L, o = .returned v ∧ own_Q_own_clear Z ob h0 n0 v U'.heap L ∧ FrameEnd U o U' L ({ frames := 1, cells := 2, slots := 32, locals := 16 } : Room).cells ({ frames := 1, cells := 2, slots := 32, locals := 16 } : Room).slots) := by
  refine MetFree.of_bodySF (plainFor_of_name own_pn2) hisR ?_
  intro p e s m args below meth c s₁ Bd hml0 hP hK
  obtain ⟨rfl, hZ, hh⟩ := hP
  have hx := Bd.exec
  have hby := Bd.bytes
  have hml : c.maxLocals = 1 := hml0
  have hown : s.vm.findClass "com/example/thicket/thicket/PageMap" = some m.cls := findClass_of_methodNamed Bd.named
  have hnm := (name_of_methodNamed Bd.named Bd.method).1
  have X0 : Stand p l e ({ frames := 1, cells := 2, slots := 32, locals := 16 } : Room) s m #[(.ref ob)] below meth c s₁ [] 0 0 := Stand.of_body Bd
  have e0 : s₁.heap = h0 := by rw [← hh, Bd.state]; rfl
  have N0 := Fr.nil n0
  suffices hgo : own_Go p e below (fun o U' => ∃ v L, o = .returned v ∧ own_Q_own_clear Z ob h0 n0 v U'.heap L ∧ FrameEnd s o U' L ({ frames := 1, cells := 2, slots := 32, locals := 16 } : Room).cells ({ frames := 1, cells := 2, slots := 32, locals := 16 } : Room).slots) (s₁.setTop (mkF m 0 #[.val (.ref ob)] [])) by
    obtain ⟨s₂, o, h1, h2, h3, h4⟩ := hgo
    exact ⟨s₂, o, castTop (own_ef7 m ob) h1, h2, h3, h4⟩
  have kk0 : Keep h0 h0 [ob] := Keep.refl _ _
  show own_Go p e below _ (s₁.setTop (mkF m 0 #[.val (.ref ob)] []))
  refine own_Go.st (fun _ kt => XS.aloadN X0.here hx rfl (hb hby own_d_prog_77_9_0) rfl rfl kt) ?_
  show own_Go p e below _ (s₁.setTop (mkF m 1 #[.val (.ref ob)] [(.ref ob)]))
  refine own_Go.st (fun _ kt => XS.bipush X0.here hx rfl (hb hby own_d_prog_77_9_1) kt) ?_
  show own_Go p e below _ (s₁.setTop (mkF m 3 #[.val (.ref ob)] [(.int (16 : Int32)), (.ref ob)]))
  obtain ⟨T1, h1, k1, X1, e1, E1, A1, st1⟩ := newP X0 hx hZ (hw _ (List.mem_of_getElem? (i := 15) rfl)) e0 (g := (mkF m 3 #[.val (.ref ob)] [(.int (16 : Int32)), (.ref ob)])) rfl (hb hby own_d_prog_77_9_3) rfl (by decide) (cap := 16) (by decide) (by decide) (by decide) (by decide)
  obtain ⟨rp, g1⟩ : ∃ z, z = Array.size h0 := ⟨_, rfl⟩
  rw [← g1] at A1 st1
  refine own_Go.st st1 ?_
  have ne_ob_rp : ob ≠ rp := Nat.ne_of_lt (Nat.lt_of_lt_of_le (fE).lt (Nat.le_of_eq g1.symm))
  have n0_rp : n0 ≤ rp := Nat.le_trans Z0 (Nat.le_of_eq g1.symm)
  have b_rp : Array.size h0 ≤ rp := Nat.le_trans kk0.1 (Nat.le_of_eq g1.symm)
  have zz2 : n0 ≤ Array.size h1 := Nat.le_trans Z0 E1.1
  have kk2 : Keep h0 h1 [ob] := kk0.ext E1
  show own_Go p e below _ (T1.setTop (mkF m 5 #[.val (.ref ob)] [(.ref rp), (.ref ob)]))
  have ap0 := own_Ar.new A1 (n := 16) (by decide)
  have f3 := (fP.ext E1)
  have f4 := (fE.ext E1)
  obtain ⟨T5, h5, X5, e5, W5, st5⟩ := putF X1 hx hZ hown (host := "") (Or.inl (hw _ (List.mem_of_getElem? (i := 16) rfl))) Via.refl e1 f3 f4 (Or.inl (hw _ (List.mem_of_getElem? (i := 17) rfl))) (hw _ (List.mem_of_getElem? (i := 2) rfl)) (ty := (.array .long)) (by decide) rfl rfl (g := (mkF m 5 #[.val (.ref ob)] [(.ref rp), (.ref ob)])) rfl rfl (hb hby own_d_prog_77_9_5)
  refine own_Go.st st5 ?_
  have N5 := Fr.snoc X5 N0 go
  have f5_pages := Fld.same W5 f3
  have zz6 : n0 ≤ Array.size h5 := Nat.le_trans zz2 (Nat.le_of_eq (Wr.size W5).symm)
  have kk6 : Keep h0 h5 [ob] := kk2.wr W5 (Or.inl (List.mem_of_getElem? (i := 0) rfl))
  show own_Go p e below _ (T5.setTop (mkF m 8 #[.val (.ref ob)] []))
  refine own_Go.st (fun _ kt => XS.aloadN X5.here hx rfl (hb hby own_d_prog_77_9_8) rfl rfl kt) ?_
  show own_Go p e below _ (T5.setTop (mkF m 9 #[.val (.ref ob)] [(.ref ob)]))
  obtain ⟨T7, X7, e7, st7⟩ := getF X5 hx hZ hown (host := "") (Or.inl (hw _ (List.mem_of_getElem? (i := 16) rfl))) Via.refl e5 f5_pages (g := (mkF m 9 #[.val (.ref ob)] [(.ref ob)])) rfl rfl (hb hby own_d_prog_77_9_9)
  refine own_Go.st st7 ?_
  show own_Go p e below _ (T7.setTop (mkF m 12 #[.val (.ref ob)] [(.ref rp)]))
  refine own_Go.st (fun _ kt => X7.ldc2J hx hown (mvT hZ (hw _ (List.mem_of_getElem? (i := 18) rfl))) rfl (hb hby own_d_prog_77_9_12) kt) ?_
  show own_Go p e below _ (T7.setTop (mkF m 15 #[.val (.ref ob)] [(.long (-1 : Int64)), (.ref rp)]))
  have f8 := (ap0.other W5 (Ne.symm ne_ob_rp))
  obtain ⟨_, _, ⟨T9, L9, k9, n9⟩, -, X9, ⟨Lc9, hQ9, l9, y9, z9⟩, st9⟩ := Jvm.LawKit.callS X7 hx (y := (⟨"java/util/Arrays", "fill", "([JJ)V"⟩ : MethodName)) hown (mvT hZ (hw _ (List.mem_of_getElem? (i := 19) rfl))) (mvT hZ (hw _ (List.mem_of_getElem? (i := 20) rfl))) (mvT hZ (hw _ (List.mem_of_getElem? (i := 21) rfl))) (mvT hZ (hw _ (List.mem_of_getElem? (i := 22) rfl))) (by decide) (backOf (W := 0) (own_fill l Z a0 hw [] rp (-1) _ h5 n0 zz6 f8 n0_rp) hZ (hw _ (List.mem_of_getElem? (i := 22) rfl)) (hw _ (List.mem_of_getElem? (i := 21) rfl)) (by decide) (by decide)) (g := (mkF m 15 #[.val (.ref ob)] [(.long (-1 : Int64)), (.ref rp)])) rfl (by rw [hml]; rfl) (argsL := [(.ref rp), (.long (-1 : Int64))]) (rest := []) (lenOf own_pd2 rfl) rfl (by show 2 * 0 + _ ≤ _; exact Nat.le_of_eq rfl) (hb hby own_d_prog_77_9_15) (fun _ _ => ⟨rfl, e7, (by decide : 1 + 0 ≤ _), (by decide : 16 + 0 ≤ _)⟩)
  dsimp only [Pt.U, Pt.locs, Pt.cells, Pt.slots] at X9 l9 y9 z9 st9 hQ9
  subst l9 y9 z9
  obtain ⟨rfl, N9q, af9, KF9⟩ := hQ9
  have N9 := Fr.app N5 N9q
  refine own_Go.st (fun _ kt => st9 _ kt) ?_
  have zz10 : n0 ≤ Array.size T9.heap := Nat.le_trans zz6 KF9.1
  have kk10 : Keep h0 T9.heap [ob] := kk6.trans KF9 (allS (P := fun x => x ∈ [ob] ∨ _) (Or.inr b_rp) all0)
  show own_Go p e below _ (T9.setTop (mkF m 18 #[.val (.ref ob)] []))
  refine own_Go.st (fun _ kt => XS.aloadN X9.here hx rfl (hb hby own_d_prog_77_9_18) rfl rfl kt) ?_
  show own_Go p e below _ (T9.setTop (mkF m 19 #[.val (.ref ob)] [(.ref ob)]))
  refine own_Go.st (fun _ kt => XS.bipush X9.here hx rfl (hb hby own_d_prog_77_9_19) kt) ?_
  show own_Go p e below _ (T9.setTop (mkF m 21 #[.val (.ref ob)] [(.int (16 : Int32)), (.ref ob)]))
  obtain ⟨T11, h11, k11, X11, e11, E11, A11, O11, st11⟩ := newR X9 hx hZ hown (hw _ (List.mem_of_getElem? (i := 23) rfl)) (hw _ (List.mem_of_getElem? (i := 24) rfl)) rfl (g := (mkF m 21 #[.val (.ref ob)] [(.int (16 : Int32)), (.ref ob)])) rfl (hb hby own_d_prog_77_9_21) rfl (by decide) (cap := 16) (by decide) (by decide) (by decide) (by decide)
  obtain ⟨rv, g11⟩ : ∃ z, z = Array.size T9.heap := ⟨_, rfl⟩
  rw [← g11] at A11 st11
  refine own_Go.st st11 ?_
  have ne_ob_rv : ob ≠ rv := Nat.ne_of_lt (Nat.lt_of_lt_of_le (((f4.wr W5).keep KF9)).lt (Nat.le_of_eq g11.symm))
  have ne_rp_rv : rp ≠ rv := Nat.ne_of_lt (Nat.lt_of_lt_of_le (af9).lt (Nat.le_of_eq g11.symm))
  have n0_rv : n0 ≤ rv := Nat.le_trans zz10 (Nat.le_of_eq g11.symm)
  have b_rv : Array.size h0 ≤ rv := Nat.le_trans kk10.1 (Nat.le_of_eq g11.symm)
  have zz12 : n0 ≤ Array.size h11 := Nat.le_trans zz10 E11.1
  have kk12 : Keep h0 h11 [ob] := kk10.ext E11
  show own_Go p e below _ (T11.setTop (mkF m 24 #[.val (.ref ob)] [(.ref rv), (.ref ob)]))
  have av0 := own_Ro.new A11 O11 (n := 16) (by decide)
  have f13 := ((((fV.ext E1).other W5 (Or.inr (slot_ne (Or.inl (hw _ (List.mem_of_getElem? (i := 26) rfl))) (Or.inl (hw _ (List.mem_of_getElem? (i := 17) rfl))) (by decide) (t := (.array (.object "java/lang/Object"))) (t' := (.array .long)) (by decide) (by decide)))).keep KF9 (ninS ne_ob_rp nin0)).ext E11)
  have f14 := (((f4.wr W5).keep KF9).ext E11)
  obtain ⟨T15, h15, X15, e15, W15, st15⟩ := putF X11 hx hZ hown (host := "") (Or.inl (hw _ (List.mem_of_getElem? (i := 25) rfl))) Via.refl e11 f13 f14 (Or.inl (hw _ (List.mem_of_getElem? (i := 26) rfl))) (hw _ (List.mem_of_getElem? (i := 2) rfl)) (ty := (.array (.object "java/lang/Object"))) (by decide) rfl rfl (g := (mkF m 24 #[.val (.ref ob)] [(.ref rv), (.ref ob)])) rfl rfl (hb hby own_d_prog_77_9_24)
  refine own_Go.st st15 ?_
  have N15 := Fr.snoc X15 N9 go
  have f15_values := Fld.same W15 f13
  have zz16 : n0 ≤ Array.size h15 := Nat.le_trans zz12 (Nat.le_of_eq (Wr.size W15).symm)
  have kk16 : Keep h0 h15 [ob] := kk12.wr W15 (Or.inl (List.mem_of_getElem? (i := 0) rfl))
  show own_Go p e below _ (T15.setTop (mkF m 27 #[.val (.ref ob)] []))
  refine own_Go.st (fun _ kt => XS.aloadN X15.here hx rfl (hb hby own_d_prog_77_9_27) rfl rfl kt) ?_
  show own_Go p e below _ (T15.setTop (mkF m 28 #[.val (.ref ob)] [(.ref ob)]))
  refine own_Go.st (fun _ kt => XS.iconst X15.here hx rfl (hb hby own_d_prog_77_9_28) kt) ?_
  show own_Go p e below _ (T15.setTop (mkF m 29 #[.val (.ref ob)] [(.int (0 : Int32)), (.ref ob)]))
  have f17 := (((((fS.ext E1).other W5 (Or.inr (slot_ne (Or.inl (hw _ (List.mem_of_getElem? (i := 28) rfl))) (Or.inl (hw _ (List.mem_of_getElem? (i := 17) rfl))) (by decide) (t := .int) (t' := (.array .long)) (by decide) (by decide)))).keep KF9 (ninS ne_ob_rp nin0)).ext E11).other W15 (Or.inr (slot_ne (Or.inl (hw _ (List.mem_of_getElem? (i := 28) rfl))) (Or.inl (hw _ (List.mem_of_getElem? (i := 26) rfl))) (by decide) (t := .int) (t' := (.array (.object "java/lang/Object"))) (by decide) (by decide))))
  have f18 := (f14.wr W15)
  obtain ⟨T19, h19, X19, e19, W19, st19⟩ := putF X15 hx hZ hown (host := "") (Or.inl (hw _ (List.mem_of_getElem? (i := 27) rfl))) Via.refl e15 f17 f18 (Or.inl (hw _ (List.mem_of_getElem? (i := 28) rfl))) (hw _ (List.mem_of_getElem? (i := 2) rfl)) (ty := .int) (by decide) rfl rfl (g := (mkF m 29 #[.val (.ref ob)] [(.int (0 : Int32)), (.ref ob)])) rfl rfl (hb hby own_d_prog_77_9_29)
  refine own_Go.st st19 ?_
  have N19 := Fr.snoc X19 N15 go
  have f19_size := Fld.same W19 f17
  have zz20 : n0 ≤ Array.size h19 := Nat.le_trans zz16 (Nat.le_of_eq (Wr.size W19).symm)
  have kk20 : Keep h0 h19 [ob] := kk16.wr W19 (Or.inl (List.mem_of_getElem? (i := 0) rfl))
  show own_Go p e below _ (T19.setTop (mkF m 32 #[.val (.ref ob)] []))
  have f21 := (f18.wr W19)
  have f22 := ((((f5_pages.keep KF9 (ninS ne_ob_rp nin0)).ext E11).other W15 (Or.inr (slot_ne (Or.inl (hw _ (List.mem_of_getElem? (i := 17) rfl))) (Or.inl (hw _ (List.mem_of_getElem? (i := 26) rfl))) (by decide) (t := (.array .long)) (t' := (.array (.object "java/lang/Object"))) (by decide) (by decide)))).other W19 (Or.inr (slot_ne (Or.inl (hw _ (List.mem_of_getElem? (i := 17) rfl))) (Or.inl (hw _ (List.mem_of_getElem? (i := 28) rfl))) (by decide) (t := (.array .long)) (t' := .int) (by decide) (by decide))))
  have f23 := (f15_values.other W19 (Or.inr (slot_ne (Or.inl (hw _ (List.mem_of_getElem? (i := 26) rfl))) (Or.inl (hw _ (List.mem_of_getElem? (i := 28) rfl))) (by decide) (t := (.array (.object "java/lang/Object"))) (t' := .int) (by decide) (by decide))))
  have f24 := (((af9.ext E11).other W15 (Ne.symm ne_ob_rp)).other W19 (Ne.symm ne_ob_rp))
  have f25 := ((av0.other W15 (Ne.symm ne_ob_rv)).other W19 (Ne.symm ne_ob_rv))
  have fin : own_PM Z h19 n0 ob rp rv (fun _ => -1) 0 := ⟨f21, f22, f23, f19_size, f24, f25, ne_ob_rp, ne_ob_rv, ne_rp_rv, go, n0_rp, n0_rv⟩
  have kk := kk20
  rw [← e19] at fin kk
  exact own_retV X19 hx Bd.notSynchronized Bd.returns (hb hby own_d_prog_77_9_32) (by decide) (by decide) ⟨rp, rv, rfl, N19, fin, b_rp, b_rv, kk⟩
theorem own_ef8 (m : MethodId) (x0 : Addr) : entryFrame m #[(.ref x0)] 1 = mkF m 0 #[.val (.ref x0)] [] := by first | (simp [entryFrame, mkF, argsToLocals, Value.category]; done) | rfl
theorem own_d_prog_77_1_0 : decode prog_77_method_1_code 0 = .ok (.aload_n 0, 1) := by decide +kernel
theorem own_d_prog_77_1_1 : decode prog_77_method_1_code 1 = .ok (.invokespecial 1, 3) := by decide +kernel
theorem own_d_prog_77_1_4 : decode prog_77_method_1_code 4 = .ok (.aload_n 0, 1) := by decide +kernel
theorem own_d_prog_77_1_5 : decode prog_77_method_1_code 5 = .ok (.invokevirtual 7, 3) := by decide +kernel
theorem own_pd3 : parseMethodDescriptor "()V" = some ⟨[], none⟩ := by decide +kernel
theorem own_d_prog_77_1_8 : decode prog_77_method_1_code 8 = .ok (.return_, 1) := by decide +kernel
def own_Q_own_init (Z : State) (ob : Addr) (h0 : Heap) (n0 : Nat) (v : Option Value) (h : Heap) (L : List Loc) : Prop := ∃ rp rv, v = none ∧ Fr n0 L ∧ own_PM Z h n0 ob rp rv (fun _ => -1) 0 ∧ Array.size h0 ≤ rp ∧ Array.size h0 ≤ rv ∧ Keep h0 h [ob]
set_option maxRecDepth 65536 in
set_option maxHeartbeats 40000000 in
theorem own_init (l : Launch) (Z : State) (a0 : Array Value) (hw : ∀ d ∈ tables_1, d.before a0 Z = true) (ws : List Jvm.Cond) (ob : Addr) (h0 : Heap) (n0 : Nat) (Z0 : n0 ≤ h0.size) (fE : Exa Z h0 ob "com/example/thicket/thicket/PageMap") (fP : Fld Z h0 ob "com/example/thicket/thicket/PageMap" "pages" "[J" .null) (fV : Fld Z h0 ob "com/example/thicket/thicket/PageMap" "values" "[Ljava/lang/Object;" .null) (fS : Fld Z h0 ob "com/example/thicket/thicket/PageMap" "size" "I" (.int 0)) (go : n0 ≤ ob) :
    MetFree l (⟨"com/example/thicket/thicket/PageMap", "<init>", "()V"⟩ : MethodName) (head1 (Jvm.Cond.code (⟨"com/example/thicket/thicket/PageMap", "<init>", "()V"⟩ : MethodName) prog_77_method_1_code 1 none :: ws) ({ frames := 2, cells := 2, slots := 32, locals := 28 } : Room)) (fun av_ U => av_ = #[(.ref ob)] ∧ Z.Warmed39 U.vm ∧ U.heap = h0) (fun _ _ _ _ _ => True) (fun _ U o U' => ∃ v L, o = .returned v ∧ own_Q_own_init Z ob h0 n0 v U'.heap L ∧ FrameEnd U o U' L ({ frames := 2, cells := 2, slots := 32, locals := 28 } : Room).cells ({ frames := 2, cells := 2, slots := 32, locals := 28 } : Room).slots) := by
  refine MetFree.of_bodySF (plainFor_of_name own_pn2) hisR ?_
  intro p e s m args below meth c s₁ Bd hml0 hP hK
  obtain ⟨rfl, hZ, hh⟩ := hP
  have hx := Bd.exec
  have hby := Bd.bytes
  have hml : c.maxLocals = 1 := hml0
  have hown : s.vm.findClass "com/example/thicket/thicket/PageMap" = some m.cls := findClass_of_methodNamed Bd.named
  have hnm := (name_of_methodNamed Bd.named Bd.method).1
  have X0 : Stand p l e ({ frames := 2, cells := 2, slots := 32, locals := 28 } : Room) s m #[(.ref ob)] below meth c s₁ [] 0 0 := Stand.of_body Bd
  have e0 : s₁.heap = h0 := by rw [← hh, Bd.state]; rfl
  have N0 := Fr.nil n0
  suffices hgo : own_Go p e below (fun o U' => ∃ v L, o = .returned v ∧ own_Q_own_init Z ob h0 n0 v U'.heap L ∧ FrameEnd s o U' L ({ frames := 2, cells := 2, slots := 32, locals := 28 } : Room).cells ({ frames := 2, cells := 2, slots := 32, locals := 28 } : Room).slots) (s₁.setTop (mkF m 0 #[.val (.ref ob)] [])) by
    obtain ⟨s₂, o, h1, h2, h3, h4⟩ := hgo
    exact ⟨s₂, o, castTop (own_ef8 m ob) h1, h2, h3, h4⟩
  have kk0 : Keep h0 h0 [ob] := Keep.refl _ _
  show own_Go p e below _ (s₁.setTop (mkF m 0 #[.val (.ref ob)] []))
  refine own_Go.st (fun _ kt => XS.aloadN X0.here hx rfl (hb hby own_d_prog_77_1_0) rfl rfl kt) ?_
  show own_Go p e below _ (s₁.setTop (mkF m 1 #[.val (.ref ob)] [(.ref ob)]))
  obtain ⟨T1, X1, e1, st1⟩ := initO X0 hx hZ hown (hw _ (List.mem_of_getElem? (i := 7) rfl)) (hw _ (List.mem_of_getElem? (i := 8) rfl)) (hw _ (List.mem_of_getElem? (i := 9) rfl)) e0 (g := (mkF m 1 #[.val (.ref ob)] [(.ref ob)])) rfl (by rw [hml]; rfl) rfl (hb hby own_d_prog_77_1_1) (by decide) (W := 0) (by show 2 * 0 + _ ≤ _; exact Nat.le_of_eq rfl) (by decide)
  refine own_Go.st st1 ?_
  show own_Go p e below _ (T1.setTop (mkF m 4 #[.val (.ref ob)] []))
  refine own_Go.st (fun _ kt => XS.aloadN X1.here hx rfl (hb hby own_d_prog_77_1_4) rfl rfl kt) ?_
  show own_Go p e below _ (T1.setTop (mkF m 5 #[.val (.ref ob)] [(.ref ob)]))
  obtain ⟨cq2, kq2, q2a, q2b, q2c⟩ := isOf hZ e1 fE
  obtain ⟨_, _, ⟨T2, L2, k2, n2⟩, -, X2, ⟨Lc2, hQ2, l2, y2, z2⟩, st2⟩ := X1.virtualBack hx (y := (⟨"com/example/thicket/thicket/PageMap", "clear", "()V"⟩ : MethodName)) (z := (⟨"com/example/thicket/thicket/PageMap", "clear", "()V"⟩ : MethodName)) hown (mvT hZ (hw _ (List.mem_of_getElem? (i := 10) rfl))) (mvT hZ (hw _ (List.mem_of_getElem? (i := 11) rfl))) (notFace_of_selects (args := #[]) (mvT hZ (hw _ (List.mem_of_getElem? (i := 13) rfl)))) (mvT hZ (hw _ (List.mem_of_getElem? (i := 13) rfl))) (mvT hZ (hw _ (List.mem_of_getElem? (i := 12) rfl))) (by decide) (backOf (W := 0) (own_clear l Z a0 hw [] ob h0 n0 Z0 fE fP fV fS go) hZ (hw _ (List.mem_of_getElem? (i := 14) rfl)) (hw _ (List.mem_of_getElem? (i := 3) rfl)) (by decide) (by decide)) q2a q2c (g := (mkF m 5 #[.val (.ref ob)] [(.ref ob)])) rfl (by rw [hml]; rfl) (Steps.refl _) (argsL := []) (rest := []) (lenOf own_pd3 rfl) rfl (by show 2 * 0 + _ ≤ _; exact Nat.le_of_eq rfl) (hb hby own_d_prog_77_1_5) (fun _ _ => ⟨rfl, e1, (by decide : 0 + 2 ≤ _), (by decide : 0 + 32 ≤ _)⟩)
  dsimp only [Pt.U, Pt.locs, Pt.cells, Pt.slots] at X2 l2 y2 z2 st2 hQ2
  subst l2 y2 z2
  obtain ⟨rp, rv, rfl, N2q, hp2, b12, b22, KF2⟩ := hQ2
  have N2 := Fr.app N0 N2q
  refine own_Go.st (fun _ kt => st2.trans kt) ?_
  have zz3 : n0 ≤ Array.size T2.heap := Nat.le_trans Z0 KF2.1
  have kk3 : Keep h0 T2.heap [ob] := kk0.trans KF2 (allS (P := fun x => x ∈ [ob] ∨ _) (Or.inl (List.mem_of_getElem? (i := 0) rfl)) all0)
  show own_Go p e below _ (T2.setTop (mkF m 8 #[.val (.ref ob)] []))
  have kk := kk3
  exact own_retV X2 hx Bd.notSynchronized Bd.returns (hb hby own_d_prog_77_1_8) (by decide) (by decide) ⟨rp, rv, rfl, N2, hp2, b12, b22, kk⟩
theorem own_ef9 (m : MethodId) (x0 : Addr) (x1 : Int64) (x2 : Addr) : entryFrame m #[(.ref x0), (.long x1), (.ref x2)] 6 = mkF m 0 #[.val (.ref x0), .val (.long x1), .second, .val (.ref x2), .unset, .unset] [] := by first | (simp [entryFrame, mkF, argsToLocals, Value.category]; done) | rfl
theorem own_d_prog_77_5_0 : decode prog_77_method_5_code 0 = .ok (.aload_n 0, 1) := by decide +kernel
theorem own_d_prog_77_5_1 : decode prog_77_method_5_code 1 = .ok (.lload_n 1, 1) := by decide +kernel
theorem own_d_prog_77_5_2 : decode prog_77_method_5_code 2 = .ok (.invokevirtual 16, 3) := by decide +kernel
theorem own_d_prog_77_5_5 : decode prog_77_method_5_code 5 = .ok (.istore 4, 2) := by decide +kernel
theorem own_d_prog_77_5_7 : decode prog_77_method_5_code 7 = .ok (.aload_n 0, 1) := by decide +kernel
theorem own_d_prog_77_5_8 : decode prog_77_method_5_code 8 = .ok (.getfield 20, 3) := by decide +kernel
theorem own_d_prog_77_5_11 : decode prog_77_method_5_code 11 = .ok (.iload 4, 2) := by decide +kernel
theorem own_d_prog_77_5_13 : decode prog_77_method_5_code 13 = .ok (.laload, 1) := by decide +kernel
theorem own_d_prog_77_5_14 : decode prog_77_method_5_code 14 = .ok (.lload_n 1, 1) := by decide +kernel
theorem own_d_prog_77_5_15 : decode prog_77_method_5_code 15 = .ok (.lcmp, 1) := by decide +kernel
theorem own_d_prog_77_5_16 : decode prog_77_method_5_code 16 = .ok (.ifCond .ne 22, 3) := by decide +kernel
theorem own_d_prog_77_5_19 : decode prog_77_method_5_code 19 = .ok (.aload_n 0, 1) := by decide +kernel
theorem own_d_prog_77_5_20 : decode prog_77_method_5_code 20 = .ok (.iload 4, 2) := by decide +kernel
theorem own_d_prog_77_5_22 : decode prog_77_method_5_code 22 = .ok (.invokevirtual 24, 3) := by decide +kernel
theorem own_pd4 : parseMethodDescriptor "(I)Ljava/lang/Object;" = some ⟨[.int], some (.object "java/lang/Object")⟩ := by decide +kernel
theorem own_d_prog_77_5_25 : decode prog_77_method_5_code 25 = .ok (.astore 5, 2) := by decide +kernel
theorem own_d_prog_77_5_27 : decode prog_77_method_5_code 27 = .ok (.aload_n 0, 1) := by decide +kernel
theorem own_d_prog_77_5_28 : decode prog_77_method_5_code 28 = .ok (.getfield 28, 3) := by decide +kernel
theorem own_d_prog_77_5_31 : decode prog_77_method_5_code 31 = .ok (.iload 4, 2) := by decide +kernel
theorem own_d_prog_77_5_33 : decode prog_77_method_5_code 33 = .ok (.aload_n 3, 1) := by decide +kernel
theorem own_d_prog_77_5_34 : decode prog_77_method_5_code 34 = .ok (.aastore, 1) := by decide +kernel
theorem own_d_prog_77_5_35 : decode prog_77_method_5_code 35 = .ok (.aload 5, 2) := by decide +kernel
theorem own_d_prog_77_5_37 : decode prog_77_method_5_code 37 = .ok (.areturn, 1) := by decide +kernel
theorem own_d_prog_77_5_38 : decode prog_77_method_5_code 38 = .ok (.aload_n 0, 1) := by decide +kernel
theorem own_d_prog_77_5_39 : decode prog_77_method_5_code 39 = .ok (.getfield 20, 3) := by decide +kernel
theorem own_d_prog_77_5_42 : decode prog_77_method_5_code 42 = .ok (.iload 4, 2) := by decide +kernel
theorem own_d_prog_77_5_44 : decode prog_77_method_5_code 44 = .ok (.lload_n 1, 1) := by decide +kernel
theorem own_d_prog_77_5_45 : decode prog_77_method_5_code 45 = .ok (.lastore, 1) := by decide +kernel
theorem own_d_prog_77_5_46 : decode prog_77_method_5_code 46 = .ok (.aload_n 0, 1) := by decide +kernel
theorem own_d_prog_77_5_47 : decode prog_77_method_5_code 47 = .ok (.getfield 28, 3) := by decide +kernel
theorem own_d_prog_77_5_50 : decode prog_77_method_5_code 50 = .ok (.iload 4, 2) := by decide +kernel
theorem own_d_prog_77_5_52 : decode prog_77_method_5_code 52 = .ok (.aload_n 3, 1) := by decide +kernel
theorem own_d_prog_77_5_53 : decode prog_77_method_5_code 53 = .ok (.aastore, 1) := by decide +kernel
theorem own_d_prog_77_5_54 : decode prog_77_method_5_code 54 = .ok (.aload_n 0, 1) := by decide +kernel
theorem own_d_prog_77_5_55 : decode prog_77_method_5_code 55 = .ok (.dup, 1) := by decide +kernel
theorem own_d_prog_77_5_56 : decode prog_77_method_5_code 56 = .ok (.getfield 12, 3) := by decide +kernel
theorem own_d_prog_77_5_59 : decode prog_77_method_5_code 59 = .ok (.iconst 1, 1) := by decide +kernel
theorem own_d_prog_77_5_60 : decode prog_77_method_5_code 60 = .ok (.iadd, 1) := by decide +kernel
theorem own_d_prog_77_5_61 : decode prog_77_method_5_code 61 = .ok (.putfield 12, 3) := by decide +kernel
theorem own_d_prog_77_5_64 : decode prog_77_method_5_code 64 = .ok (.iconst 2, 1) := by decide +kernel
theorem own_d_prog_77_5_65 : decode prog_77_method_5_code 65 = .ok (.aload_n 0, 1) := by decide +kernel
theorem own_d_prog_77_5_66 : decode prog_77_method_5_code 66 = .ok (.getfield 12, 3) := by decide +kernel
theorem own_d_prog_77_5_69 : decode prog_77_method_5_code 69 = .ok (.imul, 1) := by decide +kernel
theorem own_d_prog_77_5_70 : decode prog_77_method_5_code 70 = .ok (.aload_n 0, 1) := by decide +kernel
theorem own_d_prog_77_5_71 : decode prog_77_method_5_code 71 = .ok (.getfield 20, 3) := by decide +kernel
theorem own_d_prog_77_5_74 : decode prog_77_method_5_code 74 = .ok (.arraylength, 1) := by decide +kernel
theorem own_d_prog_77_5_75 : decode prog_77_method_5_code 75 = .ok (.if_icmp .le 7, 3) := by decide +kernel
theorem own_d_prog_77_5_82 : decode prog_77_method_5_code 82 = .ok (.aconst_null, 1) := by decide +kernel
theorem own_d_prog_77_5_83 : decode prog_77_method_5_code 83 = .ok (.areturn, 1) := by decide +kernel
def own_Q_own_put (Z : State) (ob : Addr) (xp : Int64) (ry rp rv : Addr) (f : Nat → Int64) (xn : Int32) (ls : List Int64) (h0 : Heap) (n0 : Nat) (v : Option Value) (h : Heap) (L : List Loc) : Prop := ∃ (u : Value) (f' : Nat → Int64) (n' : Int32), v = some u ∧ Fr n0 L ∧ u.isRef = true ∧ own_PM Z h n0 ob rp rv f' n' ∧ own_St f' (own_putl ls xp) ∧ n'.toInt = ((own_putl ls xp).length : Int) ∧ Keep h0 h [ob, rp, rv]
set_option maxRecDepth 65536 in
set_option maxHeartbeats 40000000 in
theorem own_put (l : Launch) (Z : State) (a0 : Array Value) (hw : ∀ d ∈ tables_1, d.before a0 Z = true) (ws : List Jvm.Cond) (ob : Addr) (xp : Int64) (ry rp rv : Addr) (f : Nat → Int64) (xn : Int32) (ls : List Int64) (h0 : Heap) (n0 : Nat) (Z0 : n0 ≤ h0.size) (hpm : own_PM Z h0 n0 ob rp rv f xn) (hst : own_St f ls) (hn : xn.toInt = (ls.length : Int)) (hl : ls.length ≤ 2) (hp : xp ≠ -1) (hy : Exa Z h0 ry "java/lang/Integer") :
    MetFree l (⟨"com/example/thicket/thicket/PageMap", "put", "(JLjava/lang/Object;)Ljava/lang/Object;"⟩ : MethodName) (head1 (Jvm.Cond.code (⟨"com/example/thicket/thicket/PageMap", "put", "(JLjava/lang/Object;)Ljava/lang/Object;"⟩ : MethodName) prog_77_method_5_code 6 (some (.object "java/lang/Object")) :: ws) ({ frames := 4, cells := 0, slots := 0, locals := 60 } : Room)) (fun av_ U => av_ = #[(.ref ob), (.long xp), (.ref ry)] ∧ Z.Warmed39 U.vm ∧ U.heap = h0) (fun _ _ _ _ _ => True) (fun _ U o U' => ∃ v L, o = .returned v ∧ own_Q_own_put Z ob xp ry rp rv f xn ls h0 n0 v U'.heap L ∧ FrameEnd U o U' L ({ frames := 4, cells := 0, slots := 0, locals := 60 } : Room).cells ({ frames := 4, cells := 0, slots := 0, locals := 60 } : Room).slots) := by
  refine MetFree.of_bodySF (plainFor_of_name own_pn2) hisR ?_
  intro p e s m args below meth c s₁ Bd hml0 hP hK
  obtain ⟨rfl, hZ, hh⟩ := hP
  have hx := Bd.exec
  have hby := Bd.bytes
  have hml : c.maxLocals = 6 := hml0
  have hown : s.vm.findClass "com/example/thicket/thicket/PageMap" = some m.cls := findClass_of_methodNamed Bd.named
  have hnm := (name_of_methodNamed Bd.named Bd.method).1
  have X0 : Stand p l e ({ frames := 4, cells := 0, slots := 0, locals := 60 } : Room) s m #[(.ref ob), (.long xp), (.ref ry)] below meth c s₁ [] 0 0 := Stand.of_body Bd
  have e0 : s₁.heap = h0 := by rw [← hh, Bd.state]; rfl
  have N0 := Fr.nil n0
  suffices hgo : own_Go p e below (fun o U' => ∃ v L, o = .returned v ∧ own_Q_own_put Z ob xp ry rp rv f xn ls h0 n0 v U'.heap L ∧ FrameEnd s o U' L ({ frames := 4, cells := 0, slots := 0, locals := 60 } : Room).cells ({ frames := 4, cells := 0, slots := 0, locals := 60 } : Room).slots) (s₁.setTop (mkF m 0 #[.val (.ref ob), .val (.long xp), .second, .val (.ref ry), .unset, .unset] [])) by
    obtain ⟨s₂, o, h1, h2, h3, h4⟩ := hgo
    exact ⟨s₂, o, castTop (own_ef9 m ob xp ry) h1, h2, h3, h4⟩
  have kk0 : Keep h0 h0 [ob, rp, rv] := Keep.refl _ _
  show own_Go p e below _ (s₁.setTop (mkF m 0 #[.val (.ref ob), .val (.long xp), .second, .val (.ref ry), .unset, .unset] []))
  obtain ⟨fE, fP, fV, fS, aP, aV, ne1, ne2, ne3, go, gp, gv⟩ := hpm
  obtain ⟨d0, hd0, hs, hbf⟩ := hst.stop (by omega) xp
  refine own_Go.st (fun _ kt => XS.aloadN X0.here hx rfl (hb hby own_d_prog_77_5_0) rfl rfl kt) ?_
  show own_Go p e below _ (s₁.setTop (mkF m 1 #[.val (.ref ob), .val (.long xp), .second, .val (.ref ry), .unset, .unset] [(.ref ob)]))
  refine own_Go.st (fun _ kt => XS.lloadN X0.here hx rfl (hb hby own_d_prog_77_5_1) rfl kt) ?_
  show own_Go p e below _ (s₁.setTop (mkF m 2 #[.val (.ref ob), .val (.long xp), .second, .val (.ref ry), .unset, .unset] [(.long xp), (.ref ob)]))
  obtain ⟨cq1, q1, q1'⟩ := Exa.cell fE
  obtain ⟨_, _, ⟨T1, L1, k1, n1⟩, -, X1, ⟨Lc1, hQ1, l1, y1, z1⟩, st1⟩ := X0.privateBack hx (y := (⟨"com/example/thicket/thicket/PageMap", "find", "(J)I"⟩ : MethodName)) hown (mvT hZ (hw _ (List.mem_of_getElem? (i := 41) rfl))) (mvT hZ (hw _ (List.mem_of_getElem? (i := 42) rfl))) (own_selp hZ (hw _ (List.mem_of_getElem? (i := 13) rfl)) rfl (hw _ (List.mem_of_getElem? (i := 42) rfl)) (hw _ (List.mem_of_getElem? (i := 43) rfl)) (by decide)) (Cond.privateMethod_at (mvP hZ (hw _ (List.mem_of_getElem? (i := 43) rfl)) (args := #[]))) (mvT hZ (hw _ (List.mem_of_getElem? (i := 44) rfl))) (by decide) (backOf (W := 0) (own_find l Z a0 hw [] ob rp xp f d0 h0 n0 Z0 fE fP aP hd0 hs hbf) hZ (hw _ (List.mem_of_getElem? (i := 44) rfl)) (hw _ (List.mem_of_getElem? (i := 3) rfl)) (by decide) (by decide)) (g := (mkF m 2 #[.val (.ref ob), .val (.long xp), .second, .val (.ref ry), .unset, .unset] [(.long xp), (.ref ob)])) rfl (by rw [hml]; rfl) (Steps.refl _) (a := ob) (by rw [e0]; exact q1) q1' (argsL := [(.long xp)]) (rest := []) (lenOf own_pd1 rfl) rfl (by show 2 * 0 + _ ≤ _; exact Nat.le_of_eq rfl) (hb hby own_d_prog_77_5_2) (fun _ _ => ⟨rfl, e0, (by decide : 0 + 0 ≤ _), (by decide : 0 + 0 ≤ _)⟩)
  dsimp only [Pt.U, Pt.locs, Pt.cells, Pt.slots] at X1 l1 y1 z1 st1 hQ1
  subst l1 y1 z1
  obtain ⟨z, rfl, N1q, hz1, hh1⟩ := hQ1
  have N1 := Fr.app N0 N1q
  refine own_Go.st (fun _ kt => st1.trans kt) ?_
  show own_Go p e below _ (T1.setTop (mkF m 5 #[.val (.ref ob), .val (.long xp), .second, .val (.ref ry), .unset, .unset] [(.int z)]))
  refine own_Go.st (fun _ kt => XS.istore X1.here hx rfl (hb hby own_d_prog_77_5_5) rfl (l' := #[.val (.ref ob), .val (.long xp), .second, .val (.ref ry), .val (.int z), .unset]) rfl kt) ?_
  show own_Go p e below _ (T1.setTop (mkF m 7 #[.val (.ref ob), .val (.long xp), .second, .val (.ref ry), .val (.int z), .unset] []))
  refine own_Go.st (fun _ kt => XS.aloadN X1.here hx rfl (hb hby own_d_prog_77_5_7) rfl rfl kt) ?_
  show own_Go p e below _ (T1.setTop (mkF m 8 #[.val (.ref ob), .val (.long xp), .second, .val (.ref ry), .val (.int z), .unset] [(.ref ob)]))
  obtain ⟨T2, X2, e2, st2⟩ := getF X1 hx hZ hown (host := "") (Or.inl (hw _ (List.mem_of_getElem? (i := 16) rfl))) Via.refl hh1 fP (g := (mkF m 8 #[.val (.ref ob), .val (.long xp), .second, .val (.ref ry), .val (.int z), .unset] [(.ref ob)])) rfl rfl (hb hby own_d_prog_77_5_8)
  refine own_Go.st st2 ?_
  show own_Go p e below _ (T2.setTop (mkF m 11 #[.val (.ref ob), .val (.long xp), .second, .val (.ref ry), .val (.int z), .unset] [(.ref rp)]))
  refine own_Go.st (fun _ kt => XS.iload X2.here hx rfl (hb hby own_d_prog_77_5_11) rfl kt) ?_
  show own_Go p e below _ (T2.setTop (mkF m 13 #[.val (.ref ob), .val (.long xp), .second, .val (.ref ry), .val (.int z), .unset] [(.int z), (.ref rp)]))
  refine own_Go.st (fun _ kt => own_lld X2 hx hZ e2 aP hz1 (own_P_lt _ _) (v := (.long (f (own_P xp d0)))) rfl (g := (mkF m 13 #[.val (.ref ob), .val (.long xp), .second, .val (.ref ry), .val (.int z), .unset] [(.int z), (.ref rp)])) rfl rfl (hb hby own_d_prog_77_5_13) _ kt) ?_
  show own_Go p e below _ (T2.setTop (mkF m 14 #[.val (.ref ob), .val (.long xp), .second, .val (.ref ry), .val (.int z), .unset] [(.long (f (own_P xp d0)))]))
  refine own_Go.st (fun _ kt => XS.lloadN X2.here hx rfl (hb hby own_d_prog_77_5_14) rfl kt) ?_
  show own_Go p e below _ (T2.setTop (mkF m 15 #[.val (.ref ob), .val (.long xp), .second, .val (.ref ry), .val (.int z), .unset] [(.long xp), (.long (f (own_P xp d0)))]))
  refine own_Go.st (fun _ kt => XS.lcmp X2.here hx rfl (hb hby own_d_prog_77_5_15) rfl kt) ?_
  show own_Go p e below _ (T2.setTop (mkF m 16 #[.val (.ref ob), .val (.long xp), .second, .val (.ref ry), .val (.int z), .unset] [(.int (lcmpW (f (own_P xp d0)) xp))]))
  by_cases hc : (f (own_P xp d0)) = xp
  · refine own_Go.st (fun _ kt => XS.ifNo X2.here hx rfl (hb hby own_d_prog_77_5_16) rfl ((if0 _ _).trans (teq ((lw_eq _ _).mpr hc)).2) kt) ?_
    show own_Go p e below _ (T2.setTop (mkF m 19 #[.val (.ref ob), .val (.long xp), .second, .val (.ref ry), .val (.int z), .unset] []))
    refine own_Go.st (fun _ kt => XS.aloadN X2.here hx rfl (hb hby own_d_prog_77_5_19) rfl rfl kt) ?_
    show own_Go p e below _ (T2.setTop (mkF m 20 #[.val (.ref ob), .val (.long xp), .second, .val (.ref ry), .val (.int z), .unset] [(.ref ob)]))
    refine own_Go.st (fun _ kt => XS.iload X2.here hx rfl (hb hby own_d_prog_77_5_20) rfl kt) ?_
    show own_Go p e below _ (T2.setTop (mkF m 22 #[.val (.ref ob), .val (.long xp), .second, .val (.ref ry), .val (.int z), .unset] [(.int z), (.ref ob)]))
    obtain ⟨cq3, q3, q3'⟩ := Exa.cell fE
    obtain ⟨_, _, ⟨T3, L3, k3, n3⟩, -, X3, ⟨Lc3, hQ3, l3, y3, z3⟩, st3⟩ := X2.privateBack hx (y := (⟨"com/example/thicket/thicket/PageMap", "value", "(I)Ljava/lang/Object;"⟩ : MethodName)) hown (mvT hZ (hw _ (List.mem_of_getElem? (i := 59) rfl))) (mvT hZ (hw _ (List.mem_of_getElem? (i := 60) rfl))) (own_selp hZ (hw _ (List.mem_of_getElem? (i := 13) rfl)) rfl (hw _ (List.mem_of_getElem? (i := 60) rfl)) (hw _ (List.mem_of_getElem? (i := 61) rfl)) (by decide)) (Cond.privateMethod_at (mvP hZ (hw _ (List.mem_of_getElem? (i := 61) rfl)) (args := #[]))) (mvT hZ (hw _ (List.mem_of_getElem? (i := 62) rfl))) (by decide) (backOf (W := 0) (own_value l Z a0 hw [] ob rv z _ h0 n0 Z0 fV aV hz1 (own_P_lt _ _)) hZ (hw _ (List.mem_of_getElem? (i := 62) rfl)) (hw _ (List.mem_of_getElem? (i := 3) rfl)) (by decide) (by decide)) (g := (mkF m 22 #[.val (.ref ob), .val (.long xp), .second, .val (.ref ry), .val (.int z), .unset] [(.int z), (.ref ob)])) rfl (by rw [hml]; rfl) (Steps.refl _) (a := ob) (by rw [e2]; exact q3) q3' (argsL := [(.int z)]) (rest := []) (lenOf own_pd4 rfl) rfl (by show 2 * 0 + _ ≤ _; exact Nat.le_of_eq rfl) (hb hby own_d_prog_77_5_22) (fun _ _ => ⟨rfl, e2, (by decide : 0 + 0 ≤ _), (by decide : 0 + 0 ≤ _)⟩)
    dsimp only [Pt.U, Pt.locs, Pt.cells, Pt.slots] at X3 l3 y3 z3 st3 hQ3
    subst l3 y3 z3
    obtain ⟨u, rfl, N3q, ok3, hh3⟩ := hQ3
    have N3 := Fr.app N1 N3q
    refine own_Go.st (fun _ kt => st3.trans kt) ?_
    show own_Go p e below _ (T3.setTop (mkF m 25 #[.val (.ref ob), .val (.long xp), .second, .val (.ref ry), .val (.int z), .unset] [u]))
    refine own_Go.st (fun _ kt => XS.astore X3.here hx rfl (hb hby own_d_prog_77_5_25) rfl (own_Ok.isRef ok3) (l' := #[.val (.ref ob), .val (.long xp), .second, .val (.ref ry), .val (.int z), .val u]) (by rcases ref_cases (own_Ok.isRef ok3) with rfl | ⟨_, rfl⟩ <;> rfl) kt) ?_
    show own_Go p e below _ (T3.setTop (mkF m 27 #[.val (.ref ob), .val (.long xp), .second, .val (.ref ry), .val (.int z), .val u] []))
    refine own_Go.st (fun _ kt => XS.aloadN X3.here hx rfl (hb hby own_d_prog_77_5_27) rfl rfl kt) ?_
    show own_Go p e below _ (T3.setTop (mkF m 28 #[.val (.ref ob), .val (.long xp), .second, .val (.ref ry), .val (.int z), .val u] [(.ref ob)]))
    obtain ⟨T4, X4, e4, st4⟩ := getF X3 hx hZ hown (host := "") (Or.inl (hw _ (List.mem_of_getElem? (i := 25) rfl))) Via.refl hh3 fV (g := (mkF m 28 #[.val (.ref ob), .val (.long xp), .second, .val (.ref ry), .val (.int z), .val u] [(.ref ob)])) rfl rfl (hb hby own_d_prog_77_5_28)
    refine own_Go.st st4 ?_
    show own_Go p e below _ (T4.setTop (mkF m 31 #[.val (.ref ob), .val (.long xp), .second, .val (.ref ry), .val (.int z), .val u] [(.ref rv)]))
    refine own_Go.st (fun _ kt => XS.iload X4.here hx rfl (hb hby own_d_prog_77_5_31) rfl kt) ?_
    show own_Go p e below _ (T4.setTop (mkF m 33 #[.val (.ref ob), .val (.long xp), .second, .val (.ref ry), .val (.int z), .val u] [(.int z), (.ref rv)]))
    refine own_Go.st (fun _ kt => XS.aloadN X4.here hx rfl (hb hby own_d_prog_77_5_33) rfl rfl kt) ?_
    show own_Go p e below _ (T4.setTop (mkF m 34 #[.val (.ref ob), .val (.long xp), .second, .val (.ref ry), .val (.int z), .val u] [(.ref ry), (.int z), (.ref rv)]))
    obtain ⟨T5, h5, X5, e5, W5, st5⟩ := own_rst X4 hx hZ e4 aV (hw _ (List.mem_of_getElem? (i := 58) rfl)) hz1 (own_P_lt _ _) (show own_Ok Z h0 (.ref ry) from Or.inr ⟨_, rfl, hy⟩) (g := (mkF m 34 #[.val (.ref ob), .val (.long xp), .second, .val (.ref ry), .val (.int z), .val u] [(.ref ry), (.int z), (.ref rv)])) rfl rfl (hb hby own_d_prog_77_5_34)
    refine own_Go.st st5 ?_
    have N5 := Fr.snoc X5 N3 gv
    have a5 := own_Ro.set aV W5 (show own_Ok Z h0 (.ref ry) from Or.inr ⟨_, rfl, hy⟩)
    have zz6 : n0 ≤ Array.size h5 := Nat.le_trans Z0 (Nat.le_of_eq (Wr.size W5).symm)
    have kk6 : Keep h0 h5 [ob, rp, rv] := kk0.wr W5 (Or.inl (List.mem_of_getElem? (i := 2) rfl))
    show own_Go p e below _ (T5.setTop (mkF m 35 #[.val (.ref ob), .val (.long xp), .second, .val (.ref ry), .val (.int z), .val u] []))
    refine own_Go.st (fun _ kt => XS.aload X5.here hx rfl (hb hby own_d_prog_77_5_35) rfl (own_Ok.isRef ok3) kt) ?_
    show own_Go p e below _ (T5.setTop (mkF m 37 #[.val (.ref ob), .val (.long xp), .second, .val (.ref ry), .val (.int z), .val u] [u]))
    have hm : xp ∈ ls := by have q := hst.here (own_P_lt xp d0) (by rw [hc]; exact hp); rw [hc] at q; exact q
    have hpl : own_putl ls xp = ls := if_pos hm
    have f7 := (fE.wr W5)
    have f8 := (fP.other W5 (Or.inl ne2))
    have f9 := (fV.other W5 (Or.inl ne2))
    have f10 := (fS.other W5 (Or.inl ne2))
    have f11 := (aP.other W5 ne3)
    have fin : own_PM Z h5 n0 ob rp rv f xn := ⟨f7, f8, f9, f10, f11, a5, ne1, ne2, ne3, go, gp, gv⟩
    have kk := kk6
    rw [← e5] at fin kk
    exact own_retA X5 hx Bd.notSynchronized Bd.returns rfl (own_Ok.isRef ok3) (hb hby own_d_prog_77_5_37) (by decide) (by decide) ⟨_, f, xn, rfl, N5, (own_Ok.isRef ok3), fin, hpl.symm ▸ hst, hpl.symm ▸ hn, kk⟩
  · refine own_Go.st (fun _ kt => XS.ifYes X2.here hx rfl (pc0 := 16) (pc' := 38) rfl (hb hby own_d_prog_77_5_16) rfl ((if0 _ _).trans (feq (mt (lw_eq _ _).mp hc)).2) (by decide) (by decide) kt) ?_
    show own_Go p e below _ (T2.setTop (mkF m 38 #[.val (.ref ob), .val (.long xp), .second, .val (.ref ry), .val (.int z), .unset] []))
    refine own_Go.st (fun _ kt => XS.aloadN X2.here hx rfl (hb hby own_d_prog_77_5_38) rfl rfl kt) ?_
    show own_Go p e below _ (T2.setTop (mkF m 39 #[.val (.ref ob), .val (.long xp), .second, .val (.ref ry), .val (.int z), .unset] [(.ref ob)]))
    have hf := hs.resolve_left hc
    obtain ⟨T12, X12, e12, st12⟩ := getF X2 hx hZ hown (host := "") (Or.inl (hw _ (List.mem_of_getElem? (i := 16) rfl))) Via.refl e2 fP (g := (mkF m 39 #[.val (.ref ob), .val (.long xp), .second, .val (.ref ry), .val (.int z), .unset] [(.ref ob)])) rfl rfl (hb hby own_d_prog_77_5_39)
    refine own_Go.st st12 ?_
    show own_Go p e below _ (T12.setTop (mkF m 42 #[.val (.ref ob), .val (.long xp), .second, .val (.ref ry), .val (.int z), .unset] [(.ref rp)]))
    refine own_Go.st (fun _ kt => XS.iload X12.here hx rfl (hb hby own_d_prog_77_5_42) rfl kt) ?_
    show own_Go p e below _ (T12.setTop (mkF m 44 #[.val (.ref ob), .val (.long xp), .second, .val (.ref ry), .val (.int z), .unset] [(.int z), (.ref rp)]))
    refine own_Go.st (fun _ kt => XS.lloadN X12.here hx rfl (hb hby own_d_prog_77_5_44) rfl kt) ?_
    show own_Go p e below _ (T12.setTop (mkF m 45 #[.val (.ref ob), .val (.long xp), .second, .val (.ref ry), .val (.int z), .unset] [(.long xp), (.int z), (.ref rp)]))
    obtain ⟨T13, h13, X13, e13, W13, st13⟩ := own_lst X12 hx hZ e12 aP hz1 (own_P_lt _ _) (g := (mkF m 45 #[.val (.ref ob), .val (.long xp), .second, .val (.ref ry), .val (.int z), .unset] [(.long xp), (.int z), (.ref rp)])) rfl rfl (hb hby own_d_prog_77_5_45)
    refine own_Go.st st13 ?_
    have N13 := Fr.snoc X13 N1 gp
    have a13 := own_Ar.set aP W13
    have zz14 : n0 ≤ Array.size h13 := Nat.le_trans Z0 (Nat.le_of_eq (Wr.size W13).symm)
    have kk14 : Keep h0 h13 [ob, rp, rv] := kk0.wr W13 (Or.inl (List.mem_of_getElem? (i := 1) rfl))
    show own_Go p e below _ (T13.setTop (mkF m 46 #[.val (.ref ob), .val (.long xp), .second, .val (.ref ry), .val (.int z), .unset] []))
    have ap1 : own_Ar Z h13 rp .long 16 (fun j => .long (own_set f (own_P xp d0) xp j)) := a13.congr fun j _ => own_setfn f _ xp j
    refine own_Go.st (fun _ kt => XS.aloadN X13.here hx rfl (hb hby own_d_prog_77_5_46) rfl rfl kt) ?_
    show own_Go p e below _ (T13.setTop (mkF m 47 #[.val (.ref ob), .val (.long xp), .second, .val (.ref ry), .val (.int z), .unset] [(.ref ob)]))
    have f15 := (fV.other W13 (Or.inl ne1))
    obtain ⟨T16, X16, e16, st16⟩ := getF X13 hx hZ hown (host := "") (Or.inl (hw _ (List.mem_of_getElem? (i := 25) rfl))) Via.refl e13 f15 (g := (mkF m 47 #[.val (.ref ob), .val (.long xp), .second, .val (.ref ry), .val (.int z), .unset] [(.ref ob)])) rfl rfl (hb hby own_d_prog_77_5_47)
    refine own_Go.st st16 ?_
    show own_Go p e below _ (T16.setTop (mkF m 50 #[.val (.ref ob), .val (.long xp), .second, .val (.ref ry), .val (.int z), .unset] [(.ref rv)]))
    refine own_Go.st (fun _ kt => XS.iload X16.here hx rfl (hb hby own_d_prog_77_5_50) rfl kt) ?_
    show own_Go p e below _ (T16.setTop (mkF m 52 #[.val (.ref ob), .val (.long xp), .second, .val (.ref ry), .val (.int z), .unset] [(.int z), (.ref rv)]))
    refine own_Go.st (fun _ kt => XS.aloadN X16.here hx rfl (hb hby own_d_prog_77_5_52) rfl rfl kt) ?_
    show own_Go p e below _ (T16.setTop (mkF m 53 #[.val (.ref ob), .val (.long xp), .second, .val (.ref ry), .val (.int z), .unset] [(.ref ry), (.int z), (.ref rv)]))
    have f17 := ((show own_Ok Z h0 (.ref ry) from Or.inr ⟨_, rfl, hy⟩).wr W13)
    have f18 := (aV.other W13 (Ne.symm ne3))
    obtain ⟨T19, h19, X19, e19, W19, st19⟩ := own_rst X16 hx hZ e16 f18 (hw _ (List.mem_of_getElem? (i := 58) rfl)) hz1 (own_P_lt _ _) f17 (g := (mkF m 53 #[.val (.ref ob), .val (.long xp), .second, .val (.ref ry), .val (.int z), .unset] [(.ref ry), (.int z), (.ref rv)])) rfl rfl (hb hby own_d_prog_77_5_53)
    refine own_Go.st st19 ?_
    have N19 := Fr.snoc X19 N13 gv
    have a19 := own_Ro.set f18 W19 f17
    have zz20 : n0 ≤ Array.size h19 := Nat.le_trans zz14 (Nat.le_of_eq (Wr.size W19).symm)
    have kk20 : Keep h0 h19 [ob, rp, rv] := kk14.wr W19 (Or.inl (List.mem_of_getElem? (i := 2) rfl))
    show own_Go p e below _ (T19.setTop (mkF m 54 #[.val (.ref ob), .val (.long xp), .second, .val (.ref ry), .val (.int z), .unset] []))
    refine own_Go.st (fun _ kt => XS.aloadN X19.here hx rfl (hb hby own_d_prog_77_5_54) rfl rfl kt) ?_
    show own_Go p e below _ (T19.setTop (mkF m 55 #[.val (.ref ob), .val (.long xp), .second, .val (.ref ry), .val (.int z), .unset] [(.ref ob)]))
    refine own_Go.st (fun _ kt => XS.dup X19.here hx rfl (hb hby own_d_prog_77_5_55) rfl rfl kt) ?_
    show own_Go p e below _ (T19.setTop (mkF m 56 #[.val (.ref ob), .val (.long xp), .second, .val (.ref ry), .val (.int z), .unset] [(.ref ob), (.ref ob)]))
    have f21 := ((fS.other W13 (Or.inl ne1)).other W19 (Or.inl ne2))
    obtain ⟨T22, X22, e22, st22⟩ := getF X19 hx hZ hown (host := "") (Or.inl (hw _ (List.mem_of_getElem? (i := 27) rfl))) Via.refl e19 f21 (g := (mkF m 56 #[.val (.ref ob), .val (.long xp), .second, .val (.ref ry), .val (.int z), .unset] [(.ref ob), (.ref ob)])) rfl rfl (hb hby own_d_prog_77_5_56)
    refine own_Go.st st22 ?_
    show own_Go p e below _ (T22.setTop (mkF m 59 #[.val (.ref ob), .val (.long xp), .second, .val (.ref ry), .val (.int z), .unset] [(.int xn), (.ref ob)]))
    refine own_Go.st (fun _ kt => XS.iconst X22.here hx rfl (hb hby own_d_prog_77_5_59) kt) ?_
    show own_Go p e below _ (T22.setTop (mkF m 60 #[.val (.ref ob), .val (.long xp), .second, .val (.ref ry), .val (.int z), .unset] [(.int (1 : Int32)), (.int xn), (.ref ob)]))
    refine own_Go.st (fun _ kt => XS.iadd X22.here hx rfl (hb hby own_d_prog_77_5_60) rfl kt) ?_
    show own_Go p e below _ (T22.setTop (mkF m 61 #[.val (.ref ob), .val (.long xp), .second, .val (.ref ry), .val (.int z), .unset] [(.int (xn + (1 : Int32))), (.ref ob)]))
    have f23 := ((fE.wr W13).wr W19)
    obtain ⟨T24, h24, X24, e24, W24, st24⟩ := putF X22 hx hZ hown (host := "") (Or.inl (hw _ (List.mem_of_getElem? (i := 27) rfl))) Via.refl e22 f21 f23 (Or.inl (hw _ (List.mem_of_getElem? (i := 28) rfl))) (hw _ (List.mem_of_getElem? (i := 2) rfl)) (ty := .int) (by decide) rfl rfl (g := (mkF m 61 #[.val (.ref ob), .val (.long xp), .second, .val (.ref ry), .val (.int z), .unset] [(.int (xn + (1 : Int32))), (.ref ob)])) rfl rfl (hb hby own_d_prog_77_5_61)
    refine own_Go.st st24 ?_
    have N24 := Fr.snoc X24 N19 go
    have f24_size := Fld.same W24 f21
    have zz25 : n0 ≤ Array.size h24 := Nat.le_trans zz20 (Nat.le_of_eq (Wr.size W24).symm)
    have kk25 : Keep h0 h24 [ob, rp, rv] := kk20.wr W24 (Or.inl (List.mem_of_getElem? (i := 0) rfl))
    show own_Go p e below _ (T24.setTop (mkF m 64 #[.val (.ref ob), .val (.long xp), .second, .val (.ref ry), .val (.int z), .unset] []))
    refine own_Go.st (fun _ kt => XS.iconst X24.here hx rfl (hb hby own_d_prog_77_5_64) kt) ?_
    show own_Go p e below _ (T24.setTop (mkF m 65 #[.val (.ref ob), .val (.long xp), .second, .val (.ref ry), .val (.int z), .unset] [(.int (2 : Int32))]))
    refine own_Go.st (fun _ kt => XS.aloadN X24.here hx rfl (hb hby own_d_prog_77_5_65) rfl rfl kt) ?_
    show own_Go p e below _ (T24.setTop (mkF m 66 #[.val (.ref ob), .val (.long xp), .second, .val (.ref ry), .val (.int z), .unset] [(.ref ob), (.int (2 : Int32))]))
    obtain ⟨T26, X26, e26, st26⟩ := getF X24 hx hZ hown (host := "") (Or.inl (hw _ (List.mem_of_getElem? (i := 27) rfl))) Via.refl e24 f24_size (g := (mkF m 66 #[.val (.ref ob), .val (.long xp), .second, .val (.ref ry), .val (.int z), .unset] [(.ref ob), (.int (2 : Int32))])) rfl rfl (hb hby own_d_prog_77_5_66)
    refine own_Go.st st26 ?_
    show own_Go p e below _ (T26.setTop (mkF m 69 #[.val (.ref ob), .val (.long xp), .second, .val (.ref ry), .val (.int z), .unset] [(.int (xn + (1 : Int32))), (.int (2 : Int32))]))
    refine own_Go.st (fun _ kt => XS.imul X26.here hx rfl (hb hby own_d_prog_77_5_69) rfl kt) ?_
    show own_Go p e below _ (T26.setTop (mkF m 70 #[.val (.ref ob), .val (.long xp), .second, .val (.ref ry), .val (.int z), .unset] [(.int ((2 : Int32) * (xn + (1 : Int32))))]))
    refine own_Go.st (fun _ kt => XS.aloadN X26.here hx rfl (hb hby own_d_prog_77_5_70) rfl rfl kt) ?_
    show own_Go p e below _ (T26.setTop (mkF m 71 #[.val (.ref ob), .val (.long xp), .second, .val (.ref ry), .val (.int z), .unset] [(.ref ob), (.int ((2 : Int32) * (xn + (1 : Int32))))]))
    have f27 := (((fP.other W13 (Or.inl ne1)).other W19 (Or.inl ne2)).other W24 (Or.inr (slot_ne (Or.inl (hw _ (List.mem_of_getElem? (i := 17) rfl))) (Or.inl (hw _ (List.mem_of_getElem? (i := 28) rfl))) (by decide) (t := (.array .long)) (t' := .int) (by decide) (by decide))))
    obtain ⟨T28, X28, e28, st28⟩ := getF X26 hx hZ hown (host := "") (Or.inl (hw _ (List.mem_of_getElem? (i := 16) rfl))) Via.refl e26 f27 (g := (mkF m 71 #[.val (.ref ob), .val (.long xp), .second, .val (.ref ry), .val (.int z), .unset] [(.ref ob), (.int ((2 : Int32) * (xn + (1 : Int32))))])) rfl rfl (hb hby own_d_prog_77_5_71)
    refine own_Go.st st28 ?_
    show own_Go p e below _ (T28.setTop (mkF m 74 #[.val (.ref ob), .val (.long xp), .second, .val (.ref ry), .val (.int z), .unset] [(.ref rp), (.int ((2 : Int32) * (xn + (1 : Int32))))]))
    have f29 := ((ap1.other W19 ne3).other W24 (Ne.symm ne1))
    refine own_Go.st (fun _ kt => own_alen X28 hx hZ e28 f29 (z := (16 : Int32)) (by decide) (g := (mkF m 74 #[.val (.ref ob), .val (.long xp), .second, .val (.ref ry), .val (.int z), .unset] [(.ref rp), (.int ((2 : Int32) * (xn + (1 : Int32))))])) rfl rfl (hb hby own_d_prog_77_5_74) _ kt) ?_
    show own_Go p e below _ (T28.setTop (mkF m 75 #[.val (.ref ob), .val (.long xp), .second, .val (.ref ry), .val (.int z), .unset] [(.int (16 : Int32)), (.int ((2 : Int32) * (xn + (1 : Int32))))]))
    have hsz := own_put_sz hn hl
    refine own_Go.st (fun _ kt => XS.icmpYes X28.here hx rfl (pc0 := 75) (pc' := 82) rfl (hb hby own_d_prog_77_5_75) rfl (flt hsz.1).2.2.2 (by decide) (by decide) kt) ?_
    show own_Go p e below _ (T28.setTop (mkF m 82 #[.val (.ref ob), .val (.long xp), .second, .val (.ref ry), .val (.int z), .unset] []))
    refine own_Go.st (fun _ kt => XS.aconstNull X28.here hx rfl (hb hby own_d_prog_77_5_82) kt) ?_
    show own_Go p e below _ (T28.setTop (mkF m 83 #[.val (.ref ob), .val (.long xp), .second, .val (.ref ry), .val (.int z), .unset] [.null]))
    have hm : xp ∉ ls := hst.absent hd0 hf hbf
    have hpl : own_putl ls xp = xp :: ls := if_neg hm
    have f30 := (f23.wr W24)
    have f31 := ((f15.other W19 (Or.inl ne2)).other W24 (Or.inr (slot_ne (Or.inl (hw _ (List.mem_of_getElem? (i := 26) rfl))) (Or.inl (hw _ (List.mem_of_getElem? (i := 28) rfl))) (by decide) (t := (.array (.object "java/lang/Object"))) (t' := .int) (by decide) (by decide))))
    have f32 := (a19.other W24 (Ne.symm ne2))
    have fin : own_PM Z h24 n0 ob rp rv (own_set f (own_P xp d0) xp) (xn + 1) := ⟨f30, f27, f31, f24_size, f29, f32, ne1, ne2, ne3, go, gp, gv⟩
    have kk := kk25
    rw [← e28] at fin kk
    exact own_retA X28 hx Bd.notSynchronized Bd.returns rfl rfl (hb hby own_d_prog_77_5_83) (by decide) (by decide) ⟨_, _, _, rfl, N24, rfl, fin, hpl.symm ▸ hst.put hp hd0 hf hbf, hpl.symm ▸ hsz.2, kk⟩
theorem own_ef10 (m : MethodId) (x0 : Addr) (x1 : Int64) : entryFrame m #[(.ref x0), (.long x1)] 9 = mkF m 0 #[.val (.ref x0), .val (.long x1), .second, .unset, .unset, .unset, .unset, .unset, .unset] [] := by first | (simp [entryFrame, mkF, argsToLocals, Value.category]; done) | rfl
theorem own_d_prog_77_6_0 : decode prog_77_method_6_code 0 = .ok (.aload_n 0, 1) := by decide +kernel
theorem own_d_prog_77_6_1 : decode prog_77_method_6_code 1 = .ok (.lload_n 1, 1) := by decide +kernel
theorem own_d_prog_77_6_2 : decode prog_77_method_6_code 2 = .ok (.invokevirtual 16, 3) := by decide +kernel
theorem own_d_prog_77_6_5 : decode prog_77_method_6_code 5 = .ok (.istore_n 3, 1) := by decide +kernel
theorem own_d_prog_77_6_6 : decode prog_77_method_6_code 6 = .ok (.aload_n 0, 1) := by decide +kernel
theorem own_d_prog_77_6_7 : decode prog_77_method_6_code 7 = .ok (.getfield 20, 3) := by decide +kernel
theorem own_d_prog_77_6_10 : decode prog_77_method_6_code 10 = .ok (.iload_n 3, 1) := by decide +kernel
theorem own_d_prog_77_6_11 : decode prog_77_method_6_code 11 = .ok (.laload, 1) := by decide +kernel
theorem own_d_prog_77_6_12 : decode prog_77_method_6_code 12 = .ok (.lload_n 1, 1) := by decide +kernel
theorem own_d_prog_77_6_13 : decode prog_77_method_6_code 13 = .ok (.lcmp, 1) := by decide +kernel
theorem own_d_prog_77_6_14 : decode prog_77_method_6_code 14 = .ok (.ifCond .eq 5, 3) := by decide +kernel
theorem own_d_prog_77_6_19 : decode prog_77_method_6_code 19 = .ok (.aload_n 0, 1) := by decide +kernel
theorem own_d_prog_77_6_20 : decode prog_77_method_6_code 20 = .ok (.iload_n 3, 1) := by decide +kernel
theorem own_d_prog_77_6_21 : decode prog_77_method_6_code 21 = .ok (.invokevirtual 24, 3) := by decide +kernel
theorem own_d_prog_77_6_24 : decode prog_77_method_6_code 24 = .ok (.astore 4, 2) := by decide +kernel
theorem own_d_prog_77_6_26 : decode prog_77_method_6_code 26 = .ok (.iload_n 3, 1) := by decide +kernel
theorem own_d_prog_77_6_27 : decode prog_77_method_6_code 27 = .ok (.istore 5, 2) := by decide +kernel
theorem own_d_prog_77_6_29 : decode prog_77_method_6_code 29 = .ok (.aload_n 0, 1) := by decide +kernel
theorem own_d_prog_77_6_30 : decode prog_77_method_6_code 30 = .ok (.getfield 20, 3) := by decide +kernel
theorem own_d_prog_77_6_33 : decode prog_77_method_6_code 33 = .ok (.arraylength, 1) := by decide +kernel
theorem own_d_prog_77_6_34 : decode prog_77_method_6_code 34 = .ok (.iconst 1, 1) := by decide +kernel
theorem own_d_prog_77_6_35 : decode prog_77_method_6_code 35 = .ok (.isub, 1) := by decide +kernel
theorem own_d_prog_77_6_36 : decode prog_77_method_6_code 36 = .ok (.istore 6, 2) := by decide +kernel
theorem own_d_prog_77_6_38 : decode prog_77_method_6_code 38 = .ok (.iload 5, 2) := by decide +kernel
theorem own_d_prog_77_6_40 : decode prog_77_method_6_code 40 = .ok (.iconst 1, 1) := by decide +kernel
theorem own_d_prog_77_6_41 : decode prog_77_method_6_code 41 = .ok (.iadd, 1) := by decide +kernel
theorem own_d_prog_77_6_42 : decode prog_77_method_6_code 42 = .ok (.iload 6, 2) := by decide +kernel
theorem own_d_prog_77_6_44 : decode prog_77_method_6_code 44 = .ok (.iand, 1) := by decide +kernel
theorem own_d_prog_77_6_45 : decode prog_77_method_6_code 45 = .ok (.istore 7, 2) := by decide +kernel
theorem own_d_prog_77_6_47 : decode prog_77_method_6_code 47 = .ok (.aload_n 0, 1) := by decide +kernel
theorem own_d_prog_77_6_48 : decode prog_77_method_6_code 48 = .ok (.getfield 20, 3) := by decide +kernel
theorem own_d_prog_77_6_51 : decode prog_77_method_6_code 51 = .ok (.iload 7, 2) := by decide +kernel
theorem own_d_prog_77_6_53 : decode prog_77_method_6_code 53 = .ok (.laload, 1) := by decide +kernel
theorem own_d_prog_77_6_54 : decode prog_77_method_6_code 54 = .ok (.ldc2_w 35, 3) := by decide +kernel
theorem own_d_prog_77_6_57 : decode prog_77_method_6_code 57 = .ok (.lcmp, 1) := by decide +kernel
theorem own_d_prog_77_6_58 : decode prog_77_method_6_code 58 = .ok (.ifCond .eq 79, 3) := by decide +kernel
theorem own_d_prog_77_6_137 : decode prog_77_method_6_code 137 = .ok (.aload_n 0, 1) := by decide +kernel
theorem own_d_prog_77_6_138 : decode prog_77_method_6_code 138 = .ok (.getfield 20, 3) := by decide +kernel
theorem own_d_prog_77_6_141 : decode prog_77_method_6_code 141 = .ok (.iload 5, 2) := by decide +kernel
theorem own_d_prog_77_6_143 : decode prog_77_method_6_code 143 = .ok (.ldc2_w 35, 3) := by decide +kernel
theorem own_d_prog_77_6_146 : decode prog_77_method_6_code 146 = .ok (.lastore, 1) := by decide +kernel
theorem own_d_prog_77_6_147 : decode prog_77_method_6_code 147 = .ok (.aload_n 0, 1) := by decide +kernel
theorem own_d_prog_77_6_148 : decode prog_77_method_6_code 148 = .ok (.getfield 28, 3) := by decide +kernel
theorem own_d_prog_77_6_151 : decode prog_77_method_6_code 151 = .ok (.iload 5, 2) := by decide +kernel
theorem own_d_prog_77_6_153 : decode prog_77_method_6_code 153 = .ok (.aconst_null, 1) := by decide +kernel
theorem own_d_prog_77_6_154 : decode prog_77_method_6_code 154 = .ok (.aastore, 1) := by decide +kernel
theorem own_d_prog_77_6_155 : decode prog_77_method_6_code 155 = .ok (.aload_n 0, 1) := by decide +kernel
theorem own_d_prog_77_6_156 : decode prog_77_method_6_code 156 = .ok (.dup, 1) := by decide +kernel
theorem own_d_prog_77_6_157 : decode prog_77_method_6_code 157 = .ok (.getfield 12, 3) := by decide +kernel
theorem own_d_prog_77_6_160 : decode prog_77_method_6_code 160 = .ok (.iconst 1, 1) := by decide +kernel
theorem own_d_prog_77_6_161 : decode prog_77_method_6_code 161 = .ok (.isub, 1) := by decide +kernel
theorem own_d_prog_77_6_162 : decode prog_77_method_6_code 162 = .ok (.putfield 12, 3) := by decide +kernel
theorem own_d_prog_77_6_165 : decode prog_77_method_6_code 165 = .ok (.aload 4, 2) := by decide +kernel
theorem own_d_prog_77_6_167 : decode prog_77_method_6_code 167 = .ok (.areturn, 1) := by decide +kernel
theorem own_d_prog_77_6_61 : decode prog_77_method_6_code 61 = .ok (.aload_n 0, 1) := by decide +kernel
theorem own_d_prog_77_6_62 : decode prog_77_method_6_code 62 = .ok (.aload_n 0, 1) := by decide +kernel
theorem own_d_prog_77_6_63 : decode prog_77_method_6_code 63 = .ok (.getfield 20, 3) := by decide +kernel
theorem own_d_prog_77_6_66 : decode prog_77_method_6_code 66 = .ok (.iload 7, 2) := by decide +kernel
theorem own_d_prog_77_6_68 : decode prog_77_method_6_code 68 = .ok (.laload, 1) := by decide +kernel
theorem own_d_prog_77_6_69 : decode prog_77_method_6_code 69 = .ok (.invokevirtual 37, 3) := by decide +kernel
theorem own_d_prog_77_6_72 : decode prog_77_method_6_code 72 = .ok (.istore 8, 2) := by decide +kernel
theorem own_d_prog_77_6_74 : decode prog_77_method_6_code 74 = .ok (.iload 7, 2) := by decide +kernel
theorem own_d_prog_77_6_76 : decode prog_77_method_6_code 76 = .ok (.iload 8, 2) := by decide +kernel
theorem own_d_prog_77_6_78 : decode prog_77_method_6_code 78 = .ok (.isub, 1) := by decide +kernel
theorem own_d_prog_77_6_79 : decode prog_77_method_6_code 79 = .ok (.iload 6, 2) := by decide +kernel
theorem own_d_prog_77_6_81 : decode prog_77_method_6_code 81 = .ok (.iand, 1) := by decide +kernel
theorem own_d_prog_77_6_82 : decode prog_77_method_6_code 82 = .ok (.iload 7, 2) := by decide +kernel
theorem own_d_prog_77_6_84 : decode prog_77_method_6_code 84 = .ok (.iload 5, 2) := by decide +kernel
theorem own_d_prog_77_6_86 : decode prog_77_method_6_code 86 = .ok (.isub, 1) := by decide +kernel
theorem own_d_prog_77_6_87 : decode prog_77_method_6_code 87 = .ok (.iload 6, 2) := by decide +kernel
theorem own_d_prog_77_6_89 : decode prog_77_method_6_code 89 = .ok (.iand, 1) := by decide +kernel
theorem own_d_prog_77_6_90 : decode prog_77_method_6_code 90 = .ok (.if_icmp .lt 35, 3) := by decide +kernel
theorem own_d_prog_77_6_125 : decode prog_77_method_6_code 125 = .ok (.iload 7, 2) := by decide +kernel
theorem own_d_prog_77_6_127 : decode prog_77_method_6_code 127 = .ok (.iconst 1, 1) := by decide +kernel
theorem own_d_prog_77_6_128 : decode prog_77_method_6_code 128 = .ok (.iadd, 1) := by decide +kernel
theorem own_d_prog_77_6_129 : decode prog_77_method_6_code 129 = .ok (.iload 6, 2) := by decide +kernel
theorem own_d_prog_77_6_131 : decode prog_77_method_6_code 131 = .ok (.iand, 1) := by decide +kernel
theorem own_d_prog_77_6_132 : decode prog_77_method_6_code 132 = .ok (.istore 7, 2) := by decide +kernel
theorem own_d_prog_77_6_134 : decode prog_77_method_6_code 134 = .ok (.goto (-87), 3) := by decide +kernel
theorem own_d_prog_77_6_93 : decode prog_77_method_6_code 93 = .ok (.aload_n 0, 1) := by decide +kernel
theorem own_d_prog_77_6_94 : decode prog_77_method_6_code 94 = .ok (.getfield 20, 3) := by decide +kernel
theorem own_d_prog_77_6_97 : decode prog_77_method_6_code 97 = .ok (.iload 5, 2) := by decide +kernel
theorem own_d_prog_77_6_99 : decode prog_77_method_6_code 99 = .ok (.aload_n 0, 1) := by decide +kernel
theorem own_d_prog_77_6_100 : decode prog_77_method_6_code 100 = .ok (.getfield 20, 3) := by decide +kernel
theorem own_d_prog_77_6_103 : decode prog_77_method_6_code 103 = .ok (.iload 7, 2) := by decide +kernel
theorem own_d_prog_77_6_105 : decode prog_77_method_6_code 105 = .ok (.laload, 1) := by decide +kernel
theorem own_d_prog_77_6_106 : decode prog_77_method_6_code 106 = .ok (.lastore, 1) := by decide +kernel
theorem own_d_prog_77_6_107 : decode prog_77_method_6_code 107 = .ok (.aload_n 0, 1) := by decide +kernel
theorem own_d_prog_77_6_108 : decode prog_77_method_6_code 108 = .ok (.getfield 28, 3) := by decide +kernel
theorem own_d_prog_77_6_111 : decode prog_77_method_6_code 111 = .ok (.iload 5, 2) := by decide +kernel
theorem own_d_prog_77_6_113 : decode prog_77_method_6_code 113 = .ok (.aload_n 0, 1) := by decide +kernel
theorem own_d_prog_77_6_114 : decode prog_77_method_6_code 114 = .ok (.getfield 28, 3) := by decide +kernel
theorem own_d_prog_77_6_117 : decode prog_77_method_6_code 117 = .ok (.iload 7, 2) := by decide +kernel
theorem own_d_prog_77_6_119 : decode prog_77_method_6_code 119 = .ok (.aaload, 1) := by decide +kernel
theorem own_d_prog_77_6_120 : decode prog_77_method_6_code 120 = .ok (.aastore, 1) := by decide +kernel
theorem own_d_prog_77_6_121 : decode prog_77_method_6_code 121 = .ok (.iload 7, 2) := by decide +kernel
theorem own_d_prog_77_6_123 : decode prog_77_method_6_code 123 = .ok (.istore 5, 2) := by decide +kernel
def own_Q_own_remove (Z : State) (ob : Addr) (xp : Int64) (rp rv : Addr) (f : Nat → Int64) (xn : Int32) (ls : List Int64) (h0 : Heap) (n0 : Nat) (v : Option Value) (h : Heap) (L : List Loc) : Prop := ∃ (u : Value) (f' : Nat → Int64) (n' : Int32), v = some u ∧ Fr n0 L ∧ u.isRef = true ∧ own_PM Z h n0 ob rp rv f' n' ∧ own_Ct f' (fun x => x ∈ ls ∧ x ≠ xp) (ls.length - 1) ∧ n'.toInt = ((ls.length - 1 : Nat) : Int) ∧ Keep h0 h [ob, rp, rv]
set_option maxRecDepth 65536 in
set_option maxHeartbeats 40000000 in
theorem own_remove (l : Launch) (Z : State) (a0 : Array Value) (hw : ∀ d ∈ tables_1, d.before a0 Z = true) (ws : List Jvm.Cond) (ob : Addr) (xp : Int64) (rp rv : Addr) (f : Nat → Int64) (xn : Int32) (ls : List Int64) (h0 : Heap) (n0 : Nat) (Z0 : n0 ≤ h0.size) (hpm : own_PM Z h0 n0 ob rp rv f xn) (hst : own_St f ls) (hn : xn.toInt = (ls.length : Int)) (hl : ls.length ≤ 3) (hm : xp ∈ ls) :
    MetFree l (⟨"com/example/thicket/thicket/PageMap", "remove", "(J)Ljava/lang/Object;"⟩ : MethodName) (head1 (Jvm.Cond.code (⟨"com/example/thicket/thicket/PageMap", "remove", "(J)Ljava/lang/Object;"⟩ : MethodName) prog_77_method_6_code 9 (some (.object "java/lang/Object")) :: ws) ({ frames := 4, cells := 0, slots := 0, locals := 60 } : Room)) (fun av_ U => av_ = #[(.ref ob), (.long xp)] ∧ Z.Warmed39 U.vm ∧ U.heap = h0) (fun _ _ _ _ _ => True) (fun _ U o U' => ∃ v L, o = .returned v ∧ own_Q_own_remove Z ob xp rp rv f xn ls h0 n0 v U'.heap L ∧ FrameEnd U o U' L ({ frames := 4, cells := 0, slots := 0, locals := 60 } : Room).cells ({ frames := 4, cells := 0, slots := 0, locals := 60 } : Room).slots) := by
  refine MetFree.of_bodySF (plainFor_of_name own_pn2) hisR ?_
  intro p e s m args below meth c s₁ Bd hml0 hP hK
  obtain ⟨rfl, hZ, hh⟩ := hP
  have hx := Bd.exec
  have hby := Bd.bytes
  have hml : c.maxLocals = 9 := hml0
  have hown : s.vm.findClass "com/example/thicket/thicket/PageMap" = some m.cls := findClass_of_methodNamed Bd.named
  have hnm := (name_of_methodNamed Bd.named Bd.method).1
  have X0 : Stand p l e ({ frames := 4, cells := 0, slots := 0, locals := 60 } : Room) s m #[(.ref ob), (.long xp)] below meth c s₁ [] 0 0 := Stand.of_body Bd
  have e0 : s₁.heap = h0 := by rw [← hh, Bd.state]; rfl
  have N0 := Fr.nil n0
  suffices hgo : own_Go p e below (fun o U' => ∃ v L, o = .returned v ∧ own_Q_own_remove Z ob xp rp rv f xn ls h0 n0 v U'.heap L ∧ FrameEnd s o U' L ({ frames := 4, cells := 0, slots := 0, locals := 60 } : Room).cells ({ frames := 4, cells := 0, slots := 0, locals := 60 } : Room).slots) (s₁.setTop (mkF m 0 #[.val (.ref ob), .val (.long xp), .second, .unset, .unset, .unset, .unset, .unset, .unset] [])) by
    obtain ⟨s₂, o, h1, h2, h3, h4⟩ := hgo
    exact ⟨s₂, o, castTop (own_ef10 m ob xp) h1, h2, h3, h4⟩
  have kk0 : Keep h0 h0 [ob, rp, rv] := Keep.refl _ _
  show own_Go p e below _ (s₁.setTop (mkF m 0 #[.val (.ref ob), .val (.long xp), .second, .unset, .unset, .unset, .unset, .unset, .unset] []))
  obtain ⟨fE, fP, fV, fS, aP, aV, ne1, ne2, ne3, go, gp, gv⟩ := hpm
  obtain ⟨d0, hd0, hs, hbf⟩ := hst.stop (by omega) xp
  have hp := (hst.2.2 xp hm).1
  have hf : f (own_P xp d0) = xp := hs.resolve_right fun q => hst.absent hd0 q hbf hm
  refine own_Go.st (fun _ kt => XS.aloadN X0.here hx rfl (hb hby own_d_prog_77_6_0) rfl rfl kt) ?_
  show own_Go p e below _ (s₁.setTop (mkF m 1 #[.val (.ref ob), .val (.long xp), .second, .unset, .unset, .unset, .unset, .unset, .unset] [(.ref ob)]))
  refine own_Go.st (fun _ kt => XS.lloadN X0.here hx rfl (hb hby own_d_prog_77_6_1) rfl kt) ?_
  show own_Go p e below _ (s₁.setTop (mkF m 2 #[.val (.ref ob), .val (.long xp), .second, .unset, .unset, .unset, .unset, .unset, .unset] [(.long xp), (.ref ob)]))
  obtain ⟨cq1, q1, q1'⟩ := Exa.cell fE
  obtain ⟨_, _, ⟨T1, L1, k1, n1⟩, -, X1, ⟨Lc1, hQ1, l1, y1, z1⟩, st1⟩ := X0.privateBack hx (y := (⟨"com/example/thicket/thicket/PageMap", "find", "(J)I"⟩ : MethodName)) hown (mvT hZ (hw _ (List.mem_of_getElem? (i := 41) rfl))) (mvT hZ (hw _ (List.mem_of_getElem? (i := 42) rfl))) (own_selp hZ (hw _ (List.mem_of_getElem? (i := 13) rfl)) rfl (hw _ (List.mem_of_getElem? (i := 42) rfl)) (hw _ (List.mem_of_getElem? (i := 43) rfl)) (by decide)) (Cond.privateMethod_at (mvP hZ (hw _ (List.mem_of_getElem? (i := 43) rfl)) (args := #[]))) (mvT hZ (hw _ (List.mem_of_getElem? (i := 44) rfl))) (by decide) (backOf (W := 0) (own_find l Z a0 hw [] ob rp xp f d0 h0 n0 Z0 fE fP aP hd0 hs hbf) hZ (hw _ (List.mem_of_getElem? (i := 44) rfl)) (hw _ (List.mem_of_getElem? (i := 3) rfl)) (by decide) (by decide)) (g := (mkF m 2 #[.val (.ref ob), .val (.long xp), .second, .unset, .unset, .unset, .unset, .unset, .unset] [(.long xp), (.ref ob)])) rfl (by rw [hml]; rfl) (Steps.refl _) (a := ob) (by rw [e0]; exact q1) q1' (argsL := [(.long xp)]) (rest := []) (lenOf own_pd1 rfl) rfl (by show 2 * 0 + _ ≤ _; exact Nat.le_of_eq rfl) (hb hby own_d_prog_77_6_2) (fun _ _ => ⟨rfl, e0, (by decide : 0 + 0 ≤ _), (by decide : 0 + 0 ≤ _)⟩)
  dsimp only [Pt.U, Pt.locs, Pt.cells, Pt.slots] at X1 l1 y1 z1 st1 hQ1
  subst l1 y1 z1
  obtain ⟨z, rfl, N1q, hz1, hh1⟩ := hQ1
  have N1 := Fr.app N0 N1q
  refine own_Go.st (fun _ kt => st1.trans kt) ?_
  show own_Go p e below _ (T1.setTop (mkF m 5 #[.val (.ref ob), .val (.long xp), .second, .unset, .unset, .unset, .unset, .unset, .unset] [(.int z)]))
  refine own_Go.st (fun _ kt => XS.istoreN X1.here hx rfl (hb hby own_d_prog_77_6_5) rfl (l' := #[.val (.ref ob), .val (.long xp), .second, .val (.int z), .unset, .unset, .unset, .unset, .unset]) rfl kt) ?_
  show own_Go p e below _ (T1.setTop (mkF m 6 #[.val (.ref ob), .val (.long xp), .second, .val (.int z), .unset, .unset, .unset, .unset, .unset] []))
  refine own_Go.st (fun _ kt => XS.aloadN X1.here hx rfl (hb hby own_d_prog_77_6_6) rfl rfl kt) ?_
  show own_Go p e below _ (T1.setTop (mkF m 7 #[.val (.ref ob), .val (.long xp), .second, .val (.int z), .unset, .unset, .unset, .unset, .unset] [(.ref ob)]))
  obtain ⟨T2, X2, e2, st2⟩ := getF X1 hx hZ hown (host := "") (Or.inl (hw _ (List.mem_of_getElem? (i := 16) rfl))) Via.refl hh1 fP (g := (mkF m 7 #[.val (.ref ob), .val (.long xp), .second, .val (.int z), .unset, .unset, .unset, .unset, .unset] [(.ref ob)])) rfl rfl (hb hby own_d_prog_77_6_7)
  refine own_Go.st st2 ?_
  show own_Go p e below _ (T2.setTop (mkF m 10 #[.val (.ref ob), .val (.long xp), .second, .val (.int z), .unset, .unset, .unset, .unset, .unset] [(.ref rp)]))
  refine own_Go.st (fun _ kt => XS.iloadN X2.here hx rfl (hb hby own_d_prog_77_6_10) rfl kt) ?_
  show own_Go p e below _ (T2.setTop (mkF m 11 #[.val (.ref ob), .val (.long xp), .second, .val (.int z), .unset, .unset, .unset, .unset, .unset] [(.int z), (.ref rp)]))
  have hlt := own_P_lt xp d0
  generalize own_P xp d0 = i0 at hz1 hf hlt
  refine own_Go.st (fun _ kt => own_lld X2 hx hZ e2 aP hz1 hlt (v := (.long (f i0))) rfl (g := (mkF m 11 #[.val (.ref ob), .val (.long xp), .second, .val (.int z), .unset, .unset, .unset, .unset, .unset] [(.int z), (.ref rp)])) rfl rfl (hb hby own_d_prog_77_6_11) _ kt) ?_
  show own_Go p e below _ (T2.setTop (mkF m 12 #[.val (.ref ob), .val (.long xp), .second, .val (.int z), .unset, .unset, .unset, .unset, .unset] [(.long (f i0))]))
  refine own_Go.st (fun _ kt => XS.lloadN X2.here hx rfl (hb hby own_d_prog_77_6_12) rfl kt) ?_
  show own_Go p e below _ (T2.setTop (mkF m 13 #[.val (.ref ob), .val (.long xp), .second, .val (.int z), .unset, .unset, .unset, .unset, .unset] [(.long xp), (.long (f i0))]))
  refine own_Go.st (fun _ kt => XS.lcmp X2.here hx rfl (hb hby own_d_prog_77_6_13) rfl kt) ?_
  show own_Go p e below _ (T2.setTop (mkF m 14 #[.val (.ref ob), .val (.long xp), .second, .val (.int z), .unset, .unset, .unset, .unset, .unset] [(.int (lcmpW (f i0) xp))]))
  refine own_Go.st (fun _ kt => XS.ifYes X2.here hx rfl (pc0 := 14) (pc' := 19) rfl (hb hby own_d_prog_77_6_14) rfl ((if0 _ _).trans (teq ((lw_eq _ _).mpr hf)).1) (by decide) (by decide) kt) ?_
  show own_Go p e below _ (T2.setTop (mkF m 19 #[.val (.ref ob), .val (.long xp), .second, .val (.int z), .unset, .unset, .unset, .unset, .unset] []))
  refine own_Go.st (fun _ kt => XS.aloadN X2.here hx rfl (hb hby own_d_prog_77_6_19) rfl rfl kt) ?_
  show own_Go p e below _ (T2.setTop (mkF m 20 #[.val (.ref ob), .val (.long xp), .second, .val (.int z), .unset, .unset, .unset, .unset, .unset] [(.ref ob)]))
  refine own_Go.st (fun _ kt => XS.iloadN X2.here hx rfl (hb hby own_d_prog_77_6_20) rfl kt) ?_
  show own_Go p e below _ (T2.setTop (mkF m 21 #[.val (.ref ob), .val (.long xp), .second, .val (.int z), .unset, .unset, .unset, .unset, .unset] [(.int z), (.ref ob)]))
  obtain ⟨cq3, q3, q3'⟩ := Exa.cell fE
  obtain ⟨_, _, ⟨T3, L3, k3, n3⟩, -, X3, ⟨Lc3, hQ3, l3, y3, z3⟩, st3⟩ := X2.privateBack hx (y := (⟨"com/example/thicket/thicket/PageMap", "value", "(I)Ljava/lang/Object;"⟩ : MethodName)) hown (mvT hZ (hw _ (List.mem_of_getElem? (i := 59) rfl))) (mvT hZ (hw _ (List.mem_of_getElem? (i := 60) rfl))) (own_selp hZ (hw _ (List.mem_of_getElem? (i := 13) rfl)) rfl (hw _ (List.mem_of_getElem? (i := 60) rfl)) (hw _ (List.mem_of_getElem? (i := 61) rfl)) (by decide)) (Cond.privateMethod_at (mvP hZ (hw _ (List.mem_of_getElem? (i := 61) rfl)) (args := #[]))) (mvT hZ (hw _ (List.mem_of_getElem? (i := 62) rfl))) (by decide) (backOf (W := 0) (own_value l Z a0 hw [] ob rv z _ h0 n0 Z0 fV aV hz1 hlt) hZ (hw _ (List.mem_of_getElem? (i := 62) rfl)) (hw _ (List.mem_of_getElem? (i := 3) rfl)) (by decide) (by decide)) (g := (mkF m 21 #[.val (.ref ob), .val (.long xp), .second, .val (.int z), .unset, .unset, .unset, .unset, .unset] [(.int z), (.ref ob)])) rfl (by rw [hml]; rfl) (Steps.refl _) (a := ob) (by rw [e2]; exact q3) q3' (argsL := [(.int z)]) (rest := []) (lenOf own_pd4 rfl) rfl (by show 2 * 0 + _ ≤ _; exact Nat.le_of_eq rfl) (hb hby own_d_prog_77_6_21) (fun _ _ => ⟨rfl, e2, (by decide : 0 + 0 ≤ _), (by decide : 0 + 0 ≤ _)⟩)
  dsimp only [Pt.U, Pt.locs, Pt.cells, Pt.slots] at X3 l3 y3 z3 st3 hQ3
  subst l3 y3 z3
  obtain ⟨u, rfl, N3q, ok3, hh3⟩ := hQ3
  have N3 := Fr.app N1 N3q
  refine own_Go.st (fun _ kt => st3.trans kt) ?_
  show own_Go p e below _ (T3.setTop (mkF m 24 #[.val (.ref ob), .val (.long xp), .second, .val (.int z), .unset, .unset, .unset, .unset, .unset] [u]))
  refine own_Go.st (fun _ kt => XS.astore X3.here hx rfl (hb hby own_d_prog_77_6_24) rfl (own_Ok.isRef ok3) (l' := #[.val (.ref ob), .val (.long xp), .second, .val (.int z), .val u, .unset, .unset, .unset, .unset]) (by rcases ref_cases (own_Ok.isRef ok3) with rfl | ⟨_, rfl⟩ <;> rfl) kt) ?_
  show own_Go p e below _ (T3.setTop (mkF m 26 #[.val (.ref ob), .val (.long xp), .second, .val (.int z), .val u, .unset, .unset, .unset, .unset] []))
  refine own_Go.st (fun _ kt => XS.iloadN X3.here hx rfl (hb hby own_d_prog_77_6_26) rfl kt) ?_
  show own_Go p e below _ (T3.setTop (mkF m 27 #[.val (.ref ob), .val (.long xp), .second, .val (.int z), .val u, .unset, .unset, .unset, .unset] [(.int z)]))
  refine own_Go.st (fun _ kt => XS.istore X3.here hx rfl (hb hby own_d_prog_77_6_27) rfl (l' := #[.val (.ref ob), .val (.long xp), .second, .val (.int z), .val u, .val (.int z), .unset, .unset, .unset]) rfl kt) ?_
  show own_Go p e below _ (T3.setTop (mkF m 29 #[.val (.ref ob), .val (.long xp), .second, .val (.int z), .val u, .val (.int z), .unset, .unset, .unset] []))
  refine own_Go.st (fun _ kt => XS.aloadN X3.here hx rfl (hb hby own_d_prog_77_6_29) rfl rfl kt) ?_
  show own_Go p e below _ (T3.setTop (mkF m 30 #[.val (.ref ob), .val (.long xp), .second, .val (.int z), .val u, .val (.int z), .unset, .unset, .unset] [(.ref ob)]))
  obtain ⟨T4, X4, e4, st4⟩ := getF X3 hx hZ hown (host := "") (Or.inl (hw _ (List.mem_of_getElem? (i := 16) rfl))) Via.refl hh3 fP (g := (mkF m 30 #[.val (.ref ob), .val (.long xp), .second, .val (.int z), .val u, .val (.int z), .unset, .unset, .unset] [(.ref ob)])) rfl rfl (hb hby own_d_prog_77_6_30)
  refine own_Go.st st4 ?_
  show own_Go p e below _ (T4.setTop (mkF m 33 #[.val (.ref ob), .val (.long xp), .second, .val (.int z), .val u, .val (.int z), .unset, .unset, .unset] [(.ref rp)]))
  refine own_Go.st (fun _ kt => own_alen X4 hx hZ e4 aP (z := (16 : Int32)) (by decide) (g := (mkF m 33 #[.val (.ref ob), .val (.long xp), .second, .val (.int z), .val u, .val (.int z), .unset, .unset, .unset] [(.ref rp)])) rfl rfl (hb hby own_d_prog_77_6_33) _ kt) ?_
  show own_Go p e below _ (T4.setTop (mkF m 34 #[.val (.ref ob), .val (.long xp), .second, .val (.int z), .val u, .val (.int z), .unset, .unset, .unset] [(.int (16 : Int32))]))
  refine own_Go.st (fun _ kt => XS.iconst X4.here hx rfl (hb hby own_d_prog_77_6_34) kt) ?_
  show own_Go p e below _ (T4.setTop (mkF m 35 #[.val (.ref ob), .val (.long xp), .second, .val (.int z), .val u, .val (.int z), .unset, .unset, .unset] [(.int (1 : Int32)), (.int (16 : Int32))]))
  refine own_Go.st (fun _ kt => XS.isub X4.here hx rfl (hb hby own_d_prog_77_6_35) rfl kt) ?_
  show own_Go p e below _ (T4.setTop (mkF m 36 #[.val (.ref ob), .val (.long xp), .second, .val (.int z), .val u, .val (.int z), .unset, .unset, .unset] [(.int ((16 : Int32) - (1 : Int32)))]))
  rw [show ((16 : Int32) - (1 : Int32)) = (15 : Int32) from (by decide)]
  show own_Go p e below _ (T4.setTop (mkF m 36 #[.val (.ref ob), .val (.long xp), .second, .val (.int z), .val u, .val (.int z), .unset, .unset, .unset] [(.int (15 : Int32))]))
  refine own_Go.st (fun _ kt => XS.istore X4.here hx rfl (hb hby own_d_prog_77_6_36) rfl (l' := #[.val (.ref ob), .val (.long xp), .second, .val (.int z), .val u, .val (.int z), .val (.int (15 : Int32)), .unset, .unset]) rfl kt) ?_
  show own_Go p e below _ (T4.setTop (mkF m 38 #[.val (.ref ob), .val (.long xp), .second, .val (.int z), .val u, .val (.int z), .val (.int (15 : Int32)), .unset, .unset] []))
  refine own_Go.st (fun _ kt => XS.iload X4.here hx rfl (hb hby own_d_prog_77_6_38) rfl kt) ?_
  show own_Go p e below _ (T4.setTop (mkF m 40 #[.val (.ref ob), .val (.long xp), .second, .val (.int z), .val u, .val (.int z), .val (.int (15 : Int32)), .unset, .unset] [(.int z)]))
  refine own_Go.st (fun _ kt => XS.iconst X4.here hx rfl (hb hby own_d_prog_77_6_40) kt) ?_
  show own_Go p e below _ (T4.setTop (mkF m 41 #[.val (.ref ob), .val (.long xp), .second, .val (.int z), .val u, .val (.int z), .val (.int (15 : Int32)), .unset, .unset] [(.int (1 : Int32)), (.int z)]))
  refine own_Go.st (fun _ kt => XS.iadd X4.here hx rfl (hb hby own_d_prog_77_6_41) rfl kt) ?_
  show own_Go p e below _ (T4.setTop (mkF m 42 #[.val (.ref ob), .val (.long xp), .second, .val (.int z), .val u, .val (.int z), .val (.int (15 : Int32)), .unset, .unset] [(.int (z + (1 : Int32)))]))
  refine own_Go.st (fun _ kt => XS.iload X4.here hx rfl (hb hby own_d_prog_77_6_42) rfl kt) ?_
  show own_Go p e below _ (T4.setTop (mkF m 44 #[.val (.ref ob), .val (.long xp), .second, .val (.int z), .val u, .val (.int z), .val (.int (15 : Int32)), .unset, .unset] [(.int (15 : Int32)), (.int (z + (1 : Int32)))]))
  refine own_Go.st (fun _ kt => XS.iand X4.here hx rfl (hb hby own_d_prog_77_6_44) rfl kt) ?_
  show own_Go p e below _ (T4.setTop (mkF m 45 #[.val (.ref ob), .val (.long xp), .second, .val (.int z), .val u, .val (.int z), .val (.int (15 : Int32)), .unset, .unset] [(.int ((z + (1 : Int32)) &&& (15 : Int32)))]))
  refine own_Go.st (fun _ kt => XS.istore X4.here hx rfl (hb hby own_d_prog_77_6_45) rfl (l' := #[.val (.ref ob), .val (.long xp), .second, .val (.int z), .val u, .val (.int z), .val (.int (15 : Int32)), .val (.int ((z + (1 : Int32)) &&& (15 : Int32))), .unset]) rfl kt) ?_
  show own_Go p e below _ (T4.setTop (mkF m 47 #[.val (.ref ob), .val (.long xp), .second, .val (.int z), .val u, .val (.int z), .val (.int (15 : Int32)), .val (.int ((z + (1 : Int32)) &&& (15 : Int32))), .unset] []))
  obtain ⟨mm, hm0, hm1, hm2⟩ := own_ahead (f := f) hlt (by rw [hf]; exact hp) (by rw [hst.2.1]; omega)
  have LO : ∀ (td : Nat) (T5 : State) (lc5 : List Loc) (h5 : Heap) (X5 : Stand p l e ({ frames := 4, cells := 0, slots := 0, locals := 60 } : Room) s m #[(.ref ob), (.long xp)] below meth c T5 lc5 0 0) (e5 : T5.heap = h5) (N5 : Fr n0 lc5) (k : Nat) (g : Nat) (ff : Nat → Int64) (xg : Int32) (xq : Int32) (s8 : Slot) (hs8 : s8 = .unset ∨ ∃ y8, s8 = .val (.int y8)) (ht : k + td = mm) (hgk : g < k) (hg : xg.toInt = (((i0 + g) % 16 : Nat) : Int)) (hq : xq.toInt = (((i0 + k) % 16 : Nat) : Int)) (hfree : ff ((i0 + mm) % 16) = -1) (hole : own_Hole f ff xp ((i0 + g) % 16)) (fE : Exa Z h5 ob "com/example/thicket/thicket/PageMap") (fP : Fld Z h5 ob "com/example/thicket/thicket/PageMap" "pages" "[J" (.ref rp)) (fV : Fld Z h5 ob "com/example/thicket/thicket/PageMap" "values" "[Ljava/lang/Object;" (.ref rv)) (fS : Fld Z h5 ob "com/example/thicket/thicket/PageMap" "size" "I" (.int xn)) (aP : own_Ar Z h5 rp .long 16 (fun j => .long (ff j))) (aV : own_Ro Z h5 rv 16) (zz : n0 ≤ Array.size h5) (kk : Keep h0 h5 [ob, rp, rv]), own_Go p e below (fun o U' => ∃ v L, o = .returned v ∧ own_Q_own_remove Z ob xp rp rv f xn ls h0 n0 v U'.heap L ∧ FrameEnd s o U' L ({ frames := 4, cells := 0, slots := 0, locals := 60 } : Room).cells ({ frames := 4, cells := 0, slots := 0, locals := 60 } : Room).slots) (T5.setTop (mkF m 47 #[.val (.ref ob), .val (.long xp), .second, .val (.int z), .val u, .val (.int xg), .val (.int (15 : Int32)), .val (.int xq), s8] [])) := by
    intro td
    induction td using Nat.strongRecOn with
    | ind td IH =>
      intro T5 lc5 h5 X5 e5 N5 k g ff xg xq s8 hs8 ht hgk hg hq hfree hole fE fP fV fS aP aV zz kk
      show own_Go p e below _ (T5.setTop (mkF m 47 #[.val (.ref ob), .val (.long xp), .second, .val (.int z), .val u, .val (.int xg), .val (.int (15 : Int32)), .val (.int xq), s8] []))
      refine own_Go.st (fun _ kt => XS.aloadN X5.here hx rfl (hb hby own_d_prog_77_6_47) rfl rfl kt) ?_
      show own_Go p e below _ (T5.setTop (mkF m 48 #[.val (.ref ob), .val (.long xp), .second, .val (.int z), .val u, .val (.int xg), .val (.int (15 : Int32)), .val (.int xq), s8] [(.ref ob)]))
      obtain ⟨T6, X6, e6, st6⟩ := getF X5 hx hZ hown (host := "") (Or.inl (hw _ (List.mem_of_getElem? (i := 16) rfl))) Via.refl e5 fP (g := (mkF m 48 #[.val (.ref ob), .val (.long xp), .second, .val (.int z), .val u, .val (.int xg), .val (.int (15 : Int32)), .val (.int xq), s8] [(.ref ob)])) rfl rfl (hb hby own_d_prog_77_6_48)
      refine own_Go.st st6 ?_
      show own_Go p e below _ (T6.setTop (mkF m 51 #[.val (.ref ob), .val (.long xp), .second, .val (.int z), .val u, .val (.int xg), .val (.int (15 : Int32)), .val (.int xq), s8] [(.ref rp)]))
      refine own_Go.st (fun _ kt => XS.iload X6.here hx rfl (hb hby own_d_prog_77_6_51) rfl kt) ?_
      show own_Go p e below _ (T6.setTop (mkF m 53 #[.val (.ref ob), .val (.long xp), .second, .val (.int z), .val u, .val (.int xg), .val (.int (15 : Int32)), .val (.int xq), s8] [(.int xq), (.ref rp)]))
      refine own_Go.st (fun _ kt => own_lld X6 hx hZ e6 aP hq (Nat.mod_lt _ (by decide)) (v := (.long (ff ((i0 + k) % 16)))) rfl (g := (mkF m 53 #[.val (.ref ob), .val (.long xp), .second, .val (.int z), .val u, .val (.int xg), .val (.int (15 : Int32)), .val (.int xq), s8] [(.int xq), (.ref rp)])) rfl rfl (hb hby own_d_prog_77_6_53) _ kt) ?_
      show own_Go p e below _ (T6.setTop (mkF m 54 #[.val (.ref ob), .val (.long xp), .second, .val (.int z), .val u, .val (.int xg), .val (.int (15 : Int32)), .val (.int xq), s8] [(.long (ff ((i0 + k) % 16)))]))
      refine own_Go.st (fun _ kt => X6.ldc2J hx hown (mvT hZ (hw _ (List.mem_of_getElem? (i := 18) rfl))) rfl (hb hby own_d_prog_77_6_54) kt) ?_
      show own_Go p e below _ (T6.setTop (mkF m 57 #[.val (.ref ob), .val (.long xp), .second, .val (.int z), .val u, .val (.int xg), .val (.int (15 : Int32)), .val (.int xq), s8] [(.long (-1 : Int64)), (.long (ff ((i0 + k) % 16)))]))
      refine own_Go.st (fun _ kt => XS.lcmp X6.here hx rfl (hb hby own_d_prog_77_6_57) rfl kt) ?_
      show own_Go p e below _ (T6.setTop (mkF m 58 #[.val (.ref ob), .val (.long xp), .second, .val (.int z), .val u, .val (.int xg), .val (.int (15 : Int32)), .val (.int xq), s8] [(.int (lcmpW (ff ((i0 + k) % 16)) (-1 : Int64)))]))
      by_cases hc : (ff ((i0 + k) % 16)) = (-1 : Int64)
      · refine own_Go.st (fun _ kt => XS.ifYes X6.here hx rfl (pc0 := 58) (pc' := 137) rfl (hb hby own_d_prog_77_6_58) rfl ((if0 _ _).trans (teq ((lw_eq _ _).mpr hc)).1) (by decide) (by decide) kt) ?_
        show own_Go p e below _ (T6.setTop (mkF m 137 #[.val (.ref ob), .val (.long xp), .second, .val (.int z), .val u, .val (.int xg), .val (.int (15 : Int32)), .val (.int xq), s8] []))
        refine own_Go.st (fun _ kt => XS.aloadN X6.here hx rfl (hb hby own_d_prog_77_6_137) rfl rfl kt) ?_
        show own_Go p e below _ (T6.setTop (mkF m 138 #[.val (.ref ob), .val (.long xp), .second, .val (.int z), .val u, .val (.int xg), .val (.int (15 : Int32)), .val (.int xq), s8] [(.ref ob)]))
        obtain ⟨T7, X7, e7, st7⟩ := getF X6 hx hZ hown (host := "") (Or.inl (hw _ (List.mem_of_getElem? (i := 16) rfl))) Via.refl e6 fP (g := (mkF m 138 #[.val (.ref ob), .val (.long xp), .second, .val (.int z), .val u, .val (.int xg), .val (.int (15 : Int32)), .val (.int xq), s8] [(.ref ob)])) rfl rfl (hb hby own_d_prog_77_6_138)
        refine own_Go.st st7 ?_
        show own_Go p e below _ (T7.setTop (mkF m 141 #[.val (.ref ob), .val (.long xp), .second, .val (.int z), .val u, .val (.int xg), .val (.int (15 : Int32)), .val (.int xq), s8] [(.ref rp)]))
        refine own_Go.st (fun _ kt => XS.iload X7.here hx rfl (hb hby own_d_prog_77_6_141) rfl kt) ?_
        show own_Go p e below _ (T7.setTop (mkF m 143 #[.val (.ref ob), .val (.long xp), .second, .val (.int z), .val u, .val (.int xg), .val (.int (15 : Int32)), .val (.int xq), s8] [(.int xg), (.ref rp)]))
        refine own_Go.st (fun _ kt => X7.ldc2J hx hown (mvT hZ (hw _ (List.mem_of_getElem? (i := 18) rfl))) rfl (hb hby own_d_prog_77_6_143) kt) ?_
        show own_Go p e below _ (T7.setTop (mkF m 146 #[.val (.ref ob), .val (.long xp), .second, .val (.int z), .val u, .val (.int xg), .val (.int (15 : Int32)), .val (.int xq), s8] [(.long (-1 : Int64)), (.int xg), (.ref rp)]))
        obtain ⟨T8, h8, X8, e8, W8, st8⟩ := own_lst X7 hx hZ e7 aP hg (Nat.mod_lt _ (by decide)) (g := (mkF m 146 #[.val (.ref ob), .val (.long xp), .second, .val (.int z), .val u, .val (.int xg), .val (.int (15 : Int32)), .val (.int xq), s8] [(.long (-1 : Int64)), (.int xg), (.ref rp)])) rfl rfl (hb hby own_d_prog_77_6_146)
        refine own_Go.st st8 ?_
        have N8 := Fr.snoc X8 N5 gp
        have a8 := own_Ar.set aP W8
        have zz9 : n0 ≤ Array.size h8 := Nat.le_trans zz (Nat.le_of_eq (Wr.size W8).symm)
        have kk9 : Keep h0 h8 [ob, rp, rv] := kk.wr W8 (Or.inl (List.mem_of_getElem? (i := 1) rfl))
        show own_Go p e below _ (T8.setTop (mkF m 147 #[.val (.ref ob), .val (.long xp), .second, .val (.int z), .val u, .val (.int xg), .val (.int (15 : Int32)), .val (.int xq), s8] []))
        have ap1 : own_Ar Z h8 rp .long 16 (fun j => .long (own_set ff ((i0 + g) % 16) (-1) j)) := a8.congr fun j _ => own_setfn ff _ (-1) j
        refine own_Go.st (fun _ kt => XS.aloadN X8.here hx rfl (hb hby own_d_prog_77_6_147) rfl rfl kt) ?_
        show own_Go p e below _ (T8.setTop (mkF m 148 #[.val (.ref ob), .val (.long xp), .second, .val (.int z), .val u, .val (.int xg), .val (.int (15 : Int32)), .val (.int xq), s8] [(.ref ob)]))
        have f10 := (fV.other W8 (Or.inl ne1))
        obtain ⟨T11, X11, e11, st11⟩ := getF X8 hx hZ hown (host := "") (Or.inl (hw _ (List.mem_of_getElem? (i := 25) rfl))) Via.refl e8 f10 (g := (mkF m 148 #[.val (.ref ob), .val (.long xp), .second, .val (.int z), .val u, .val (.int xg), .val (.int (15 : Int32)), .val (.int xq), s8] [(.ref ob)])) rfl rfl (hb hby own_d_prog_77_6_148)
        refine own_Go.st st11 ?_
        show own_Go p e below _ (T11.setTop (mkF m 151 #[.val (.ref ob), .val (.long xp), .second, .val (.int z), .val u, .val (.int xg), .val (.int (15 : Int32)), .val (.int xq), s8] [(.ref rv)]))
        refine own_Go.st (fun _ kt => XS.iload X11.here hx rfl (hb hby own_d_prog_77_6_151) rfl kt) ?_
        show own_Go p e below _ (T11.setTop (mkF m 153 #[.val (.ref ob), .val (.long xp), .second, .val (.int z), .val u, .val (.int xg), .val (.int (15 : Int32)), .val (.int xq), s8] [(.int xg), (.ref rv)]))
        refine own_Go.st (fun _ kt => XS.aconstNull X11.here hx rfl (hb hby own_d_prog_77_6_153) kt) ?_
        show own_Go p e below _ (T11.setTop (mkF m 154 #[.val (.ref ob), .val (.long xp), .second, .val (.int z), .val u, .val (.int xg), .val (.int (15 : Int32)), .val (.int xq), s8] [.null, (.int xg), (.ref rv)]))
        have f12 := (aV.other W8 (Ne.symm ne3))
        obtain ⟨T13, h13, X13, e13, W13, st13⟩ := own_rst X11 hx hZ e11 f12 (hw _ (List.mem_of_getElem? (i := 58) rfl)) hg (Nat.mod_lt _ (by decide)) (Or.inl rfl) (g := (mkF m 154 #[.val (.ref ob), .val (.long xp), .second, .val (.int z), .val u, .val (.int xg), .val (.int (15 : Int32)), .val (.int xq), s8] [.null, (.int xg), (.ref rv)])) rfl rfl (hb hby own_d_prog_77_6_154)
        refine own_Go.st st13 ?_
        have N13 := Fr.snoc X13 N8 gv
        have a13 := own_Ro.set f12 W13 (Or.inl rfl)
        have zz14 : n0 ≤ Array.size h13 := Nat.le_trans zz9 (Nat.le_of_eq (Wr.size W13).symm)
        have kk14 : Keep h0 h13 [ob, rp, rv] := kk9.wr W13 (Or.inl (List.mem_of_getElem? (i := 2) rfl))
        show own_Go p e below _ (T13.setTop (mkF m 155 #[.val (.ref ob), .val (.long xp), .second, .val (.int z), .val u, .val (.int xg), .val (.int (15 : Int32)), .val (.int xq), s8] []))
        refine own_Go.st (fun _ kt => XS.aloadN X13.here hx rfl (hb hby own_d_prog_77_6_155) rfl rfl kt) ?_
        show own_Go p e below _ (T13.setTop (mkF m 156 #[.val (.ref ob), .val (.long xp), .second, .val (.int z), .val u, .val (.int xg), .val (.int (15 : Int32)), .val (.int xq), s8] [(.ref ob)]))
        refine own_Go.st (fun _ kt => XS.dup X13.here hx rfl (hb hby own_d_prog_77_6_156) rfl rfl kt) ?_
        show own_Go p e below _ (T13.setTop (mkF m 157 #[.val (.ref ob), .val (.long xp), .second, .val (.int z), .val u, .val (.int xg), .val (.int (15 : Int32)), .val (.int xq), s8] [(.ref ob), (.ref ob)]))
        have f15 := ((fS.other W8 (Or.inl ne1)).other W13 (Or.inl ne2))
        obtain ⟨T16, X16, e16, st16⟩ := getF X13 hx hZ hown (host := "") (Or.inl (hw _ (List.mem_of_getElem? (i := 27) rfl))) Via.refl e13 f15 (g := (mkF m 157 #[.val (.ref ob), .val (.long xp), .second, .val (.int z), .val u, .val (.int xg), .val (.int (15 : Int32)), .val (.int xq), s8] [(.ref ob), (.ref ob)])) rfl rfl (hb hby own_d_prog_77_6_157)
        refine own_Go.st st16 ?_
        show own_Go p e below _ (T16.setTop (mkF m 160 #[.val (.ref ob), .val (.long xp), .second, .val (.int z), .val u, .val (.int xg), .val (.int (15 : Int32)), .val (.int xq), s8] [(.int xn), (.ref ob)]))
        refine own_Go.st (fun _ kt => XS.iconst X16.here hx rfl (hb hby own_d_prog_77_6_160) kt) ?_
        show own_Go p e below _ (T16.setTop (mkF m 161 #[.val (.ref ob), .val (.long xp), .second, .val (.int z), .val u, .val (.int xg), .val (.int (15 : Int32)), .val (.int xq), s8] [(.int (1 : Int32)), (.int xn), (.ref ob)]))
        refine own_Go.st (fun _ kt => XS.isub X16.here hx rfl (hb hby own_d_prog_77_6_161) rfl kt) ?_
        show own_Go p e below _ (T16.setTop (mkF m 162 #[.val (.ref ob), .val (.long xp), .second, .val (.int z), .val u, .val (.int xg), .val (.int (15 : Int32)), .val (.int xq), s8] [(.int (xn - (1 : Int32))), (.ref ob)]))
        have f17 := ((fE.wr W8).wr W13)
        obtain ⟨T18, h18, X18, e18, W18, st18⟩ := putF X16 hx hZ hown (host := "") (Or.inl (hw _ (List.mem_of_getElem? (i := 27) rfl))) Via.refl e16 f15 f17 (Or.inl (hw _ (List.mem_of_getElem? (i := 28) rfl))) (hw _ (List.mem_of_getElem? (i := 2) rfl)) (ty := .int) (by decide) rfl rfl (g := (mkF m 162 #[.val (.ref ob), .val (.long xp), .second, .val (.int z), .val u, .val (.int xg), .val (.int (15 : Int32)), .val (.int xq), s8] [(.int (xn - (1 : Int32))), (.ref ob)])) rfl rfl (hb hby own_d_prog_77_6_162)
        refine own_Go.st st18 ?_
        have N18 := Fr.snoc X18 N13 go
        have f18_size := Fld.same W18 f15
        have zz19 : n0 ≤ Array.size h18 := Nat.le_trans zz14 (Nat.le_of_eq (Wr.size W18).symm)
        have kk19 : Keep h0 h18 [ob, rp, rv] := kk14.wr W18 (Or.inl (List.mem_of_getElem? (i := 0) rfl))
        show own_Go p e below _ (T18.setTop (mkF m 165 #[.val (.ref ob), .val (.long xp), .second, .val (.int z), .val u, .val (.int xg), .val (.int (15 : Int32)), .val (.int xq), s8] []))
        refine own_Go.st (fun _ kt => XS.aload X18.here hx rfl (hb hby own_d_prog_77_6_165) rfl (own_Ok.isRef ok3) kt) ?_
        show own_Go p e below _ (T18.setTop (mkF m 167 #[.val (.ref ob), .val (.long xp), .second, .val (.int z), .val u, .val (.int xg), .val (.int (15 : Int32)), .val (.int xq), s8] [u]))
        have lp : 0 < ls.length := List.length_pos_of_mem hm
        have f20 := (f17.wr W18)
        have f21 := (((fP.other W8 (Or.inl ne1)).other W13 (Or.inl ne2)).other W18 (Or.inr (slot_ne (Or.inl (hw _ (List.mem_of_getElem? (i := 17) rfl))) (Or.inl (hw _ (List.mem_of_getElem? (i := 28) rfl))) (by decide) (t := (.array .long)) (t' := .int) (by decide) (by decide))))
        have f22 := ((f10.other W13 (Or.inl ne2)).other W18 (Or.inr (slot_ne (Or.inl (hw _ (List.mem_of_getElem? (i := 26) rfl))) (Or.inl (hw _ (List.mem_of_getElem? (i := 28) rfl))) (by decide) (t := (.array (.object "java/lang/Object"))) (t' := .int) (by decide) (by decide))))
        have f23 := ((ap1.other W13 ne3).other W18 (Ne.symm ne1))
        have f24 := (a13.other W18 (Ne.symm ne2))
        have fin : own_PM Z h18 n0 ob rp rv (own_set ff ((i0 + g) % 16) (-1)) (xn - 1) := ⟨f20, f21, f22, f18_size, f23, f24, ne1, ne2, ne3, go, gp, gv⟩
        have kf := kk19
        rw [← e18] at fin kf
        exact own_retA X18 hx Bd.notSynchronized Bd.returns rfl (own_Ok.isRef ok3) (hb hby own_d_prog_77_6_167) (by decide) (by decide) ⟨_, _, _, rfl, N18, (own_Ok.isRef ok3), fin, hole.ct hst hm, own_dec hn lp, kf⟩
      · refine own_Go.st (fun _ kt => XS.ifNo X6.here hx rfl (hb hby own_d_prog_77_6_58) rfl ((if0 _ _).trans (feq (mt (lw_eq _ _).mp hc)).1) kt) ?_
        show own_Go p e below _ (T6.setTop (mkF m 61 #[.val (.ref ob), .val (.long xp), .second, .val (.int z), .val u, .val (.int xg), .val (.int (15 : Int32)), .val (.int xq), s8] []))
        have hkm : k ≠ mm := fun q => hc (by rw [q]; exact hfree)
        refine own_Go.st (fun _ kt => XS.aloadN X6.here hx rfl (hb hby own_d_prog_77_6_61) rfl rfl kt) ?_
        show own_Go p e below _ (T6.setTop (mkF m 62 #[.val (.ref ob), .val (.long xp), .second, .val (.int z), .val u, .val (.int xg), .val (.int (15 : Int32)), .val (.int xq), s8] [(.ref ob)]))
        refine own_Go.st (fun _ kt => XS.aloadN X6.here hx rfl (hb hby own_d_prog_77_6_62) rfl rfl kt) ?_
        show own_Go p e below _ (T6.setTop (mkF m 63 #[.val (.ref ob), .val (.long xp), .second, .val (.int z), .val u, .val (.int xg), .val (.int (15 : Int32)), .val (.int xq), s8] [(.ref ob), (.ref ob)]))
        obtain ⟨T25, X25, e25, st25⟩ := getF X6 hx hZ hown (host := "") (Or.inl (hw _ (List.mem_of_getElem? (i := 16) rfl))) Via.refl e6 fP (g := (mkF m 63 #[.val (.ref ob), .val (.long xp), .second, .val (.int z), .val u, .val (.int xg), .val (.int (15 : Int32)), .val (.int xq), s8] [(.ref ob), (.ref ob)])) rfl rfl (hb hby own_d_prog_77_6_63)
        refine own_Go.st st25 ?_
        show own_Go p e below _ (T25.setTop (mkF m 66 #[.val (.ref ob), .val (.long xp), .second, .val (.int z), .val u, .val (.int xg), .val (.int (15 : Int32)), .val (.int xq), s8] [(.ref rp), (.ref ob)]))
        refine own_Go.st (fun _ kt => XS.iload X25.here hx rfl (hb hby own_d_prog_77_6_66) rfl kt) ?_
        show own_Go p e below _ (T25.setTop (mkF m 68 #[.val (.ref ob), .val (.long xp), .second, .val (.int z), .val u, .val (.int xg), .val (.int (15 : Int32)), .val (.int xq), s8] [(.int xq), (.ref rp), (.ref ob)]))
        refine own_Go.st (fun _ kt => own_lld X25 hx hZ e25 aP hq (Nat.mod_lt _ (by decide)) (v := (.long (ff ((i0 + k) % 16)))) rfl (g := (mkF m 68 #[.val (.ref ob), .val (.long xp), .second, .val (.int z), .val u, .val (.int xg), .val (.int (15 : Int32)), .val (.int xq), s8] [(.int xq), (.ref rp), (.ref ob)])) rfl rfl (hb hby own_d_prog_77_6_68) _ kt) ?_
        show own_Go p e below _ (T25.setTop (mkF m 69 #[.val (.ref ob), .val (.long xp), .second, .val (.int z), .val u, .val (.int xg), .val (.int (15 : Int32)), .val (.int xq), s8] [(.long (ff ((i0 + k) % 16))), (.ref ob)]))
        obtain ⟨cq26, q26, q26'⟩ := Exa.cell fE
        obtain ⟨_, _, ⟨T26, L26, k26, n26⟩, -, X26, ⟨Lc26, hQ26, l26, y26, z26⟩, st26⟩ := X25.privateBack hx (y := (⟨"com/example/thicket/thicket/PageMap", "home", "(J)I"⟩ : MethodName)) hown (mvT hZ (hw _ (List.mem_of_getElem? (i := 45) rfl))) (mvT hZ (hw _ (List.mem_of_getElem? (i := 46) rfl))) (own_selp hZ (hw _ (List.mem_of_getElem? (i := 13) rfl)) rfl (hw _ (List.mem_of_getElem? (i := 46) rfl)) (hw _ (List.mem_of_getElem? (i := 47) rfl)) (by decide)) (Cond.privateMethod_at (mvP hZ (hw _ (List.mem_of_getElem? (i := 47) rfl)) (args := #[]))) (mvT hZ (hw _ (List.mem_of_getElem? (i := 48) rfl))) (by decide) (backOf (W := 0) (own_home l Z a0 hw [] ob rp (ff ((i0 + k) % 16)) ff h5 n0 zz fP aP) hZ (hw _ (List.mem_of_getElem? (i := 48) rfl)) (hw _ (List.mem_of_getElem? (i := 3) rfl)) (by decide) (by decide)) (g := (mkF m 69 #[.val (.ref ob), .val (.long xp), .second, .val (.int z), .val u, .val (.int xg), .val (.int (15 : Int32)), .val (.int xq), s8] [(.long (ff ((i0 + k) % 16))), (.ref ob)])) rfl (by rw [hml]; rfl) (Steps.refl _) (a := ob) (by rw [e25]; exact q26) q26' (argsL := [(.long (ff ((i0 + k) % 16)))]) (rest := []) (lenOf own_pd1 rfl) rfl (by show 2 * 0 + _ ≤ _; exact Nat.le_of_eq rfl) (hb hby own_d_prog_77_6_69) (fun _ _ => ⟨rfl, e25, (by decide : 0 + 0 ≤ _), (by decide : 0 + 0 ≤ _)⟩)
        dsimp only [Pt.U, Pt.locs, Pt.cells, Pt.slots] at X26 l26 y26 z26 st26 hQ26
        subst l26 y26 z26
        obtain ⟨rfl, N26q, hh26⟩ := hQ26
        have N26 := Fr.app N5 N26q
        refine own_Go.st (fun _ kt => st26.trans kt) ?_
        show own_Go p e below _ (T26.setTop (mkF m 72 #[.val (.ref ob), .val (.long xp), .second, .val (.int z), .val u, .val (.int xg), .val (.int (15 : Int32)), .val (.int xq), s8] [(.int (own_homeI (ff ((i0 + k) % 16))))]))
        generalize own_homeI (ff ((i0 + k) % 16)) = xh
        show own_Go p e below _ (T26.setTop (mkF m 72 #[.val (.ref ob), .val (.long xp), .second, .val (.int z), .val u, .val (.int xg), .val (.int (15 : Int32)), .val (.int xq), s8] [(.int xh)]))
        refine own_Go.st (fun _ kt => XS.istore X26.here hx rfl (hb hby own_d_prog_77_6_72) rfl (l' := #[.val (.ref ob), .val (.long xp), .second, .val (.int z), .val u, .val (.int xg), .val (.int (15 : Int32)), .val (.int xq), .val (.int xh)]) (by rcases hs8 with rfl | ⟨y8, rfl⟩ <;> rfl) kt) ?_
        show own_Go p e below _ (T26.setTop (mkF m 74 #[.val (.ref ob), .val (.long xp), .second, .val (.int z), .val u, .val (.int xg), .val (.int (15 : Int32)), .val (.int xq), .val (.int xh)] []))
        refine own_Go.st (fun _ kt => XS.iload X26.here hx rfl (hb hby own_d_prog_77_6_74) rfl kt) ?_
        show own_Go p e below _ (T26.setTop (mkF m 76 #[.val (.ref ob), .val (.long xp), .second, .val (.int z), .val u, .val (.int xg), .val (.int (15 : Int32)), .val (.int xq), .val (.int xh)] [(.int xq)]))
        refine own_Go.st (fun _ kt => XS.iload X26.here hx rfl (hb hby own_d_prog_77_6_76) rfl kt) ?_
        show own_Go p e below _ (T26.setTop (mkF m 78 #[.val (.ref ob), .val (.long xp), .second, .val (.int z), .val u, .val (.int xg), .val (.int (15 : Int32)), .val (.int xq), .val (.int xh)] [(.int xh), (.int xq)]))
        refine own_Go.st (fun _ kt => XS.isub X26.here hx rfl (hb hby own_d_prog_77_6_78) rfl kt) ?_
        show own_Go p e below _ (T26.setTop (mkF m 79 #[.val (.ref ob), .val (.long xp), .second, .val (.int z), .val u, .val (.int xg), .val (.int (15 : Int32)), .val (.int xq), .val (.int xh)] [(.int (xq - xh))]))
        refine own_Go.st (fun _ kt => XS.iload X26.here hx rfl (hb hby own_d_prog_77_6_79) rfl kt) ?_
        show own_Go p e below _ (T26.setTop (mkF m 81 #[.val (.ref ob), .val (.long xp), .second, .val (.int z), .val u, .val (.int xg), .val (.int (15 : Int32)), .val (.int xq), .val (.int xh)] [(.int (15 : Int32)), (.int (xq - xh))]))
        refine own_Go.st (fun _ kt => XS.iand X26.here hx rfl (hb hby own_d_prog_77_6_81) rfl kt) ?_
        show own_Go p e below _ (T26.setTop (mkF m 82 #[.val (.ref ob), .val (.long xp), .second, .val (.int z), .val u, .val (.int xg), .val (.int (15 : Int32)), .val (.int xq), .val (.int xh)] [(.int ((xq - xh) &&& (15 : Int32)))]))
        refine own_Go.st (fun _ kt => XS.iload X26.here hx rfl (hb hby own_d_prog_77_6_82) rfl kt) ?_
        show own_Go p e below _ (T26.setTop (mkF m 84 #[.val (.ref ob), .val (.long xp), .second, .val (.int z), .val u, .val (.int xg), .val (.int (15 : Int32)), .val (.int xq), .val (.int xh)] [(.int xq), (.int ((xq - xh) &&& (15 : Int32)))]))
        refine own_Go.st (fun _ kt => XS.iload X26.here hx rfl (hb hby own_d_prog_77_6_84) rfl kt) ?_
        show own_Go p e below _ (T26.setTop (mkF m 86 #[.val (.ref ob), .val (.long xp), .second, .val (.int z), .val u, .val (.int xg), .val (.int (15 : Int32)), .val (.int xq), .val (.int xh)] [(.int xg), (.int xq), (.int ((xq - xh) &&& (15 : Int32)))]))
        refine own_Go.st (fun _ kt => XS.isub X26.here hx rfl (hb hby own_d_prog_77_6_86) rfl kt) ?_
        show own_Go p e below _ (T26.setTop (mkF m 87 #[.val (.ref ob), .val (.long xp), .second, .val (.int z), .val u, .val (.int xg), .val (.int (15 : Int32)), .val (.int xq), .val (.int xh)] [(.int (xq - xg)), (.int ((xq - xh) &&& (15 : Int32)))]))
        refine own_Go.st (fun _ kt => XS.iload X26.here hx rfl (hb hby own_d_prog_77_6_87) rfl kt) ?_
        show own_Go p e below _ (T26.setTop (mkF m 89 #[.val (.ref ob), .val (.long xp), .second, .val (.int z), .val u, .val (.int xg), .val (.int (15 : Int32)), .val (.int xq), .val (.int xh)] [(.int (15 : Int32)), (.int (xq - xg)), (.int ((xq - xh) &&& (15 : Int32)))]))
        refine own_Go.st (fun _ kt => XS.iand X26.here hx rfl (hb hby own_d_prog_77_6_89) rfl kt) ?_
        show own_Go p e below _ (T26.setTop (mkF m 90 #[.val (.ref ob), .val (.long xp), .second, .val (.int z), .val u, .val (.int xg), .val (.int (15 : Int32)), .val (.int xq), .val (.int xh)] [(.int ((xq - xg) &&& (15 : Int32))), (.int ((xq - xh) &&& (15 : Int32)))]))
        by_cases hc2 : ((xq - xh) &&& (15 : Int32)) < ((xq - xg) &&& (15 : Int32))
        · refine own_Go.st (fun _ kt => XS.icmpYes X26.here hx rfl (pc0 := 90) (pc' := 125) rfl (hb hby own_d_prog_77_6_90) rfl (tlt hc2).1 (by decide) (by decide) kt) ?_
          show own_Go p e below _ (T26.setTop (mkF m 125 #[.val (.ref ob), .val (.long xp), .second, .val (.int z), .val u, .val (.int xg), .val (.int (15 : Int32)), .val (.int xq), .val (.int xh)] []))
          have hk1 := own_next hq (Nat.mod_lt _ (by decide))
          rw [show ((i0 + k) % 16 + 1) % 16 = (i0 + (k + 1)) % 16 by omega] at hk1
          refine own_Go.st (fun _ kt => XS.iload X26.here hx rfl (hb hby own_d_prog_77_6_125) rfl kt) ?_
          show own_Go p e below _ (T26.setTop (mkF m 127 #[.val (.ref ob), .val (.long xp), .second, .val (.int z), .val u, .val (.int xg), .val (.int (15 : Int32)), .val (.int xq), .val (.int xh)] [(.int xq)]))
          refine own_Go.st (fun _ kt => XS.iconst X26.here hx rfl (hb hby own_d_prog_77_6_127) kt) ?_
          show own_Go p e below _ (T26.setTop (mkF m 128 #[.val (.ref ob), .val (.long xp), .second, .val (.int z), .val u, .val (.int xg), .val (.int (15 : Int32)), .val (.int xq), .val (.int xh)] [(.int (1 : Int32)), (.int xq)]))
          refine own_Go.st (fun _ kt => XS.iadd X26.here hx rfl (hb hby own_d_prog_77_6_128) rfl kt) ?_
          show own_Go p e below _ (T26.setTop (mkF m 129 #[.val (.ref ob), .val (.long xp), .second, .val (.int z), .val u, .val (.int xg), .val (.int (15 : Int32)), .val (.int xq), .val (.int xh)] [(.int (xq + (1 : Int32)))]))
          refine own_Go.st (fun _ kt => XS.iload X26.here hx rfl (hb hby own_d_prog_77_6_129) rfl kt) ?_
          show own_Go p e below _ (T26.setTop (mkF m 131 #[.val (.ref ob), .val (.long xp), .second, .val (.int z), .val u, .val (.int xg), .val (.int (15 : Int32)), .val (.int xq), .val (.int xh)] [(.int (15 : Int32)), (.int (xq + (1 : Int32)))]))
          refine own_Go.st (fun _ kt => XS.iand X26.here hx rfl (hb hby own_d_prog_77_6_131) rfl kt) ?_
          show own_Go p e below _ (T26.setTop (mkF m 132 #[.val (.ref ob), .val (.long xp), .second, .val (.int z), .val u, .val (.int xg), .val (.int (15 : Int32)), .val (.int xq), .val (.int xh)] [(.int ((xq + (1 : Int32)) &&& (15 : Int32)))]))
          refine own_Go.st (fun _ kt => XS.istore X26.here hx rfl (hb hby own_d_prog_77_6_132) rfl (l' := #[.val (.ref ob), .val (.long xp), .second, .val (.int z), .val u, .val (.int xg), .val (.int (15 : Int32)), .val (.int ((xq + (1 : Int32)) &&& (15 : Int32))), .val (.int xh)]) rfl kt) ?_
          show own_Go p e below _ (T26.setTop (mkF m 134 #[.val (.ref ob), .val (.long xp), .second, .val (.int z), .val u, .val (.int xg), .val (.int (15 : Int32)), .val (.int ((xq + (1 : Int32)) &&& (15 : Int32))), .val (.int xh)] []))
          refine own_Go.st (fun _ kt => XS.goto X26.here hx rfl (pc0 := 134) (pc' := 47) rfl (hb hby own_d_prog_77_6_134) (by decide) (by decide) kt) ?_
          show own_Go p e below _ (T26.setTop (mkF m 47 #[.val (.ref ob), .val (.long xp), .second, .val (.int z), .val u, .val (.int xg), .val (.int (15 : Int32)), .val (.int ((xq + (1 : Int32)) &&& (15 : Int32))), .val (.int xh)] []))
          exact IH (td - 1) (by omega) _ _ _ X26 hh26 N26 (k + 1) g ff _ _ _ (Or.inr ⟨_, rfl⟩) (by omega) (by omega) hg hk1 hfree hole fE fP fV fS aP aV zz kk
        · refine own_Go.st (fun _ kt => XS.icmpNo X26.here hx rfl (hb hby own_d_prog_77_6_90) rfl (flt hc2).1 kt) ?_
          show own_Go p e below _ (T26.setTop (mkF m 93 #[.val (.ref ob), .val (.long xp), .second, .val (.int z), .val u, .val (.int xg), .val (.int (15 : Int32)), .val (.int xq), .val (.int xh)] []))
          have hk1 := own_next hq (Nat.mod_lt _ (by decide))
          rw [show ((i0 + k) % 16 + 1) % 16 = (i0 + (k + 1)) % 16 by omega] at hk1
          refine own_Go.st (fun _ kt => XS.aloadN X26.here hx rfl (hb hby own_d_prog_77_6_93) rfl rfl kt) ?_
          show own_Go p e below _ (T26.setTop (mkF m 94 #[.val (.ref ob), .val (.long xp), .second, .val (.int z), .val u, .val (.int xg), .val (.int (15 : Int32)), .val (.int xq), .val (.int xh)] [(.ref ob)]))
          obtain ⟨T27, X27, e27, st27⟩ := getF X26 hx hZ hown (host := "") (Or.inl (hw _ (List.mem_of_getElem? (i := 16) rfl))) Via.refl hh26 fP (g := (mkF m 94 #[.val (.ref ob), .val (.long xp), .second, .val (.int z), .val u, .val (.int xg), .val (.int (15 : Int32)), .val (.int xq), .val (.int xh)] [(.ref ob)])) rfl rfl (hb hby own_d_prog_77_6_94)
          refine own_Go.st st27 ?_
          show own_Go p e below _ (T27.setTop (mkF m 97 #[.val (.ref ob), .val (.long xp), .second, .val (.int z), .val u, .val (.int xg), .val (.int (15 : Int32)), .val (.int xq), .val (.int xh)] [(.ref rp)]))
          refine own_Go.st (fun _ kt => XS.iload X27.here hx rfl (hb hby own_d_prog_77_6_97) rfl kt) ?_
          show own_Go p e below _ (T27.setTop (mkF m 99 #[.val (.ref ob), .val (.long xp), .second, .val (.int z), .val u, .val (.int xg), .val (.int (15 : Int32)), .val (.int xq), .val (.int xh)] [(.int xg), (.ref rp)]))
          refine own_Go.st (fun _ kt => XS.aloadN X27.here hx rfl (hb hby own_d_prog_77_6_99) rfl rfl kt) ?_
          show own_Go p e below _ (T27.setTop (mkF m 100 #[.val (.ref ob), .val (.long xp), .second, .val (.int z), .val u, .val (.int xg), .val (.int (15 : Int32)), .val (.int xq), .val (.int xh)] [(.ref ob), (.int xg), (.ref rp)]))
          obtain ⟨T28, X28, e28, st28⟩ := getF X27 hx hZ hown (host := "") (Or.inl (hw _ (List.mem_of_getElem? (i := 16) rfl))) Via.refl e27 fP (g := (mkF m 100 #[.val (.ref ob), .val (.long xp), .second, .val (.int z), .val u, .val (.int xg), .val (.int (15 : Int32)), .val (.int xq), .val (.int xh)] [(.ref ob), (.int xg), (.ref rp)])) rfl rfl (hb hby own_d_prog_77_6_100)
          refine own_Go.st st28 ?_
          show own_Go p e below _ (T28.setTop (mkF m 103 #[.val (.ref ob), .val (.long xp), .second, .val (.int z), .val u, .val (.int xg), .val (.int (15 : Int32)), .val (.int xq), .val (.int xh)] [(.ref rp), (.int xg), (.ref rp)]))
          refine own_Go.st (fun _ kt => XS.iload X28.here hx rfl (hb hby own_d_prog_77_6_103) rfl kt) ?_
          show own_Go p e below _ (T28.setTop (mkF m 105 #[.val (.ref ob), .val (.long xp), .second, .val (.int z), .val u, .val (.int xg), .val (.int (15 : Int32)), .val (.int xq), .val (.int xh)] [(.int xq), (.ref rp), (.int xg), (.ref rp)]))
          refine own_Go.st (fun _ kt => own_lld X28 hx hZ e28 aP hq (Nat.mod_lt _ (by decide)) (v := (.long (ff ((i0 + k) % 16)))) rfl (g := (mkF m 105 #[.val (.ref ob), .val (.long xp), .second, .val (.int z), .val u, .val (.int xg), .val (.int (15 : Int32)), .val (.int xq), .val (.int xh)] [(.int xq), (.ref rp), (.int xg), (.ref rp)])) rfl rfl (hb hby own_d_prog_77_6_105) _ kt) ?_
          show own_Go p e below _ (T28.setTop (mkF m 106 #[.val (.ref ob), .val (.long xp), .second, .val (.int z), .val u, .val (.int xg), .val (.int (15 : Int32)), .val (.int xq), .val (.int xh)] [(.long (ff ((i0 + k) % 16))), (.int xg), (.ref rp)]))
          obtain ⟨T29, h29, X29, e29, W29, st29⟩ := own_lst X28 hx hZ e28 aP hg (Nat.mod_lt _ (by decide)) (g := (mkF m 106 #[.val (.ref ob), .val (.long xp), .second, .val (.int z), .val u, .val (.int xg), .val (.int (15 : Int32)), .val (.int xq), .val (.int xh)] [(.long (ff ((i0 + k) % 16))), (.int xg), (.ref rp)])) rfl rfl (hb hby own_d_prog_77_6_106)
          refine own_Go.st st29 ?_
          have N29 := Fr.snoc X29 N26 gp
          have a29 := own_Ar.set aP W29
          have zz30 : n0 ≤ Array.size h29 := Nat.le_trans zz (Nat.le_of_eq (Wr.size W29).symm)
          have kk30 : Keep h0 h29 [ob, rp, rv] := kk.wr W29 (Or.inl (List.mem_of_getElem? (i := 1) rfl))
          show own_Go p e below _ (T29.setTop (mkF m 107 #[.val (.ref ob), .val (.long xp), .second, .val (.int z), .val u, .val (.int xg), .val (.int (15 : Int32)), .val (.int xq), .val (.int xh)] []))
          have ap1 : own_Ar Z h29 rp .long 16 (fun j => .long (own_set ff ((i0 + g) % 16) (ff ((i0 + k) % 16)) j)) := a29.congr fun j _ => own_setfn ff _ _ j
          refine own_Go.st (fun _ kt => XS.aloadN X29.here hx rfl (hb hby own_d_prog_77_6_107) rfl rfl kt) ?_
          show own_Go p e below _ (T29.setTop (mkF m 108 #[.val (.ref ob), .val (.long xp), .second, .val (.int z), .val u, .val (.int xg), .val (.int (15 : Int32)), .val (.int xq), .val (.int xh)] [(.ref ob)]))
          have f31 := (fV.other W29 (Or.inl ne1))
          obtain ⟨T32, X32, e32, st32⟩ := getF X29 hx hZ hown (host := "") (Or.inl (hw _ (List.mem_of_getElem? (i := 25) rfl))) Via.refl e29 f31 (g := (mkF m 108 #[.val (.ref ob), .val (.long xp), .second, .val (.int z), .val u, .val (.int xg), .val (.int (15 : Int32)), .val (.int xq), .val (.int xh)] [(.ref ob)])) rfl rfl (hb hby own_d_prog_77_6_108)
          refine own_Go.st st32 ?_
          show own_Go p e below _ (T32.setTop (mkF m 111 #[.val (.ref ob), .val (.long xp), .second, .val (.int z), .val u, .val (.int xg), .val (.int (15 : Int32)), .val (.int xq), .val (.int xh)] [(.ref rv)]))
          refine own_Go.st (fun _ kt => XS.iload X32.here hx rfl (hb hby own_d_prog_77_6_111) rfl kt) ?_
          show own_Go p e below _ (T32.setTop (mkF m 113 #[.val (.ref ob), .val (.long xp), .second, .val (.int z), .val u, .val (.int xg), .val (.int (15 : Int32)), .val (.int xq), .val (.int xh)] [(.int xg), (.ref rv)]))
          refine own_Go.st (fun _ kt => XS.aloadN X32.here hx rfl (hb hby own_d_prog_77_6_113) rfl rfl kt) ?_
          show own_Go p e below _ (T32.setTop (mkF m 114 #[.val (.ref ob), .val (.long xp), .second, .val (.int z), .val u, .val (.int xg), .val (.int (15 : Int32)), .val (.int xq), .val (.int xh)] [(.ref ob), (.int xg), (.ref rv)]))
          obtain ⟨T33, X33, e33, st33⟩ := getF X32 hx hZ hown (host := "") (Or.inl (hw _ (List.mem_of_getElem? (i := 25) rfl))) Via.refl e32 f31 (g := (mkF m 114 #[.val (.ref ob), .val (.long xp), .second, .val (.int z), .val u, .val (.int xg), .val (.int (15 : Int32)), .val (.int xq), .val (.int xh)] [(.ref ob), (.int xg), (.ref rv)])) rfl rfl (hb hby own_d_prog_77_6_114)
          refine own_Go.st st33 ?_
          show own_Go p e below _ (T33.setTop (mkF m 117 #[.val (.ref ob), .val (.long xp), .second, .val (.int z), .val u, .val (.int xg), .val (.int (15 : Int32)), .val (.int xq), .val (.int xh)] [(.ref rv), (.int xg), (.ref rv)]))
          refine own_Go.st (fun _ kt => XS.iload X33.here hx rfl (hb hby own_d_prog_77_6_117) rfl kt) ?_
          show own_Go p e below _ (T33.setTop (mkF m 119 #[.val (.ref ob), .val (.long xp), .second, .val (.int z), .val u, .val (.int xg), .val (.int (15 : Int32)), .val (.int xq), .val (.int xh)] [(.int xq), (.ref rv), (.int xg), (.ref rv)]))
          have f34 := (aV.other W29 (Ne.symm ne3))
          obtain ⟨u2, ok_u2, st35⟩ := own_rld X33 hx hZ e33 f34 hq (Nat.mod_lt _ (by decide)) (g := (mkF m 119 #[.val (.ref ob), .val (.long xp), .second, .val (.int z), .val u, .val (.int xg), .val (.int (15 : Int32)), .val (.int xq), .val (.int xh)] [(.int xq), (.ref rv), (.int xg), (.ref rv)])) rfl rfl (hb hby own_d_prog_77_6_119)
          refine own_Go.st st35 ?_
          show own_Go p e below _ (T33.setTop (mkF m 120 #[.val (.ref ob), .val (.long xp), .second, .val (.int z), .val u, .val (.int xg), .val (.int (15 : Int32)), .val (.int xq), .val (.int xh)] [u2, (.int xg), (.ref rv)]))
          obtain ⟨T36, h36, X36, e36, W36, st36⟩ := own_rst X33 hx hZ e33 f34 (hw _ (List.mem_of_getElem? (i := 58) rfl)) hg (Nat.mod_lt _ (by decide)) ok_u2 (g := (mkF m 120 #[.val (.ref ob), .val (.long xp), .second, .val (.int z), .val u, .val (.int xg), .val (.int (15 : Int32)), .val (.int xq), .val (.int xh)] [u2, (.int xg), (.ref rv)])) rfl rfl (hb hby own_d_prog_77_6_120)
          refine own_Go.st st36 ?_
          have N36 := Fr.snoc X36 N29 gv
          have a36 := own_Ro.set f34 W36 ok_u2
          have zz37 : n0 ≤ Array.size h36 := Nat.le_trans zz30 (Nat.le_of_eq (Wr.size W36).symm)
          have kk37 : Keep h0 h36 [ob, rp, rv] := kk30.wr W36 (Or.inl (List.mem_of_getElem? (i := 2) rfl))
          show own_Go p e below _ (T36.setTop (mkF m 121 #[.val (.ref ob), .val (.long xp), .second, .val (.int z), .val u, .val (.int xg), .val (.int (15 : Int32)), .val (.int xq), .val (.int xh)] []))
          refine own_Go.st (fun _ kt => XS.iload X36.here hx rfl (hb hby own_d_prog_77_6_121) rfl kt) ?_
          show own_Go p e below _ (T36.setTop (mkF m 123 #[.val (.ref ob), .val (.long xp), .second, .val (.int z), .val u, .val (.int xg), .val (.int (15 : Int32)), .val (.int xq), .val (.int xh)] [(.int xq)]))
          refine own_Go.st (fun _ kt => XS.istore X36.here hx rfl (hb hby own_d_prog_77_6_123) rfl (l' := #[.val (.ref ob), .val (.long xp), .second, .val (.int z), .val u, .val (.int xq), .val (.int (15 : Int32)), .val (.int xq), .val (.int xh)]) rfl kt) ?_
          show own_Go p e below _ (T36.setTop (mkF m 125 #[.val (.ref ob), .val (.long xp), .second, .val (.int z), .val u, .val (.int xq), .val (.int (15 : Int32)), .val (.int xq), .val (.int xh)] []))
          refine own_Go.st (fun _ kt => XS.iload X36.here hx rfl (hb hby own_d_prog_77_6_125) rfl kt) ?_
          show own_Go p e below _ (T36.setTop (mkF m 127 #[.val (.ref ob), .val (.long xp), .second, .val (.int z), .val u, .val (.int xq), .val (.int (15 : Int32)), .val (.int xq), .val (.int xh)] [(.int xq)]))
          refine own_Go.st (fun _ kt => XS.iconst X36.here hx rfl (hb hby own_d_prog_77_6_127) kt) ?_
          show own_Go p e below _ (T36.setTop (mkF m 128 #[.val (.ref ob), .val (.long xp), .second, .val (.int z), .val u, .val (.int xq), .val (.int (15 : Int32)), .val (.int xq), .val (.int xh)] [(.int (1 : Int32)), (.int xq)]))
          refine own_Go.st (fun _ kt => XS.iadd X36.here hx rfl (hb hby own_d_prog_77_6_128) rfl kt) ?_
          show own_Go p e below _ (T36.setTop (mkF m 129 #[.val (.ref ob), .val (.long xp), .second, .val (.int z), .val u, .val (.int xq), .val (.int (15 : Int32)), .val (.int xq), .val (.int xh)] [(.int (xq + (1 : Int32)))]))
          refine own_Go.st (fun _ kt => XS.iload X36.here hx rfl (hb hby own_d_prog_77_6_129) rfl kt) ?_
          show own_Go p e below _ (T36.setTop (mkF m 131 #[.val (.ref ob), .val (.long xp), .second, .val (.int z), .val u, .val (.int xq), .val (.int (15 : Int32)), .val (.int xq), .val (.int xh)] [(.int (15 : Int32)), (.int (xq + (1 : Int32)))]))
          refine own_Go.st (fun _ kt => XS.iand X36.here hx rfl (hb hby own_d_prog_77_6_131) rfl kt) ?_
          show own_Go p e below _ (T36.setTop (mkF m 132 #[.val (.ref ob), .val (.long xp), .second, .val (.int z), .val u, .val (.int xq), .val (.int (15 : Int32)), .val (.int xq), .val (.int xh)] [(.int ((xq + (1 : Int32)) &&& (15 : Int32)))]))
          refine own_Go.st (fun _ kt => XS.istore X36.here hx rfl (hb hby own_d_prog_77_6_132) rfl (l' := #[.val (.ref ob), .val (.long xp), .second, .val (.int z), .val u, .val (.int xq), .val (.int (15 : Int32)), .val (.int ((xq + (1 : Int32)) &&& (15 : Int32))), .val (.int xh)]) rfl kt) ?_
          show own_Go p e below _ (T36.setTop (mkF m 134 #[.val (.ref ob), .val (.long xp), .second, .val (.int z), .val u, .val (.int xq), .val (.int (15 : Int32)), .val (.int ((xq + (1 : Int32)) &&& (15 : Int32))), .val (.int xh)] []))
          refine own_Go.st (fun _ kt => XS.goto X36.here hx rfl (pc0 := 134) (pc' := 47) rfl (hb hby own_d_prog_77_6_134) (by decide) (by decide) kt) ?_
          show own_Go p e below _ (T36.setTop (mkF m 47 #[.val (.ref ob), .val (.long xp), .second, .val (.int z), .val u, .val (.int xq), .val (.int (15 : Int32)), .val (.int ((xq + (1 : Int32)) &&& (15 : Int32))), .val (.int xh)] []))
          have f38 := ((fE.wr W29).wr W36)
          have f39 := ((fP.other W29 (Or.inl ne1)).other W36 (Or.inl ne2))
          have f40 := (f31.other W36 (Or.inl ne2))
          have f41 := ((fS.other W29 (Or.inl ne1)).other W36 (Or.inl ne2))
          have f42 := (ap1.other W36 ne3)
          exact IH (td - 1) (by omega) _ _ _ X36 e36 N36 (k + 1) k _ _ _ _ (Or.inr ⟨_, rfl⟩) (by omega) (by omega) hq hk1 (by show (if _ = _ then _ else _) = _; rw [if_neg (by omega)]; exact hfree) (hole.move (Nat.mod_lt _ (by decide)) (Nat.mod_lt _ (by decide)) (by omega) hc) f38 f39 f40 f41 f42 a36 zz37 kk37
  exact LO (mm - 1) _ _ _ X4 e4 N3 1 0 f _ _ _ (Or.inl rfl) (by omega) (by omega) (by rw [Nat.add_zero, Nat.mod_eq_of_lt hlt]; exact hz1) (own_next hz1 hlt) hm2 (by rw [Nat.add_zero, Nat.mod_eq_of_lt hlt]; exact own_Hole.start hlt hp hf) fE fP fV fS aP aV Z0 kk0
theorem own_ef11 (m : MethodId) (x0 : Addr) : entryFrame m #[(.ref x0)] 8 = mkF m 0 #[.val (.ref x0), .unset, .unset, .unset, .unset, .unset, .unset, .unset] [] := by first | (simp [entryFrame, mkF, argsToLocals, Value.category]; done) | rfl
theorem own_d_prog_77_7_0 : decode prog_77_method_7_code 0 = .ok (.aload_n 0, 1) := by decide +kernel
theorem own_d_prog_77_7_1 : decode prog_77_method_7_code 1 = .ok (.getfield 12, 3) := by decide +kernel
theorem own_d_prog_77_7_4 : decode prog_77_method_7_code 4 = .ok (.newarray .long, 2) := by decide +kernel
theorem own_d_prog_77_7_6 : decode prog_77_method_7_code 6 = .ok (.astore_n 1, 1) := by decide +kernel
theorem own_d_prog_77_7_7 : decode prog_77_method_7_code 7 = .ok (.iconst 0, 1) := by decide +kernel
theorem own_d_prog_77_7_8 : decode prog_77_method_7_code 8 = .ok (.istore_n 2, 1) := by decide +kernel
theorem own_d_prog_77_7_9 : decode prog_77_method_7_code 9 = .ok (.aload_n 0, 1) := by decide +kernel
theorem own_d_prog_77_7_10 : decode prog_77_method_7_code 10 = .ok (.getfield 20, 3) := by decide +kernel
theorem own_d_prog_77_7_13 : decode prog_77_method_7_code 13 = .ok (.astore_n 3, 1) := by decide +kernel
theorem own_d_prog_77_7_14 : decode prog_77_method_7_code 14 = .ok (.aload_n 3, 1) := by decide +kernel
theorem own_d_prog_77_7_15 : decode prog_77_method_7_code 15 = .ok (.arraylength, 1) := by decide +kernel
theorem own_d_prog_77_7_16 : decode prog_77_method_7_code 16 = .ok (.istore 4, 2) := by decide +kernel
theorem own_d_prog_77_7_18 : decode prog_77_method_7_code 18 = .ok (.iconst 0, 1) := by decide +kernel
theorem own_d_prog_77_7_19 : decode prog_77_method_7_code 19 = .ok (.istore 5, 2) := by decide +kernel
theorem own_d_prog_77_7_21 : decode prog_77_method_7_code 21 = .ok (.iload 5, 2) := by decide +kernel
theorem own_d_prog_77_7_23 : decode prog_77_method_7_code 23 = .ok (.iload 4, 2) := by decide +kernel
theorem own_d_prog_77_7_25 : decode prog_77_method_7_code 25 = .ok (.if_icmp .ge 32, 3) := by decide +kernel
theorem own_d_prog_77_7_28 : decode prog_77_method_7_code 28 = .ok (.aload_n 3, 1) := by decide +kernel
theorem own_d_prog_77_7_29 : decode prog_77_method_7_code 29 = .ok (.iload 5, 2) := by decide +kernel
theorem own_d_prog_77_7_31 : decode prog_77_method_7_code 31 = .ok (.laload, 1) := by decide +kernel
theorem own_d_prog_77_7_32 : decode prog_77_method_7_code 32 = .ok (.lstore 6, 2) := by decide +kernel
theorem own_d_prog_77_7_34 : decode prog_77_method_7_code 34 = .ok (.lload 6, 2) := by decide +kernel
theorem own_d_prog_77_7_36 : decode prog_77_method_7_code 36 = .ok (.ldc2_w 35, 3) := by decide +kernel
theorem own_d_prog_77_7_39 : decode prog_77_method_7_code 39 = .ok (.lcmp, 1) := by decide +kernel
theorem own_d_prog_77_7_40 : decode prog_77_method_7_code 40 = .ok (.ifCond .eq 11, 3) := by decide +kernel
theorem own_d_prog_77_7_51 : decode prog_77_method_7_code 51 = .ok (.iinc 5 1, 3) := by decide +kernel
theorem own_d_prog_77_7_54 : decode prog_77_method_7_code 54 = .ok (.goto (-33), 3) := by decide +kernel
theorem own_d_prog_77_7_43 : decode prog_77_method_7_code 43 = .ok (.aload_n 1, 1) := by decide +kernel
theorem own_d_prog_77_7_44 : decode prog_77_method_7_code 44 = .ok (.iload_n 2, 1) := by decide +kernel
theorem own_d_prog_77_7_45 : decode prog_77_method_7_code 45 = .ok (.iinc 2 1, 3) := by decide +kernel
theorem own_d_prog_77_7_48 : decode prog_77_method_7_code 48 = .ok (.lload 6, 2) := by decide +kernel
theorem own_d_prog_77_7_50 : decode prog_77_method_7_code 50 = .ok (.lastore, 1) := by decide +kernel
theorem own_d_prog_77_7_57 : decode prog_77_method_7_code 57 = .ok (.aload_n 1, 1) := by decide +kernel
theorem own_d_prog_77_7_58 : decode prog_77_method_7_code 58 = .ok (.areturn, 1) := by decide +kernel
def own_Q_own_pages (Z : State) (ob rp rv : Addr) (f : Nat → Int64) (xn : Int32) (k : Nat) (h0 : Heap) (n0 : Nat) (v : Option Value) (h : Heap) (L : List Loc) : Prop := ∃ ra, v = some (.ref ra) ∧ Fr n0 L ∧ own_Ar Z h ra .long k (fun j => .long ((own_pgs f 16).getD j 0)) ∧ Keep h0 h []
set_option maxRecDepth 65536 in
set_option maxHeartbeats 40000000 in
theorem own_pages (l : Launch) (Z : State) (a0 : Array Value) (hw : ∀ d ∈ tables_1, d.before a0 Z = true) (ws : List Jvm.Cond) (ob rp rv : Addr) (f : Nat → Int64) (xn : Int32) (k : Nat) (h0 : Heap) (n0 : Nat) (Z0 : n0 ≤ h0.size) (hpm : own_PM Z h0 n0 ob rp rv f xn) (hk : (own_pgs f 16).length = k) (hn : xn.toInt = (k : Int)) (hl : k ≤ 3) :
    MetFree l (⟨"com/example/thicket/thicket/PageMap", "pages", "()[J"⟩ : MethodName) (head1 (Jvm.Cond.code (⟨"com/example/thicket/thicket/PageMap", "pages", "()[J"⟩ : MethodName) prog_77_method_7_code 8 (some (.array .long)) :: ws) ({ frames := 0, cells := 1, slots := 3, locals := 0 } : Room)) (fun av_ U => av_ = #[(.ref ob)] ∧ Z.Warmed39 U.vm ∧ U.heap = h0) (fun _ _ _ _ _ => True) (fun _ U o U' => ∃ v L, o = .returned v ∧ own_Q_own_pages Z ob rp rv f xn k h0 n0 v U'.heap L ∧ FrameEnd U o U' L ({ frames := 0, cells := 1, slots := 3, locals := 0 } : Room).cells ({ frames := 0, cells := 1, slots := 3, locals := 0 } : Room).slots) := by
  refine MetFree.of_bodySF (plainFor_of_name own_pn2) hisR ?_
  intro p e s m args below meth c s₁ Bd hml0 hP hK
  obtain ⟨rfl, hZ, hh⟩ := hP
  have hx := Bd.exec
  have hby := Bd.bytes
  have hml : c.maxLocals = 8 := hml0
  have hown : s.vm.findClass "com/example/thicket/thicket/PageMap" = some m.cls := findClass_of_methodNamed Bd.named
  have hnm := (name_of_methodNamed Bd.named Bd.method).1
  have X0 : Stand p l e ({ frames := 0, cells := 1, slots := 3, locals := 0 } : Room) s m #[(.ref ob)] below meth c s₁ [] 0 0 := Stand.of_body Bd
  have e0 : s₁.heap = h0 := by rw [← hh, Bd.state]; rfl
  have N0 := Fr.nil n0
  suffices hgo : own_Go p e below (fun o U' => ∃ v L, o = .returned v ∧ own_Q_own_pages Z ob rp rv f xn k h0 n0 v U'.heap L ∧ FrameEnd s o U' L ({ frames := 0, cells := 1, slots := 3, locals := 0 } : Room).cells ({ frames := 0, cells := 1, slots := 3, locals := 0 } : Room).slots) (s₁.setTop (mkF m 0 #[.val (.ref ob), .unset, .unset, .unset, .unset, .unset, .unset, .unset] [])) by
    obtain ⟨s₂, o, h1, h2, h3, h4⟩ := hgo
    exact ⟨s₂, o, castTop (own_ef11 m ob) h1, h2, h3, h4⟩
  have kk0 : Keep h0 h0 [] := Keep.refl _ _
  show own_Go p e below _ (s₁.setTop (mkF m 0 #[.val (.ref ob), .unset, .unset, .unset, .unset, .unset, .unset, .unset] []))
  obtain ⟨fE, fP, fV, fS, aP, aV, ne1, ne2, ne3, go, gp, gv⟩ := hpm
  refine own_Go.st (fun _ kt => XS.aloadN X0.here hx rfl (hb hby own_d_prog_77_7_0) rfl rfl kt) ?_
  show own_Go p e below _ (s₁.setTop (mkF m 1 #[.val (.ref ob), .unset, .unset, .unset, .unset, .unset, .unset, .unset] [(.ref ob)]))
  obtain ⟨T1, X1, e1, st1⟩ := getF X0 hx hZ hown (host := "") (Or.inl (hw _ (List.mem_of_getElem? (i := 27) rfl))) Via.refl e0 fS (g := (mkF m 1 #[.val (.ref ob), .unset, .unset, .unset, .unset, .unset, .unset, .unset] [(.ref ob)])) rfl rfl (hb hby own_d_prog_77_7_1)
  refine own_Go.st st1 ?_
  show own_Go p e below _ (T1.setTop (mkF m 4 #[.val (.ref ob), .unset, .unset, .unset, .unset, .unset, .unset, .unset] [(.int xn)]))
  obtain ⟨T2, h2, k2, X2, e2, E2, A2, st2⟩ := newP X1 hx hZ (hw _ (List.mem_of_getElem? (i := 15) rfl)) e1 (g := (mkF m 4 #[.val (.ref ob), .unset, .unset, .unset, .unset, .unset, .unset, .unset] [(.int xn)])) rfl (hb hby own_d_prog_77_7_4) rfl (by rw [Int32.lt_iff_toInt_lt, hn, show (0 : Int32).toInt = 0 by decide]; omega) (cap := 3) (by rw [own_clamp hn]; exact hl) (by decide) (by decide) (by decide)
  obtain ⟨ra, g2⟩ : ∃ z, z = Array.size h0 := ⟨_, rfl⟩
  rw [← g2] at A2 st2
  refine own_Go.st st2 ?_
  have ne_ob_ra : ob ≠ ra := Nat.ne_of_lt (Nat.lt_of_lt_of_le (fE).lt (Nat.le_of_eq g2.symm))
  have ne_rp_ra : rp ≠ ra := Nat.ne_of_lt (Nat.lt_of_lt_of_le (aP).lt (Nat.le_of_eq g2.symm))
  have ne_rv_ra : rv ≠ ra := Nat.ne_of_lt (Nat.lt_of_lt_of_le (aV).lt (Nat.le_of_eq g2.symm))
  have n0_ra : n0 ≤ ra := Nat.le_trans Z0 (Nat.le_of_eq g2.symm)
  have b_ra : Array.size h0 ≤ ra := Nat.le_trans kk0.1 (Nat.le_of_eq g2.symm)
  have zz3 : n0 ≤ Array.size h2 := Nat.le_trans Z0 E2.1
  have kk3 : Keep h0 h2 [] := kk0.ext E2
  show own_Go p e below _ (T2.setTop (mkF m 6 #[.val (.ref ob), .unset, .unset, .unset, .unset, .unset, .unset, .unset] [(.ref ra)]))
  have aa0 : own_Ar Z h2 ra .long k (fun j => .long ((own_pgs f 0).getD j 0)) := (own_Ar.new A2 hn).congr fun j _ => rfl
  refine own_Go.st (fun _ kt => XS.astoreN X2.here hx rfl (hb hby own_d_prog_77_7_6) rfl rfl (l' := #[.val (.ref ob), .val (.ref ra), .unset, .unset, .unset, .unset, .unset, .unset]) rfl kt) ?_
  show own_Go p e below _ (T2.setTop (mkF m 7 #[.val (.ref ob), .val (.ref ra), .unset, .unset, .unset, .unset, .unset, .unset] []))
  refine own_Go.st (fun _ kt => XS.iconst X2.here hx rfl (hb hby own_d_prog_77_7_7) kt) ?_
  show own_Go p e below _ (T2.setTop (mkF m 8 #[.val (.ref ob), .val (.ref ra), .unset, .unset, .unset, .unset, .unset, .unset] [(.int (0 : Int32))]))
  refine own_Go.st (fun _ kt => XS.istoreN X2.here hx rfl (hb hby own_d_prog_77_7_8) rfl (l' := #[.val (.ref ob), .val (.ref ra), .val (.int (0 : Int32)), .unset, .unset, .unset, .unset, .unset]) rfl kt) ?_
  show own_Go p e below _ (T2.setTop (mkF m 9 #[.val (.ref ob), .val (.ref ra), .val (.int (0 : Int32)), .unset, .unset, .unset, .unset, .unset] []))
  refine own_Go.st (fun _ kt => XS.aloadN X2.here hx rfl (hb hby own_d_prog_77_7_9) rfl rfl kt) ?_
  show own_Go p e below _ (T2.setTop (mkF m 10 #[.val (.ref ob), .val (.ref ra), .val (.int (0 : Int32)), .unset, .unset, .unset, .unset, .unset] [(.ref ob)]))
  have f4 := (fP.ext E2)
  obtain ⟨T5, X5, e5, st5⟩ := getF X2 hx hZ hown (host := "") (Or.inl (hw _ (List.mem_of_getElem? (i := 16) rfl))) Via.refl e2 f4 (g := (mkF m 10 #[.val (.ref ob), .val (.ref ra), .val (.int (0 : Int32)), .unset, .unset, .unset, .unset, .unset] [(.ref ob)])) rfl rfl (hb hby own_d_prog_77_7_10)
  refine own_Go.st st5 ?_
  show own_Go p e below _ (T5.setTop (mkF m 13 #[.val (.ref ob), .val (.ref ra), .val (.int (0 : Int32)), .unset, .unset, .unset, .unset, .unset] [(.ref rp)]))
  refine own_Go.st (fun _ kt => XS.astoreN X5.here hx rfl (hb hby own_d_prog_77_7_13) rfl rfl (l' := #[.val (.ref ob), .val (.ref ra), .val (.int (0 : Int32)), .val (.ref rp), .unset, .unset, .unset, .unset]) rfl kt) ?_
  show own_Go p e below _ (T5.setTop (mkF m 14 #[.val (.ref ob), .val (.ref ra), .val (.int (0 : Int32)), .val (.ref rp), .unset, .unset, .unset, .unset] []))
  refine own_Go.st (fun _ kt => XS.aloadN X5.here hx rfl (hb hby own_d_prog_77_7_14) rfl rfl kt) ?_
  show own_Go p e below _ (T5.setTop (mkF m 15 #[.val (.ref ob), .val (.ref ra), .val (.int (0 : Int32)), .val (.ref rp), .unset, .unset, .unset, .unset] [(.ref rp)]))
  have f6 := (aP.ext E2)
  refine own_Go.st (fun _ kt => own_alen X5 hx hZ e5 f6 (z := (16 : Int32)) (by decide) (g := (mkF m 15 #[.val (.ref ob), .val (.ref ra), .val (.int (0 : Int32)), .val (.ref rp), .unset, .unset, .unset, .unset] [(.ref rp)])) rfl rfl (hb hby own_d_prog_77_7_15) _ kt) ?_
  show own_Go p e below _ (T5.setTop (mkF m 16 #[.val (.ref ob), .val (.ref ra), .val (.int (0 : Int32)), .val (.ref rp), .unset, .unset, .unset, .unset] [(.int (16 : Int32))]))
  refine own_Go.st (fun _ kt => XS.istore X5.here hx rfl (hb hby own_d_prog_77_7_16) rfl (l' := #[.val (.ref ob), .val (.ref ra), .val (.int (0 : Int32)), .val (.ref rp), .val (.int (16 : Int32)), .unset, .unset, .unset]) rfl kt) ?_
  show own_Go p e below _ (T5.setTop (mkF m 18 #[.val (.ref ob), .val (.ref ra), .val (.int (0 : Int32)), .val (.ref rp), .val (.int (16 : Int32)), .unset, .unset, .unset] []))
  refine own_Go.st (fun _ kt => XS.iconst X5.here hx rfl (hb hby own_d_prog_77_7_18) kt) ?_
  show own_Go p e below _ (T5.setTop (mkF m 19 #[.val (.ref ob), .val (.ref ra), .val (.int (0 : Int32)), .val (.ref rp), .val (.int (16 : Int32)), .unset, .unset, .unset] [(.int (0 : Int32))]))
  refine own_Go.st (fun _ kt => XS.istore X5.here hx rfl (hb hby own_d_prog_77_7_19) rfl (l' := #[.val (.ref ob), .val (.ref ra), .val (.int (0 : Int32)), .val (.ref rp), .val (.int (16 : Int32)), .val (.int (0 : Int32)), .unset, .unset]) rfl kt) ?_
  show own_Go p e below _ (T5.setTop (mkF m 21 #[.val (.ref ob), .val (.ref ra), .val (.int (0 : Int32)), .val (.ref rp), .val (.int (16 : Int32)), .val (.int (0 : Int32)), .unset, .unset] []))
  have LO : ∀ (td : Nat) (T7 : State) (lc7 : List Loc) (h7 : Heap) (X7 : Stand p l e ({ frames := 0, cells := 1, slots := 3, locals := 0 } : Room) s m #[(.ref ob)] below meth c T7 lc7 1 3) (e7 : T7.heap = h7) (N7 : Fr n0 lc7) (i : Nat) (xc : Int32) (xi : Int32) (s6 : Slot) (s7 : Slot) (hs6 : (s6 = .unset ∧ s7 = .unset) ∨ ∃ y6, s6 = .val (.long y6) ∧ s7 = .second) (ht : i + td = 16) (hi : xi.toInt = (i : Int)) (hc : xc.toInt = ((own_pgs f i).length : Int)) (aP : own_Ar Z h7 rp .long 16 (fun j => .long (f j))) (aA : own_Ar Z h7 ra .long k (fun j => .long ((own_pgs f i).getD j 0))) (zz : n0 ≤ Array.size h7) (kk : Keep h0 h7 []), own_Go p e below (fun o U' => ∃ v L, o = .returned v ∧ own_Q_own_pages Z ob rp rv f xn k h0 n0 v U'.heap L ∧ FrameEnd s o U' L ({ frames := 0, cells := 1, slots := 3, locals := 0 } : Room).cells ({ frames := 0, cells := 1, slots := 3, locals := 0 } : Room).slots) (T7.setTop (mkF m 21 #[.val (.ref ob), .val (.ref ra), .val (.int xc), .val (.ref rp), .val (.int (16 : Int32)), .val (.int xi), s6, s7] [])) := by
    intro td
    induction td using Nat.strongRecOn with
    | ind td IH =>
      intro T7 lc7 h7 X7 e7 N7 i xc xi s6 s7 hs6 ht hi hc aP aA zz kk
      show own_Go p e below _ (T7.setTop (mkF m 21 #[.val (.ref ob), .val (.ref ra), .val (.int xc), .val (.ref rp), .val (.int (16 : Int32)), .val (.int xi), s6, s7] []))
      refine own_Go.st (fun _ kt => XS.iload X7.here hx rfl (hb hby own_d_prog_77_7_21) rfl kt) ?_
      show own_Go p e below _ (T7.setTop (mkF m 23 #[.val (.ref ob), .val (.ref ra), .val (.int xc), .val (.ref rp), .val (.int (16 : Int32)), .val (.int xi), s6, s7] [(.int xi)]))
      refine own_Go.st (fun _ kt => XS.iload X7.here hx rfl (hb hby own_d_prog_77_7_23) rfl kt) ?_
      show own_Go p e below _ (T7.setTop (mkF m 25 #[.val (.ref ob), .val (.ref ra), .val (.int xc), .val (.ref rp), .val (.int (16 : Int32)), .val (.int xi), s6, s7] [(.int (16 : Int32)), (.int xi)]))
      have hci : xi < 16 ↔ i < 16 := by rw [Int32.lt_iff_toInt_lt, hi, show (16 : Int32).toInt = 16 by decide]; omega
      by_cases hc25 : xi < (16 : Int32)
      · refine own_Go.st (fun _ kt => XS.icmpNo X7.here hx rfl (hb hby own_d_prog_77_7_25) rfl (tlt hc25).2.1 kt) ?_
        show own_Go p e below _ (T7.setTop (mkF m 28 #[.val (.ref ob), .val (.ref ra), .val (.int xc), .val (.ref rp), .val (.int (16 : Int32)), .val (.int xi), s6, s7] []))
        have hlt := hci.mp hc25
        refine own_Go.st (fun _ kt => XS.aloadN X7.here hx rfl (hb hby own_d_prog_77_7_28) rfl rfl kt) ?_
        show own_Go p e below _ (T7.setTop (mkF m 29 #[.val (.ref ob), .val (.ref ra), .val (.int xc), .val (.ref rp), .val (.int (16 : Int32)), .val (.int xi), s6, s7] [(.ref rp)]))
        refine own_Go.st (fun _ kt => XS.iload X7.here hx rfl (hb hby own_d_prog_77_7_29) rfl kt) ?_
        show own_Go p e below _ (T7.setTop (mkF m 31 #[.val (.ref ob), .val (.ref ra), .val (.int xc), .val (.ref rp), .val (.int (16 : Int32)), .val (.int xi), s6, s7] [(.int xi), (.ref rp)]))
        refine own_Go.st (fun _ kt => own_lld X7 hx hZ e7 aP hi hlt (v := (.long (f i))) rfl (g := (mkF m 31 #[.val (.ref ob), .val (.ref ra), .val (.int xc), .val (.ref rp), .val (.int (16 : Int32)), .val (.int xi), s6, s7] [(.int xi), (.ref rp)])) rfl rfl (hb hby own_d_prog_77_7_31) _ kt) ?_
        show own_Go p e below _ (T7.setTop (mkF m 32 #[.val (.ref ob), .val (.ref ra), .val (.int xc), .val (.ref rp), .val (.int (16 : Int32)), .val (.int xi), s6, s7] [(.long (f i))]))
        refine own_Go.st (fun _ kt => XS.lstore X7.here hx rfl (hb hby own_d_prog_77_7_32) rfl (l' := #[.val (.ref ob), .val (.ref ra), .val (.int xc), .val (.ref rp), .val (.int (16 : Int32)), .val (.int xi), .val (.long (f i)), .second]) (by rcases hs6 with ⟨rfl, rfl⟩ | ⟨y6, rfl, rfl⟩ <;> rfl) kt) ?_
        show own_Go p e below _ (T7.setTop (mkF m 34 #[.val (.ref ob), .val (.ref ra), .val (.int xc), .val (.ref rp), .val (.int (16 : Int32)), .val (.int xi), .val (.long (f i)), .second] []))
        refine own_Go.st (fun _ kt => XS.lload X7.here hx rfl (hb hby own_d_prog_77_7_34) rfl kt) ?_
        show own_Go p e below _ (T7.setTop (mkF m 36 #[.val (.ref ob), .val (.ref ra), .val (.int xc), .val (.ref rp), .val (.int (16 : Int32)), .val (.int xi), .val (.long (f i)), .second] [(.long (f i))]))
        refine own_Go.st (fun _ kt => X7.ldc2J hx hown (mvT hZ (hw _ (List.mem_of_getElem? (i := 18) rfl))) rfl (hb hby own_d_prog_77_7_36) kt) ?_
        show own_Go p e below _ (T7.setTop (mkF m 39 #[.val (.ref ob), .val (.ref ra), .val (.int xc), .val (.ref rp), .val (.int (16 : Int32)), .val (.int xi), .val (.long (f i)), .second] [(.long (-1 : Int64)), (.long (f i))]))
        refine own_Go.st (fun _ kt => XS.lcmp X7.here hx rfl (hb hby own_d_prog_77_7_39) rfl kt) ?_
        show own_Go p e below _ (T7.setTop (mkF m 40 #[.val (.ref ob), .val (.ref ra), .val (.int xc), .val (.ref rp), .val (.int (16 : Int32)), .val (.int xi), .val (.long (f i)), .second] [(.int (lcmpW (f i) (-1 : Int64)))]))
        by_cases hcf : (f i) = (-1 : Int64)
        · refine own_Go.st (fun _ kt => XS.ifYes X7.here hx rfl (pc0 := 40) (pc' := 51) rfl (hb hby own_d_prog_77_7_40) rfl ((if0 _ _).trans (teq ((lw_eq _ _).mpr hcf)).1) (by decide) (by decide) kt) ?_
          show own_Go p e below _ (T7.setTop (mkF m 51 #[.val (.ref ob), .val (.ref ra), .val (.int xc), .val (.ref rp), .val (.int (16 : Int32)), .val (.int xi), .val (.long (f i)), .second] []))
          refine own_Go.st (fun _ kt => XS.iinc X7.here hx rfl (hb hby own_d_prog_77_7_51) rfl (l' := #[.val (.ref ob), .val (.ref ra), .val (.int xc), .val (.ref rp), .val (.int (16 : Int32)), .val (.int (xi + (1 : Int32))), .val (.long (f i)), .second]) rfl kt) ?_
          show own_Go p e below _ (T7.setTop (mkF m 54 #[.val (.ref ob), .val (.ref ra), .val (.int xc), .val (.ref rp), .val (.int (16 : Int32)), .val (.int (xi + (1 : Int32))), .val (.long (f i)), .second] []))
          refine own_Go.st (fun _ kt => XS.goto X7.here hx rfl (pc0 := 54) (pc' := 21) rfl (hb hby own_d_prog_77_7_54) (by decide) (by decide) kt) ?_
          show own_Go p e below _ (T7.setTop (mkF m 21 #[.val (.ref ob), .val (.ref ra), .val (.int xc), .val (.ref rp), .val (.int (16 : Int32)), .val (.int (xi + (1 : Int32))), .val (.long (f i)), .second] []))
          have hpg : own_pgs f (i + 1) = own_pgs f i := if_pos hcf
          exact IH (td - 1) (by omega) _ _ _ X7 e7 N7 (i + 1) _ _ _ _ (Or.inr ⟨_, rfl, rfl⟩) (by omega) (own_inc hi (by omega)) (hpg.symm ▸ hc) aP (hpg.symm ▸ aA) zz kk
        · refine own_Go.st (fun _ kt => XS.ifNo X7.here hx rfl (hb hby own_d_prog_77_7_40) rfl ((if0 _ _).trans (feq (mt (lw_eq _ _).mp hcf)).1) kt) ?_
          show own_Go p e below _ (T7.setTop (mkF m 43 #[.val (.ref ob), .val (.ref ra), .val (.int xc), .val (.ref rp), .val (.int (16 : Int32)), .val (.int xi), .val (.long (f i)), .second] []))
          have hcl : (own_pgs f i).length < k := by rw [← hk]; exact own_pgs_lt f hlt hcf
          have hpg : own_pgs f (i + 1) = own_pgs f i ++ [f i] := if_neg hcf
          refine own_Go.st (fun _ kt => XS.aloadN X7.here hx rfl (hb hby own_d_prog_77_7_43) rfl rfl kt) ?_
          show own_Go p e below _ (T7.setTop (mkF m 44 #[.val (.ref ob), .val (.ref ra), .val (.int xc), .val (.ref rp), .val (.int (16 : Int32)), .val (.int xi), .val (.long (f i)), .second] [(.ref ra)]))
          refine own_Go.st (fun _ kt => XS.iloadN X7.here hx rfl (hb hby own_d_prog_77_7_44) rfl kt) ?_
          show own_Go p e below _ (T7.setTop (mkF m 45 #[.val (.ref ob), .val (.ref ra), .val (.int xc), .val (.ref rp), .val (.int (16 : Int32)), .val (.int xi), .val (.long (f i)), .second] [(.int xc), (.ref ra)]))
          refine own_Go.st (fun _ kt => XS.iinc X7.here hx rfl (hb hby own_d_prog_77_7_45) rfl (l' := #[.val (.ref ob), .val (.ref ra), .val (.int (xc + (1 : Int32))), .val (.ref rp), .val (.int (16 : Int32)), .val (.int xi), .val (.long (f i)), .second]) rfl kt) ?_
          show own_Go p e below _ (T7.setTop (mkF m 48 #[.val (.ref ob), .val (.ref ra), .val (.int (xc + (1 : Int32))), .val (.ref rp), .val (.int (16 : Int32)), .val (.int xi), .val (.long (f i)), .second] [(.int xc), (.ref ra)]))
          refine own_Go.st (fun _ kt => XS.lload X7.here hx rfl (hb hby own_d_prog_77_7_48) rfl kt) ?_
          show own_Go p e below _ (T7.setTop (mkF m 50 #[.val (.ref ob), .val (.ref ra), .val (.int (xc + (1 : Int32))), .val (.ref rp), .val (.int (16 : Int32)), .val (.int xi), .val (.long (f i)), .second] [(.long (f i)), (.int xc), (.ref ra)]))
          obtain ⟨T8, h8, X8, e8, W8, st8⟩ := own_lst X7 hx hZ e7 aA hc hcl (g := (mkF m 50 #[.val (.ref ob), .val (.ref ra), .val (.int (xc + (1 : Int32))), .val (.ref rp), .val (.int (16 : Int32)), .val (.int xi), .val (.long (f i)), .second] [(.long (f i)), (.int xc), (.ref ra)])) rfl rfl (hb hby own_d_prog_77_7_50)
          refine own_Go.st st8 ?_
          have N8 := Fr.snoc X8 N7 n0_ra
          have a8 := own_Ar.set aA W8
          have zz9 : n0 ≤ Array.size h8 := Nat.le_trans zz (Nat.le_of_eq (Wr.size W8).symm)
          have kk9 : Keep h0 h8 [] := kk.wr W8 (Or.inr b_ra)
          show own_Go p e below _ (T8.setTop (mkF m 51 #[.val (.ref ob), .val (.ref ra), .val (.int (xc + (1 : Int32))), .val (.ref rp), .val (.int (16 : Int32)), .val (.int xi), .val (.long (f i)), .second] []))
          refine own_Go.st (fun _ kt => XS.iinc X8.here hx rfl (hb hby own_d_prog_77_7_51) rfl (l' := #[.val (.ref ob), .val (.ref ra), .val (.int (xc + (1 : Int32))), .val (.ref rp), .val (.int (16 : Int32)), .val (.int (xi + (1 : Int32))), .val (.long (f i)), .second]) rfl kt) ?_
          show own_Go p e below _ (T8.setTop (mkF m 54 #[.val (.ref ob), .val (.ref ra), .val (.int (xc + (1 : Int32))), .val (.ref rp), .val (.int (16 : Int32)), .val (.int (xi + (1 : Int32))), .val (.long (f i)), .second] []))
          refine own_Go.st (fun _ kt => XS.goto X8.here hx rfl (pc0 := 54) (pc' := 21) rfl (hb hby own_d_prog_77_7_54) (by decide) (by decide) kt) ?_
          show own_Go p e below _ (T8.setTop (mkF m 21 #[.val (.ref ob), .val (.ref ra), .val (.int (xc + (1 : Int32))), .val (.ref rp), .val (.int (16 : Int32)), .val (.int (xi + (1 : Int32))), .val (.long (f i)), .second] []))
          have ga : own_Ar Z h8 ra .long k (fun j => .long ((own_pgs f (i + 1)).getD j 0)) := a8.congr fun j _ => by rw [hpg, own_getD_app]; split <;> rfl
          have f10 := (aP.other W8 ne_rp_ra)
          exact IH (td - 1) (by omega) _ _ _ X8 e8 N8 (i + 1) _ _ _ _ (Or.inr ⟨_, rfl, rfl⟩) (by omega) (own_inc hi (by omega)) (by rw [hpg, List.length_append, List.length_singleton]; exact own_inc hc (by omega)) f10 ga zz9 kk9
      · refine own_Go.st (fun _ kt => XS.icmpYes X7.here hx rfl (pc0 := 25) (pc' := 57) rfl (hb hby own_d_prog_77_7_25) rfl (flt hc25).2.1 (by decide) (by decide) kt) ?_
        show own_Go p e below _ (T7.setTop (mkF m 57 #[.val (.ref ob), .val (.ref ra), .val (.int xc), .val (.ref rp), .val (.int (16 : Int32)), .val (.int xi), s6, s7] []))
        refine own_Go.st (fun _ kt => XS.aloadN X7.here hx rfl (hb hby own_d_prog_77_7_57) rfl rfl kt) ?_
        show own_Go p e below _ (T7.setTop (mkF m 58 #[.val (.ref ob), .val (.ref ra), .val (.int xc), .val (.ref rp), .val (.int (16 : Int32)), .val (.int xi), s6, s7] [(.ref ra)]))
        have hge : i = 16 := by have := mt hci.mpr hc25; omega
        subst hge
        have fin := aA
        rw [← e7] at fin kk
        exact own_retA X7 hx Bd.notSynchronized Bd.returns rfl rfl (hb hby own_d_prog_77_7_58) (by decide) (by decide) ⟨ra, rfl, N7, fin, kk⟩
  exact LO 16 _ _ _ X5 e5 N0 0 _ _ _ _ (Or.inl ⟨rfl, rfl⟩) (by omega) (by decide) rfl f6 aa0 zz3 kk3
theorem own_pn4 : plainName "com/example/thicket/thicket/PageMapPagesPinLaw" = true := by first | (simp [plainName, overriddenIn]; done) | decide +kernel
theorem own_ef12 (m : MethodId) (x0 : Addr) (x1 : Int64) : entryFrame m #[(.ref x0), (.long x1)] 3 = mkF m 0 #[.val (.ref x0), .val (.long x1), .second] [] := by first | (simp [entryFrame, mkF, argsToLocals, Value.category]; done) | rfl
theorem own_d_method_3_0 : decode method_3_code 0 = .ok (.aload_n 0, 1) := by decide +kernel
theorem own_d_method_3_1 : decode method_3_code 1 = .ok (.arraylength, 1) := by decide +kernel
theorem own_d_method_3_2 : decode method_3_code 2 = .ok (.ifCond .le 11, 3) := by decide +kernel
theorem own_d_method_3_13 : decode method_3_code 13 = .ok (.aload_n 0, 1) := by decide +kernel
theorem own_d_method_3_14 : decode method_3_code 14 = .ok (.arraylength, 1) := by decide +kernel
theorem own_d_method_3_15 : decode method_3_code 15 = .ok (.iconst 1, 1) := by decide +kernel
theorem own_d_method_3_16 : decode method_3_code 16 = .ok (.if_icmp .le 11, 3) := by decide +kernel
theorem own_d_method_3_27 : decode method_3_code 27 = .ok (.aload_n 0, 1) := by decide +kernel
theorem own_d_method_3_28 : decode method_3_code 28 = .ok (.arraylength, 1) := by decide +kernel
theorem own_d_method_3_29 : decode method_3_code 29 = .ok (.iconst 2, 1) := by decide +kernel
theorem own_d_method_3_30 : decode method_3_code 30 = .ok (.if_icmp .le 15, 3) := by decide +kernel
theorem own_d_method_3_45 : decode method_3_code 45 = .ok (.iconst 0, 1) := by decide +kernel
theorem own_d_method_3_46 : decode method_3_code 46 = .ok (.ireturn, 1) := by decide +kernel
theorem own_d_method_3_5 : decode method_3_code 5 = .ok (.aload_n 0, 1) := by decide +kernel
theorem own_d_method_3_6 : decode method_3_code 6 = .ok (.iconst 0, 1) := by decide +kernel
theorem own_d_method_3_7 : decode method_3_code 7 = .ok (.laload, 1) := by decide +kernel
theorem own_d_method_3_8 : decode method_3_code 8 = .ok (.lload_n 1, 1) := by decide +kernel
theorem own_d_method_3_9 : decode method_3_code 9 = .ok (.lcmp, 1) := by decide +kernel
theorem own_d_method_3_10 : decode method_3_code 10 = .ok (.ifCond .eq 31, 3) := by decide +kernel
theorem own_d_method_3_41 : decode method_3_code 41 = .ok (.iconst 1, 1) := by decide +kernel
theorem own_d_method_3_42 : decode method_3_code 42 = .ok (.goto 4, 3) := by decide +kernel
theorem own_d_method_3_19 : decode method_3_code 19 = .ok (.aload_n 0, 1) := by decide +kernel
theorem own_d_method_3_20 : decode method_3_code 20 = .ok (.iconst 1, 1) := by decide +kernel
theorem own_d_method_3_21 : decode method_3_code 21 = .ok (.laload, 1) := by decide +kernel
theorem own_d_method_3_22 : decode method_3_code 22 = .ok (.lload_n 1, 1) := by decide +kernel
theorem own_d_method_3_23 : decode method_3_code 23 = .ok (.lcmp, 1) := by decide +kernel
theorem own_d_method_3_24 : decode method_3_code 24 = .ok (.ifCond .eq 17, 3) := by decide +kernel
theorem own_d_method_3_33 : decode method_3_code 33 = .ok (.aload_n 0, 1) := by decide +kernel
theorem own_d_method_3_34 : decode method_3_code 34 = .ok (.iconst 2, 1) := by decide +kernel
theorem own_d_method_3_35 : decode method_3_code 35 = .ok (.laload, 1) := by decide +kernel
theorem own_d_method_3_36 : decode method_3_code 36 = .ok (.lload_n 1, 1) := by decide +kernel
theorem own_d_method_3_37 : decode method_3_code 37 = .ok (.lcmp, 1) := by decide +kernel
theorem own_d_method_3_38 : decode method_3_code 38 = .ok (.ifCond .ne 7, 3) := by decide +kernel
def own_Q_own_has (Z : State) (ra : Addr) (xp : Int64) (ls : List Int64) (h0 : Heap) (n0 : Nat) (v : Option Value) (h : Heap) (L : List Loc) : Prop := v = some (.int (if xp ∈ ls then 1 else 0)) ∧ Fr n0 L ∧ h = h0
set_option maxRecDepth 65536 in
set_option maxHeartbeats 40000000 in
theorem own_has (l : Launch) (Z : State) (a0 : Array Value) (hw : ∀ d ∈ tables_1, d.before a0 Z = true) (ws : List Jvm.Cond) (ra : Addr) (xp : Int64) (ls : List Int64) (h0 : Heap) (n0 : Nat) (Z0 : n0 ≤ h0.size) (aA : own_Ar Z h0 ra .long ls.length (fun j => .long (ls.getD j 0))) (hl : ls.length ≤ 3) :
    MetFree l (⟨"com/example/thicket/thicket/PageMapPagesPinLaw", "has", "([JJ)Z"⟩ : MethodName) (head1 (Jvm.Cond.code (⟨"com/example/thicket/thicket/PageMapPagesPinLaw", "has", "([JJ)Z"⟩ : MethodName) method_3_code 3 (some .boolean) :: ws) ({ frames := 0, cells := 0, slots := 0, locals := 0 } : Room)) (fun av_ U => av_ = #[(.ref ra), (.long xp)] ∧ Z.Warmed39 U.vm ∧ U.heap = h0) (fun _ _ _ _ _ => True) (fun _ U o U' => ∃ v L, o = .returned v ∧ own_Q_own_has Z ra xp ls h0 n0 v U'.heap L ∧ FrameEnd U o U' L ({ frames := 0, cells := 0, slots := 0, locals := 0 } : Room).cells ({ frames := 0, cells := 0, slots := 0, locals := 0 } : Room).slots) := by
  refine MetFree.of_bodySF (plainFor_of_name own_pn4) hisR ?_
  intro p e s m args below meth c s₁ Bd hml0 hP hK
  obtain ⟨rfl, hZ, hh⟩ := hP
  have hx := Bd.exec
  have hby := Bd.bytes
  have hml : c.maxLocals = 3 := hml0
  have hown : s.vm.findClass "com/example/thicket/thicket/PageMapPagesPinLaw" = some m.cls := findClass_of_methodNamed Bd.named
  have hnm := (name_of_methodNamed Bd.named Bd.method).1
  have X0 : Stand p l e ({ frames := 0, cells := 0, slots := 0, locals := 0 } : Room) s m #[(.ref ra), (.long xp)] below meth c s₁ [] 0 0 := Stand.of_body Bd
  have e0 : s₁.heap = h0 := by rw [← hh, Bd.state]; rfl
  have N0 := Fr.nil n0
  suffices hgo : own_Go p e below (fun o U' => ∃ v L, o = .returned v ∧ own_Q_own_has Z ra xp ls h0 n0 v U'.heap L ∧ FrameEnd s o U' L ({ frames := 0, cells := 0, slots := 0, locals := 0 } : Room).cells ({ frames := 0, cells := 0, slots := 0, locals := 0 } : Room).slots) (s₁.setTop (mkF m 0 #[.val (.ref ra), .val (.long xp), .second] [])) by
    obtain ⟨s₂, o, h1, h2, h3, h4⟩ := hgo
    exact ⟨s₂, o, castTop (own_ef12 m ra xp) h1, h2, h3, h4⟩
  show own_Go p e below _ (s₁.setTop (mkF m 0 #[.val (.ref ra), .val (.long xp), .second] []))
  rcases ls with _ | ⟨q0, _ | ⟨q1, _ | ⟨q2, _ | ⟨q3, ls⟩⟩⟩⟩
  · show own_Go p e below _ (s₁.setTop (mkF m 0 #[.val (.ref ra), .val (.long xp), .second] []))
    refine own_Go.st (fun _ kt => XS.aloadN X0.here hx rfl (hb hby own_d_method_3_0) rfl rfl kt) ?_
    show own_Go p e below _ (s₁.setTop (mkF m 1 #[.val (.ref ra), .val (.long xp), .second] [(.ref ra)]))
    refine own_Go.st (fun _ kt => own_alen X0 hx hZ e0 aA (z := (0 : Int32)) rfl (g := (mkF m 1 #[.val (.ref ra), .val (.long xp), .second] [(.ref ra)])) rfl rfl (hb hby own_d_method_3_1) _ kt) ?_
    show own_Go p e below _ (s₁.setTop (mkF m 2 #[.val (.ref ra), .val (.long xp), .second] [(.int (0 : Int32))]))
    refine own_Go.st (fun _ kt => XS.ifYes X0.here hx rfl (pc0 := 2) (pc' := 13) rfl (hb hby own_d_method_3_2) rfl ((if0 _ _).trans (flt (by decide)).2.2.2) (by decide) (by decide) kt) ?_
    show own_Go p e below _ (s₁.setTop (mkF m 13 #[.val (.ref ra), .val (.long xp), .second] []))
    refine own_Go.st (fun _ kt => XS.aloadN X0.here hx rfl (hb hby own_d_method_3_13) rfl rfl kt) ?_
    show own_Go p e below _ (s₁.setTop (mkF m 14 #[.val (.ref ra), .val (.long xp), .second] [(.ref ra)]))
    refine own_Go.st (fun _ kt => own_alen X0 hx hZ e0 aA (z := (0 : Int32)) rfl (g := (mkF m 14 #[.val (.ref ra), .val (.long xp), .second] [(.ref ra)])) rfl rfl (hb hby own_d_method_3_14) _ kt) ?_
    show own_Go p e below _ (s₁.setTop (mkF m 15 #[.val (.ref ra), .val (.long xp), .second] [(.int (0 : Int32))]))
    refine own_Go.st (fun _ kt => XS.iconst X0.here hx rfl (hb hby own_d_method_3_15) kt) ?_
    show own_Go p e below _ (s₁.setTop (mkF m 16 #[.val (.ref ra), .val (.long xp), .second] [(.int (1 : Int32)), (.int (0 : Int32))]))
    refine own_Go.st (fun _ kt => XS.icmpYes X0.here hx rfl (pc0 := 16) (pc' := 27) rfl (hb hby own_d_method_3_16) rfl (flt (by decide)).2.2.2 (by decide) (by decide) kt) ?_
    show own_Go p e below _ (s₁.setTop (mkF m 27 #[.val (.ref ra), .val (.long xp), .second] []))
    refine own_Go.st (fun _ kt => XS.aloadN X0.here hx rfl (hb hby own_d_method_3_27) rfl rfl kt) ?_
    show own_Go p e below _ (s₁.setTop (mkF m 28 #[.val (.ref ra), .val (.long xp), .second] [(.ref ra)]))
    refine own_Go.st (fun _ kt => own_alen X0 hx hZ e0 aA (z := (0 : Int32)) rfl (g := (mkF m 28 #[.val (.ref ra), .val (.long xp), .second] [(.ref ra)])) rfl rfl (hb hby own_d_method_3_28) _ kt) ?_
    show own_Go p e below _ (s₁.setTop (mkF m 29 #[.val (.ref ra), .val (.long xp), .second] [(.int (0 : Int32))]))
    refine own_Go.st (fun _ kt => XS.iconst X0.here hx rfl (hb hby own_d_method_3_29) kt) ?_
    show own_Go p e below _ (s₁.setTop (mkF m 30 #[.val (.ref ra), .val (.long xp), .second] [(.int (2 : Int32)), (.int (0 : Int32))]))
    refine own_Go.st (fun _ kt => XS.icmpYes X0.here hx rfl (pc0 := 30) (pc' := 45) rfl (hb hby own_d_method_3_30) rfl (flt (by decide)).2.2.2 (by decide) (by decide) kt) ?_
    show own_Go p e below _ (s₁.setTop (mkF m 45 #[.val (.ref ra), .val (.long xp), .second] []))
    refine own_Go.st (fun _ kt => XS.iconst X0.here hx rfl (hb hby own_d_method_3_45) kt) ?_
    show own_Go p e below _ (s₁.setTop (mkF m 46 #[.val (.ref ra), .val (.long xp), .second] [(.int (0 : Int32))]))
    exact own_retZ X0 hx Bd.notSynchronized Bd.returns (Or.inl rfl) (hb hby own_d_method_3_46) (by decide) (by decide) ⟨by simp [], N0, e0⟩
  · show own_Go p e below _ (s₁.setTop (mkF m 0 #[.val (.ref ra), .val (.long xp), .second] []))
    refine own_Go.st (fun _ kt => XS.aloadN X0.here hx rfl (hb hby own_d_method_3_0) rfl rfl kt) ?_
    show own_Go p e below _ (s₁.setTop (mkF m 1 #[.val (.ref ra), .val (.long xp), .second] [(.ref ra)]))
    refine own_Go.st (fun _ kt => own_alen X0 hx hZ e0 aA (z := (1 : Int32)) rfl (g := (mkF m 1 #[.val (.ref ra), .val (.long xp), .second] [(.ref ra)])) rfl rfl (hb hby own_d_method_3_1) _ kt) ?_
    show own_Go p e below _ (s₁.setTop (mkF m 2 #[.val (.ref ra), .val (.long xp), .second] [(.int (1 : Int32))]))
    refine own_Go.st (fun _ kt => XS.ifNo X0.here hx rfl (hb hby own_d_method_3_2) rfl ((if0 _ _).trans (tlt (by decide)).2.2.2) kt) ?_
    show own_Go p e below _ (s₁.setTop (mkF m 5 #[.val (.ref ra), .val (.long xp), .second] []))
    refine own_Go.st (fun _ kt => XS.aloadN X0.here hx rfl (hb hby own_d_method_3_5) rfl rfl kt) ?_
    show own_Go p e below _ (s₁.setTop (mkF m 6 #[.val (.ref ra), .val (.long xp), .second] [(.ref ra)]))
    refine own_Go.st (fun _ kt => XS.iconst X0.here hx rfl (hb hby own_d_method_3_6) kt) ?_
    show own_Go p e below _ (s₁.setTop (mkF m 7 #[.val (.ref ra), .val (.long xp), .second] [(.int (0 : Int32)), (.ref ra)]))
    refine own_Go.st (fun _ kt => own_lld X0 hx hZ e0 aA (i := 0) (by decide) (by simp only [List.length_cons, List.length_nil]; omega) (v := (.long q0)) rfl (g := (mkF m 7 #[.val (.ref ra), .val (.long xp), .second] [(.int (0 : Int32)), (.ref ra)])) rfl rfl (hb hby own_d_method_3_7) _ kt) ?_
    show own_Go p e below _ (s₁.setTop (mkF m 8 #[.val (.ref ra), .val (.long xp), .second] [(.long q0)]))
    refine own_Go.st (fun _ kt => XS.lloadN X0.here hx rfl (hb hby own_d_method_3_8) rfl kt) ?_
    show own_Go p e below _ (s₁.setTop (mkF m 9 #[.val (.ref ra), .val (.long xp), .second] [(.long xp), (.long q0)]))
    refine own_Go.st (fun _ kt => XS.lcmp X0.here hx rfl (hb hby own_d_method_3_9) rfl kt) ?_
    show own_Go p e below _ (s₁.setTop (mkF m 10 #[.val (.ref ra), .val (.long xp), .second] [(.int (lcmpW q0 xp))]))
    by_cases he0 : q0 = xp
    · refine own_Go.st (fun _ kt => XS.ifYes X0.here hx rfl (pc0 := 10) (pc' := 41) rfl (hb hby own_d_method_3_10) rfl ((if0 _ _).trans (teq ((lw_eq _ _).mpr he0)).1) (by decide) (by decide) kt) ?_
      show own_Go p e below _ (s₁.setTop (mkF m 41 #[.val (.ref ra), .val (.long xp), .second] []))
      refine own_Go.st (fun _ kt => XS.iconst X0.here hx rfl (hb hby own_d_method_3_41) kt) ?_
      show own_Go p e below _ (s₁.setTop (mkF m 42 #[.val (.ref ra), .val (.long xp), .second] [(.int (1 : Int32))]))
      refine own_Go.st (fun _ kt => XS.goto X0.here hx rfl (pc0 := 42) (pc' := 46) rfl (hb hby own_d_method_3_42) (by decide) (by decide) kt) ?_
      show own_Go p e below _ (s₁.setTop (mkF m 46 #[.val (.ref ra), .val (.long xp), .second] [(.int (1 : Int32))]))
      exact own_retZ X0 hx Bd.notSynchronized Bd.returns (Or.inr rfl) (hb hby own_d_method_3_46) (by decide) (by decide) ⟨by simp [he0.symm], N0, e0⟩
    · refine own_Go.st (fun _ kt => XS.ifNo X0.here hx rfl (hb hby own_d_method_3_10) rfl ((if0 _ _).trans (feq (mt (lw_eq _ _).mp he0)).1) kt) ?_
      show own_Go p e below _ (s₁.setTop (mkF m 13 #[.val (.ref ra), .val (.long xp), .second] []))
      refine own_Go.st (fun _ kt => XS.aloadN X0.here hx rfl (hb hby own_d_method_3_13) rfl rfl kt) ?_
      show own_Go p e below _ (s₁.setTop (mkF m 14 #[.val (.ref ra), .val (.long xp), .second] [(.ref ra)]))
      refine own_Go.st (fun _ kt => own_alen X0 hx hZ e0 aA (z := (1 : Int32)) rfl (g := (mkF m 14 #[.val (.ref ra), .val (.long xp), .second] [(.ref ra)])) rfl rfl (hb hby own_d_method_3_14) _ kt) ?_
      show own_Go p e below _ (s₁.setTop (mkF m 15 #[.val (.ref ra), .val (.long xp), .second] [(.int (1 : Int32))]))
      refine own_Go.st (fun _ kt => XS.iconst X0.here hx rfl (hb hby own_d_method_3_15) kt) ?_
      show own_Go p e below _ (s₁.setTop (mkF m 16 #[.val (.ref ra), .val (.long xp), .second] [(.int (1 : Int32)), (.int (1 : Int32))]))
      refine own_Go.st (fun _ kt => XS.icmpYes X0.here hx rfl (pc0 := 16) (pc' := 27) rfl (hb hby own_d_method_3_16) rfl (flt (by decide)).2.2.2 (by decide) (by decide) kt) ?_
      show own_Go p e below _ (s₁.setTop (mkF m 27 #[.val (.ref ra), .val (.long xp), .second] []))
      refine own_Go.st (fun _ kt => XS.aloadN X0.here hx rfl (hb hby own_d_method_3_27) rfl rfl kt) ?_
      show own_Go p e below _ (s₁.setTop (mkF m 28 #[.val (.ref ra), .val (.long xp), .second] [(.ref ra)]))
      refine own_Go.st (fun _ kt => own_alen X0 hx hZ e0 aA (z := (1 : Int32)) rfl (g := (mkF m 28 #[.val (.ref ra), .val (.long xp), .second] [(.ref ra)])) rfl rfl (hb hby own_d_method_3_28) _ kt) ?_
      show own_Go p e below _ (s₁.setTop (mkF m 29 #[.val (.ref ra), .val (.long xp), .second] [(.int (1 : Int32))]))
      refine own_Go.st (fun _ kt => XS.iconst X0.here hx rfl (hb hby own_d_method_3_29) kt) ?_
      show own_Go p e below _ (s₁.setTop (mkF m 30 #[.val (.ref ra), .val (.long xp), .second] [(.int (2 : Int32)), (.int (1 : Int32))]))
      refine own_Go.st (fun _ kt => XS.icmpYes X0.here hx rfl (pc0 := 30) (pc' := 45) rfl (hb hby own_d_method_3_30) rfl (flt (by decide)).2.2.2 (by decide) (by decide) kt) ?_
      show own_Go p e below _ (s₁.setTop (mkF m 45 #[.val (.ref ra), .val (.long xp), .second] []))
      refine own_Go.st (fun _ kt => XS.iconst X0.here hx rfl (hb hby own_d_method_3_45) kt) ?_
      show own_Go p e below _ (s₁.setTop (mkF m 46 #[.val (.ref ra), .val (.long xp), .second] [(.int (0 : Int32))]))
      exact own_retZ X0 hx Bd.notSynchronized Bd.returns (Or.inl rfl) (hb hby own_d_method_3_46) (by decide) (by decide) ⟨by simp [(Ne.symm he0 : ¬ xp = q0)], N0, e0⟩
  · show own_Go p e below _ (s₁.setTop (mkF m 0 #[.val (.ref ra), .val (.long xp), .second] []))
    refine own_Go.st (fun _ kt => XS.aloadN X0.here hx rfl (hb hby own_d_method_3_0) rfl rfl kt) ?_
    show own_Go p e below _ (s₁.setTop (mkF m 1 #[.val (.ref ra), .val (.long xp), .second] [(.ref ra)]))
    refine own_Go.st (fun _ kt => own_alen X0 hx hZ e0 aA (z := (2 : Int32)) rfl (g := (mkF m 1 #[.val (.ref ra), .val (.long xp), .second] [(.ref ra)])) rfl rfl (hb hby own_d_method_3_1) _ kt) ?_
    show own_Go p e below _ (s₁.setTop (mkF m 2 #[.val (.ref ra), .val (.long xp), .second] [(.int (2 : Int32))]))
    refine own_Go.st (fun _ kt => XS.ifNo X0.here hx rfl (hb hby own_d_method_3_2) rfl ((if0 _ _).trans (tlt (by decide)).2.2.2) kt) ?_
    show own_Go p e below _ (s₁.setTop (mkF m 5 #[.val (.ref ra), .val (.long xp), .second] []))
    refine own_Go.st (fun _ kt => XS.aloadN X0.here hx rfl (hb hby own_d_method_3_5) rfl rfl kt) ?_
    show own_Go p e below _ (s₁.setTop (mkF m 6 #[.val (.ref ra), .val (.long xp), .second] [(.ref ra)]))
    refine own_Go.st (fun _ kt => XS.iconst X0.here hx rfl (hb hby own_d_method_3_6) kt) ?_
    show own_Go p e below _ (s₁.setTop (mkF m 7 #[.val (.ref ra), .val (.long xp), .second] [(.int (0 : Int32)), (.ref ra)]))
    refine own_Go.st (fun _ kt => own_lld X0 hx hZ e0 aA (i := 0) (by decide) (by simp only [List.length_cons, List.length_nil]; omega) (v := (.long q0)) rfl (g := (mkF m 7 #[.val (.ref ra), .val (.long xp), .second] [(.int (0 : Int32)), (.ref ra)])) rfl rfl (hb hby own_d_method_3_7) _ kt) ?_
    show own_Go p e below _ (s₁.setTop (mkF m 8 #[.val (.ref ra), .val (.long xp), .second] [(.long q0)]))
    refine own_Go.st (fun _ kt => XS.lloadN X0.here hx rfl (hb hby own_d_method_3_8) rfl kt) ?_
    show own_Go p e below _ (s₁.setTop (mkF m 9 #[.val (.ref ra), .val (.long xp), .second] [(.long xp), (.long q0)]))
    refine own_Go.st (fun _ kt => XS.lcmp X0.here hx rfl (hb hby own_d_method_3_9) rfl kt) ?_
    show own_Go p e below _ (s₁.setTop (mkF m 10 #[.val (.ref ra), .val (.long xp), .second] [(.int (lcmpW q0 xp))]))
    by_cases he0 : q0 = xp
    · refine own_Go.st (fun _ kt => XS.ifYes X0.here hx rfl (pc0 := 10) (pc' := 41) rfl (hb hby own_d_method_3_10) rfl ((if0 _ _).trans (teq ((lw_eq _ _).mpr he0)).1) (by decide) (by decide) kt) ?_
      show own_Go p e below _ (s₁.setTop (mkF m 41 #[.val (.ref ra), .val (.long xp), .second] []))
      refine own_Go.st (fun _ kt => XS.iconst X0.here hx rfl (hb hby own_d_method_3_41) kt) ?_
      show own_Go p e below _ (s₁.setTop (mkF m 42 #[.val (.ref ra), .val (.long xp), .second] [(.int (1 : Int32))]))
      refine own_Go.st (fun _ kt => XS.goto X0.here hx rfl (pc0 := 42) (pc' := 46) rfl (hb hby own_d_method_3_42) (by decide) (by decide) kt) ?_
      show own_Go p e below _ (s₁.setTop (mkF m 46 #[.val (.ref ra), .val (.long xp), .second] [(.int (1 : Int32))]))
      exact own_retZ X0 hx Bd.notSynchronized Bd.returns (Or.inr rfl) (hb hby own_d_method_3_46) (by decide) (by decide) ⟨by simp [he0.symm], N0, e0⟩
    · refine own_Go.st (fun _ kt => XS.ifNo X0.here hx rfl (hb hby own_d_method_3_10) rfl ((if0 _ _).trans (feq (mt (lw_eq _ _).mp he0)).1) kt) ?_
      show own_Go p e below _ (s₁.setTop (mkF m 13 #[.val (.ref ra), .val (.long xp), .second] []))
      refine own_Go.st (fun _ kt => XS.aloadN X0.here hx rfl (hb hby own_d_method_3_13) rfl rfl kt) ?_
      show own_Go p e below _ (s₁.setTop (mkF m 14 #[.val (.ref ra), .val (.long xp), .second] [(.ref ra)]))
      refine own_Go.st (fun _ kt => own_alen X0 hx hZ e0 aA (z := (2 : Int32)) rfl (g := (mkF m 14 #[.val (.ref ra), .val (.long xp), .second] [(.ref ra)])) rfl rfl (hb hby own_d_method_3_14) _ kt) ?_
      show own_Go p e below _ (s₁.setTop (mkF m 15 #[.val (.ref ra), .val (.long xp), .second] [(.int (2 : Int32))]))
      refine own_Go.st (fun _ kt => XS.iconst X0.here hx rfl (hb hby own_d_method_3_15) kt) ?_
      show own_Go p e below _ (s₁.setTop (mkF m 16 #[.val (.ref ra), .val (.long xp), .second] [(.int (1 : Int32)), (.int (2 : Int32))]))
      refine own_Go.st (fun _ kt => XS.icmpNo X0.here hx rfl (hb hby own_d_method_3_16) rfl (tlt (by decide)).2.2.2 kt) ?_
      show own_Go p e below _ (s₁.setTop (mkF m 19 #[.val (.ref ra), .val (.long xp), .second] []))
      refine own_Go.st (fun _ kt => XS.aloadN X0.here hx rfl (hb hby own_d_method_3_19) rfl rfl kt) ?_
      show own_Go p e below _ (s₁.setTop (mkF m 20 #[.val (.ref ra), .val (.long xp), .second] [(.ref ra)]))
      refine own_Go.st (fun _ kt => XS.iconst X0.here hx rfl (hb hby own_d_method_3_20) kt) ?_
      show own_Go p e below _ (s₁.setTop (mkF m 21 #[.val (.ref ra), .val (.long xp), .second] [(.int (1 : Int32)), (.ref ra)]))
      refine own_Go.st (fun _ kt => own_lld X0 hx hZ e0 aA (i := 1) (by decide) (by simp only [List.length_cons, List.length_nil]; omega) (v := (.long q1)) rfl (g := (mkF m 21 #[.val (.ref ra), .val (.long xp), .second] [(.int (1 : Int32)), (.ref ra)])) rfl rfl (hb hby own_d_method_3_21) _ kt) ?_
      show own_Go p e below _ (s₁.setTop (mkF m 22 #[.val (.ref ra), .val (.long xp), .second] [(.long q1)]))
      refine own_Go.st (fun _ kt => XS.lloadN X0.here hx rfl (hb hby own_d_method_3_22) rfl kt) ?_
      show own_Go p e below _ (s₁.setTop (mkF m 23 #[.val (.ref ra), .val (.long xp), .second] [(.long xp), (.long q1)]))
      refine own_Go.st (fun _ kt => XS.lcmp X0.here hx rfl (hb hby own_d_method_3_23) rfl kt) ?_
      show own_Go p e below _ (s₁.setTop (mkF m 24 #[.val (.ref ra), .val (.long xp), .second] [(.int (lcmpW q1 xp))]))
      by_cases he1 : q1 = xp
      · refine own_Go.st (fun _ kt => XS.ifYes X0.here hx rfl (pc0 := 24) (pc' := 41) rfl (hb hby own_d_method_3_24) rfl ((if0 _ _).trans (teq ((lw_eq _ _).mpr he1)).1) (by decide) (by decide) kt) ?_
        show own_Go p e below _ (s₁.setTop (mkF m 41 #[.val (.ref ra), .val (.long xp), .second] []))
        refine own_Go.st (fun _ kt => XS.iconst X0.here hx rfl (hb hby own_d_method_3_41) kt) ?_
        show own_Go p e below _ (s₁.setTop (mkF m 42 #[.val (.ref ra), .val (.long xp), .second] [(.int (1 : Int32))]))
        refine own_Go.st (fun _ kt => XS.goto X0.here hx rfl (pc0 := 42) (pc' := 46) rfl (hb hby own_d_method_3_42) (by decide) (by decide) kt) ?_
        show own_Go p e below _ (s₁.setTop (mkF m 46 #[.val (.ref ra), .val (.long xp), .second] [(.int (1 : Int32))]))
        exact own_retZ X0 hx Bd.notSynchronized Bd.returns (Or.inr rfl) (hb hby own_d_method_3_46) (by decide) (by decide) ⟨by simp [(Ne.symm he0 : ¬ xp = q0), he1.symm], N0, e0⟩
      · refine own_Go.st (fun _ kt => XS.ifNo X0.here hx rfl (hb hby own_d_method_3_24) rfl ((if0 _ _).trans (feq (mt (lw_eq _ _).mp he1)).1) kt) ?_
        show own_Go p e below _ (s₁.setTop (mkF m 27 #[.val (.ref ra), .val (.long xp), .second] []))
        refine own_Go.st (fun _ kt => XS.aloadN X0.here hx rfl (hb hby own_d_method_3_27) rfl rfl kt) ?_
        show own_Go p e below _ (s₁.setTop (mkF m 28 #[.val (.ref ra), .val (.long xp), .second] [(.ref ra)]))
        refine own_Go.st (fun _ kt => own_alen X0 hx hZ e0 aA (z := (2 : Int32)) rfl (g := (mkF m 28 #[.val (.ref ra), .val (.long xp), .second] [(.ref ra)])) rfl rfl (hb hby own_d_method_3_28) _ kt) ?_
        show own_Go p e below _ (s₁.setTop (mkF m 29 #[.val (.ref ra), .val (.long xp), .second] [(.int (2 : Int32))]))
        refine own_Go.st (fun _ kt => XS.iconst X0.here hx rfl (hb hby own_d_method_3_29) kt) ?_
        show own_Go p e below _ (s₁.setTop (mkF m 30 #[.val (.ref ra), .val (.long xp), .second] [(.int (2 : Int32)), (.int (2 : Int32))]))
        refine own_Go.st (fun _ kt => XS.icmpYes X0.here hx rfl (pc0 := 30) (pc' := 45) rfl (hb hby own_d_method_3_30) rfl (flt (by decide)).2.2.2 (by decide) (by decide) kt) ?_
        show own_Go p e below _ (s₁.setTop (mkF m 45 #[.val (.ref ra), .val (.long xp), .second] []))
        refine own_Go.st (fun _ kt => XS.iconst X0.here hx rfl (hb hby own_d_method_3_45) kt) ?_
        show own_Go p e below _ (s₁.setTop (mkF m 46 #[.val (.ref ra), .val (.long xp), .second] [(.int (0 : Int32))]))
        exact own_retZ X0 hx Bd.notSynchronized Bd.returns (Or.inl rfl) (hb hby own_d_method_3_46) (by decide) (by decide) ⟨by simp [(Ne.symm he0 : ¬ xp = q0), (Ne.symm he1 : ¬ xp = q1)], N0, e0⟩
  · show own_Go p e below _ (s₁.setTop (mkF m 0 #[.val (.ref ra), .val (.long xp), .second] []))
    refine own_Go.st (fun _ kt => XS.aloadN X0.here hx rfl (hb hby own_d_method_3_0) rfl rfl kt) ?_
    show own_Go p e below _ (s₁.setTop (mkF m 1 #[.val (.ref ra), .val (.long xp), .second] [(.ref ra)]))
    refine own_Go.st (fun _ kt => own_alen X0 hx hZ e0 aA (z := (3 : Int32)) rfl (g := (mkF m 1 #[.val (.ref ra), .val (.long xp), .second] [(.ref ra)])) rfl rfl (hb hby own_d_method_3_1) _ kt) ?_
    show own_Go p e below _ (s₁.setTop (mkF m 2 #[.val (.ref ra), .val (.long xp), .second] [(.int (3 : Int32))]))
    refine own_Go.st (fun _ kt => XS.ifNo X0.here hx rfl (hb hby own_d_method_3_2) rfl ((if0 _ _).trans (tlt (by decide)).2.2.2) kt) ?_
    show own_Go p e below _ (s₁.setTop (mkF m 5 #[.val (.ref ra), .val (.long xp), .second] []))
    refine own_Go.st (fun _ kt => XS.aloadN X0.here hx rfl (hb hby own_d_method_3_5) rfl rfl kt) ?_
    show own_Go p e below _ (s₁.setTop (mkF m 6 #[.val (.ref ra), .val (.long xp), .second] [(.ref ra)]))
    refine own_Go.st (fun _ kt => XS.iconst X0.here hx rfl (hb hby own_d_method_3_6) kt) ?_
    show own_Go p e below _ (s₁.setTop (mkF m 7 #[.val (.ref ra), .val (.long xp), .second] [(.int (0 : Int32)), (.ref ra)]))
    refine own_Go.st (fun _ kt => own_lld X0 hx hZ e0 aA (i := 0) (by decide) (by simp only [List.length_cons, List.length_nil]; omega) (v := (.long q0)) rfl (g := (mkF m 7 #[.val (.ref ra), .val (.long xp), .second] [(.int (0 : Int32)), (.ref ra)])) rfl rfl (hb hby own_d_method_3_7) _ kt) ?_
    show own_Go p e below _ (s₁.setTop (mkF m 8 #[.val (.ref ra), .val (.long xp), .second] [(.long q0)]))
    refine own_Go.st (fun _ kt => XS.lloadN X0.here hx rfl (hb hby own_d_method_3_8) rfl kt) ?_
    show own_Go p e below _ (s₁.setTop (mkF m 9 #[.val (.ref ra), .val (.long xp), .second] [(.long xp), (.long q0)]))
    refine own_Go.st (fun _ kt => XS.lcmp X0.here hx rfl (hb hby own_d_method_3_9) rfl kt) ?_
    show own_Go p e below _ (s₁.setTop (mkF m 10 #[.val (.ref ra), .val (.long xp), .second] [(.int (lcmpW q0 xp))]))
    by_cases he0 : q0 = xp
    · refine own_Go.st (fun _ kt => XS.ifYes X0.here hx rfl (pc0 := 10) (pc' := 41) rfl (hb hby own_d_method_3_10) rfl ((if0 _ _).trans (teq ((lw_eq _ _).mpr he0)).1) (by decide) (by decide) kt) ?_
      show own_Go p e below _ (s₁.setTop (mkF m 41 #[.val (.ref ra), .val (.long xp), .second] []))
      refine own_Go.st (fun _ kt => XS.iconst X0.here hx rfl (hb hby own_d_method_3_41) kt) ?_
      show own_Go p e below _ (s₁.setTop (mkF m 42 #[.val (.ref ra), .val (.long xp), .second] [(.int (1 : Int32))]))
      refine own_Go.st (fun _ kt => XS.goto X0.here hx rfl (pc0 := 42) (pc' := 46) rfl (hb hby own_d_method_3_42) (by decide) (by decide) kt) ?_
      show own_Go p e below _ (s₁.setTop (mkF m 46 #[.val (.ref ra), .val (.long xp), .second] [(.int (1 : Int32))]))
      exact own_retZ X0 hx Bd.notSynchronized Bd.returns (Or.inr rfl) (hb hby own_d_method_3_46) (by decide) (by decide) ⟨by simp [he0.symm], N0, e0⟩
    · refine own_Go.st (fun _ kt => XS.ifNo X0.here hx rfl (hb hby own_d_method_3_10) rfl ((if0 _ _).trans (feq (mt (lw_eq _ _).mp he0)).1) kt) ?_
      show own_Go p e below _ (s₁.setTop (mkF m 13 #[.val (.ref ra), .val (.long xp), .second] []))
      refine own_Go.st (fun _ kt => XS.aloadN X0.here hx rfl (hb hby own_d_method_3_13) rfl rfl kt) ?_
      show own_Go p e below _ (s₁.setTop (mkF m 14 #[.val (.ref ra), .val (.long xp), .second] [(.ref ra)]))
      refine own_Go.st (fun _ kt => own_alen X0 hx hZ e0 aA (z := (3 : Int32)) rfl (g := (mkF m 14 #[.val (.ref ra), .val (.long xp), .second] [(.ref ra)])) rfl rfl (hb hby own_d_method_3_14) _ kt) ?_
      show own_Go p e below _ (s₁.setTop (mkF m 15 #[.val (.ref ra), .val (.long xp), .second] [(.int (3 : Int32))]))
      refine own_Go.st (fun _ kt => XS.iconst X0.here hx rfl (hb hby own_d_method_3_15) kt) ?_
      show own_Go p e below _ (s₁.setTop (mkF m 16 #[.val (.ref ra), .val (.long xp), .second] [(.int (1 : Int32)), (.int (3 : Int32))]))
      refine own_Go.st (fun _ kt => XS.icmpNo X0.here hx rfl (hb hby own_d_method_3_16) rfl (tlt (by decide)).2.2.2 kt) ?_
      show own_Go p e below _ (s₁.setTop (mkF m 19 #[.val (.ref ra), .val (.long xp), .second] []))
      refine own_Go.st (fun _ kt => XS.aloadN X0.here hx rfl (hb hby own_d_method_3_19) rfl rfl kt) ?_
      show own_Go p e below _ (s₁.setTop (mkF m 20 #[.val (.ref ra), .val (.long xp), .second] [(.ref ra)]))
      refine own_Go.st (fun _ kt => XS.iconst X0.here hx rfl (hb hby own_d_method_3_20) kt) ?_
      show own_Go p e below _ (s₁.setTop (mkF m 21 #[.val (.ref ra), .val (.long xp), .second] [(.int (1 : Int32)), (.ref ra)]))
      refine own_Go.st (fun _ kt => own_lld X0 hx hZ e0 aA (i := 1) (by decide) (by simp only [List.length_cons, List.length_nil]; omega) (v := (.long q1)) rfl (g := (mkF m 21 #[.val (.ref ra), .val (.long xp), .second] [(.int (1 : Int32)), (.ref ra)])) rfl rfl (hb hby own_d_method_3_21) _ kt) ?_
      show own_Go p e below _ (s₁.setTop (mkF m 22 #[.val (.ref ra), .val (.long xp), .second] [(.long q1)]))
      refine own_Go.st (fun _ kt => XS.lloadN X0.here hx rfl (hb hby own_d_method_3_22) rfl kt) ?_
      show own_Go p e below _ (s₁.setTop (mkF m 23 #[.val (.ref ra), .val (.long xp), .second] [(.long xp), (.long q1)]))
      refine own_Go.st (fun _ kt => XS.lcmp X0.here hx rfl (hb hby own_d_method_3_23) rfl kt) ?_
      show own_Go p e below _ (s₁.setTop (mkF m 24 #[.val (.ref ra), .val (.long xp), .second] [(.int (lcmpW q1 xp))]))
      by_cases he1 : q1 = xp
      · refine own_Go.st (fun _ kt => XS.ifYes X0.here hx rfl (pc0 := 24) (pc' := 41) rfl (hb hby own_d_method_3_24) rfl ((if0 _ _).trans (teq ((lw_eq _ _).mpr he1)).1) (by decide) (by decide) kt) ?_
        show own_Go p e below _ (s₁.setTop (mkF m 41 #[.val (.ref ra), .val (.long xp), .second] []))
        refine own_Go.st (fun _ kt => XS.iconst X0.here hx rfl (hb hby own_d_method_3_41) kt) ?_
        show own_Go p e below _ (s₁.setTop (mkF m 42 #[.val (.ref ra), .val (.long xp), .second] [(.int (1 : Int32))]))
        refine own_Go.st (fun _ kt => XS.goto X0.here hx rfl (pc0 := 42) (pc' := 46) rfl (hb hby own_d_method_3_42) (by decide) (by decide) kt) ?_
        show own_Go p e below _ (s₁.setTop (mkF m 46 #[.val (.ref ra), .val (.long xp), .second] [(.int (1 : Int32))]))
        exact own_retZ X0 hx Bd.notSynchronized Bd.returns (Or.inr rfl) (hb hby own_d_method_3_46) (by decide) (by decide) ⟨by simp [(Ne.symm he0 : ¬ xp = q0), he1.symm], N0, e0⟩
      · refine own_Go.st (fun _ kt => XS.ifNo X0.here hx rfl (hb hby own_d_method_3_24) rfl ((if0 _ _).trans (feq (mt (lw_eq _ _).mp he1)).1) kt) ?_
        show own_Go p e below _ (s₁.setTop (mkF m 27 #[.val (.ref ra), .val (.long xp), .second] []))
        refine own_Go.st (fun _ kt => XS.aloadN X0.here hx rfl (hb hby own_d_method_3_27) rfl rfl kt) ?_
        show own_Go p e below _ (s₁.setTop (mkF m 28 #[.val (.ref ra), .val (.long xp), .second] [(.ref ra)]))
        refine own_Go.st (fun _ kt => own_alen X0 hx hZ e0 aA (z := (3 : Int32)) rfl (g := (mkF m 28 #[.val (.ref ra), .val (.long xp), .second] [(.ref ra)])) rfl rfl (hb hby own_d_method_3_28) _ kt) ?_
        show own_Go p e below _ (s₁.setTop (mkF m 29 #[.val (.ref ra), .val (.long xp), .second] [(.int (3 : Int32))]))
        refine own_Go.st (fun _ kt => XS.iconst X0.here hx rfl (hb hby own_d_method_3_29) kt) ?_
        show own_Go p e below _ (s₁.setTop (mkF m 30 #[.val (.ref ra), .val (.long xp), .second] [(.int (2 : Int32)), (.int (3 : Int32))]))
        refine own_Go.st (fun _ kt => XS.icmpNo X0.here hx rfl (hb hby own_d_method_3_30) rfl (tlt (by decide)).2.2.2 kt) ?_
        show own_Go p e below _ (s₁.setTop (mkF m 33 #[.val (.ref ra), .val (.long xp), .second] []))
        refine own_Go.st (fun _ kt => XS.aloadN X0.here hx rfl (hb hby own_d_method_3_33) rfl rfl kt) ?_
        show own_Go p e below _ (s₁.setTop (mkF m 34 #[.val (.ref ra), .val (.long xp), .second] [(.ref ra)]))
        refine own_Go.st (fun _ kt => XS.iconst X0.here hx rfl (hb hby own_d_method_3_34) kt) ?_
        show own_Go p e below _ (s₁.setTop (mkF m 35 #[.val (.ref ra), .val (.long xp), .second] [(.int (2 : Int32)), (.ref ra)]))
        refine own_Go.st (fun _ kt => own_lld X0 hx hZ e0 aA (i := 2) (by decide) (by simp only [List.length_cons, List.length_nil]; omega) (v := (.long q2)) rfl (g := (mkF m 35 #[.val (.ref ra), .val (.long xp), .second] [(.int (2 : Int32)), (.ref ra)])) rfl rfl (hb hby own_d_method_3_35) _ kt) ?_
        show own_Go p e below _ (s₁.setTop (mkF m 36 #[.val (.ref ra), .val (.long xp), .second] [(.long q2)]))
        refine own_Go.st (fun _ kt => XS.lloadN X0.here hx rfl (hb hby own_d_method_3_36) rfl kt) ?_
        show own_Go p e below _ (s₁.setTop (mkF m 37 #[.val (.ref ra), .val (.long xp), .second] [(.long xp), (.long q2)]))
        refine own_Go.st (fun _ kt => XS.lcmp X0.here hx rfl (hb hby own_d_method_3_37) rfl kt) ?_
        show own_Go p e below _ (s₁.setTop (mkF m 38 #[.val (.ref ra), .val (.long xp), .second] [(.int (lcmpW q2 xp))]))
        by_cases he2 : q2 = xp
        · refine own_Go.st (fun _ kt => XS.ifNo X0.here hx rfl (hb hby own_d_method_3_38) rfl ((if0 _ _).trans (teq ((lw_eq _ _).mpr he2)).2) kt) ?_
          show own_Go p e below _ (s₁.setTop (mkF m 41 #[.val (.ref ra), .val (.long xp), .second] []))
          refine own_Go.st (fun _ kt => XS.iconst X0.here hx rfl (hb hby own_d_method_3_41) kt) ?_
          show own_Go p e below _ (s₁.setTop (mkF m 42 #[.val (.ref ra), .val (.long xp), .second] [(.int (1 : Int32))]))
          refine own_Go.st (fun _ kt => XS.goto X0.here hx rfl (pc0 := 42) (pc' := 46) rfl (hb hby own_d_method_3_42) (by decide) (by decide) kt) ?_
          show own_Go p e below _ (s₁.setTop (mkF m 46 #[.val (.ref ra), .val (.long xp), .second] [(.int (1 : Int32))]))
          exact own_retZ X0 hx Bd.notSynchronized Bd.returns (Or.inr rfl) (hb hby own_d_method_3_46) (by decide) (by decide) ⟨by simp [(Ne.symm he0 : ¬ xp = q0), (Ne.symm he1 : ¬ xp = q1), he2.symm], N0, e0⟩
        · refine own_Go.st (fun _ kt => XS.ifYes X0.here hx rfl (pc0 := 38) (pc' := 45) rfl (hb hby own_d_method_3_38) rfl ((if0 _ _).trans (feq (mt (lw_eq _ _).mp he2)).2) (by decide) (by decide) kt) ?_
          show own_Go p e below _ (s₁.setTop (mkF m 45 #[.val (.ref ra), .val (.long xp), .second] []))
          refine own_Go.st (fun _ kt => XS.iconst X0.here hx rfl (hb hby own_d_method_3_45) kt) ?_
          show own_Go p e below _ (s₁.setTop (mkF m 46 #[.val (.ref ra), .val (.long xp), .second] [(.int (0 : Int32))]))
          exact own_retZ X0 hx Bd.notSynchronized Bd.returns (Or.inl rfl) (hb hby own_d_method_3_46) (by decide) (by decide) ⟨by simp [(Ne.symm he0 : ¬ xp = q0), (Ne.symm he1 : ¬ xp = q1), (Ne.symm he2 : ¬ xp = q2)], N0, e0⟩
  · exact absurd hl (by simp only [List.length_cons]; omega)
theorem own_ef13 (m : MethodId) (x0 : Int32) : entryFrame m #[(.int x0)] 1 = mkF m 0 #[.val (.int x0)] [] := by first | (simp [entryFrame, mkF, argsToLocals, Value.category]; done) | rfl
theorem own_d_jdk_33_22_0 : decode jdk_33_method_22_code 0 = .ok (.iload_n 0, 1) := by decide +kernel
theorem own_d_jdk_33_22_1 : decode jdk_33_method_22_code 1 = .ok (.bipush (-128), 2) := by decide +kernel
theorem own_d_jdk_33_22_3 : decode jdk_33_method_22_code 3 = .ok (.if_icmp .lt 20, 3) := by decide +kernel
theorem own_d_jdk_33_22_6 : decode jdk_33_method_22_code 6 = .ok (.iload_n 0, 1) := by decide +kernel
theorem own_d_jdk_33_22_7 : decode jdk_33_method_22_code 7 = .ok (.getstatic 191, 3) := by decide +kernel
theorem own_d_jdk_33_22_10 : decode jdk_33_method_22_code 10 = .ok (.if_icmp .gt 13, 3) := by decide +kernel
theorem own_d_jdk_33_22_13 : decode jdk_33_method_22_code 13 = .ok (.getstatic 195, 3) := by decide +kernel
theorem own_d_jdk_33_22_16 : decode jdk_33_method_22_code 16 = .ok (.iload_n 0, 1) := by decide +kernel
theorem own_d_jdk_33_22_17 : decode jdk_33_method_22_code 17 = .ok (.sipush 128, 3) := by decide +kernel
theorem own_d_jdk_33_22_20 : decode jdk_33_method_22_code 20 = .ok (.iadd, 1) := by decide +kernel
theorem own_d_jdk_33_22_21 : decode jdk_33_method_22_code 21 = .ok (.aaload, 1) := by decide +kernel
theorem own_d_jdk_33_22_22 : decode jdk_33_method_22_code 22 = .ok (.areturn, 1) := by decide +kernel
def own_Q_own_valueOf (Z : State) (xk : Int32) (rc : Addr) (h0 : Heap) (n0 : Nat) (v : Option Value) (h : Heap) (L : List Loc) : Prop := ∃ y, v = some (.ref y) ∧ Fr n0 L ∧ Exa Z h0 y "java/lang/Integer" ∧ h = h0
set_option maxRecDepth 65536 in
set_option maxHeartbeats 40000000 in
theorem own_valueOf (l : Launch) (Z : State) (a0 : Array Value) (hw : ∀ d ∈ tables_1, d.before a0 Z = true) (ws : List Jvm.Cond) (xk : Int32) (rc : Addr) (h0 : Heap) (n0 : Nat) (Z0 : n0 ≤ h0.size) (s1 : Sta Z h0 "java/lang/Integer$IntegerCache" "high" "I" (.int 127)) (s2 : Sta Z h0 "java/lang/Integer$IntegerCache" "cache" "[Ljava/lang/Integer;" (.ref rc)) (ic : own_Ic Z h0 rc) (hk : xk = 0 ∨ xk = 1 ∨ xk = 2) :
    MetFree l (⟨"java/lang/Integer", "valueOf", "(I)Ljava/lang/Integer;"⟩ : MethodName) (head1 (Jvm.Cond.code (⟨"java/lang/Integer", "valueOf", "(I)Ljava/lang/Integer;"⟩ : MethodName) jdk_33_method_22_code 1 (some (.object "java/lang/Integer")) :: ws) ({ frames := 0, cells := 0, slots := 0, locals := 0 } : Room)) (fun av_ U => av_ = #[(.int xk)] ∧ Z.Warmed39 U.vm ∧ U.heap = h0) (fun _ _ _ _ _ => True) (fun _ U o U' => ∃ v L, o = .returned v ∧ own_Q_own_valueOf Z xk rc h0 n0 v U'.heap L ∧ FrameEnd U o U' L ({ frames := 0, cells := 0, slots := 0, locals := 0 } : Room).cells ({ frames := 0, cells := 0, slots := 0, locals := 0 } : Room).slots) := by
  refine MetFree.of_bodySF (plainFor_of_name own_pn0) hisR ?_
  intro p e s m args below meth c s₁ Bd hml0 hP hK
  obtain ⟨rfl, hZ, hh⟩ := hP
  have hx := Bd.exec
  have hby := Bd.bytes
  have hml : c.maxLocals = 1 := hml0
  have hown : s.vm.findClass "java/lang/Integer" = some m.cls := findClass_of_methodNamed Bd.named
  have hnm := (name_of_methodNamed Bd.named Bd.method).1
  have X0 : Stand p l e ({ frames := 0, cells := 0, slots := 0, locals := 0 } : Room) s m #[(.int xk)] below meth c s₁ [] 0 0 := Stand.of_body Bd
  have e0 : s₁.heap = h0 := by rw [← hh, Bd.state]; rfl
  have N0 := Fr.nil n0
  suffices hgo : own_Go p e below (fun o U' => ∃ v L, o = .returned v ∧ own_Q_own_valueOf Z xk rc h0 n0 v U'.heap L ∧ FrameEnd s o U' L ({ frames := 0, cells := 0, slots := 0, locals := 0 } : Room).cells ({ frames := 0, cells := 0, slots := 0, locals := 0 } : Room).slots) (s₁.setTop (mkF m 0 #[.val (.int xk)] [])) by
    obtain ⟨s₂, o, h1, h2, h3, h4⟩ := hgo
    exact ⟨s₂, o, castTop (own_ef13 m xk) h1, h2, h3, h4⟩
  show own_Go p e below _ (s₁.setTop (mkF m 0 #[.val (.int xk)] []))
  have hk1 : ¬ xk < -128 := by rcases hk with rfl | rfl | rfl <;> decide
  have hk2 : ¬ (127 : Int32) < xk := by rcases hk with rfl | rfl | rfl <;> decide
  obtain ⟨ik, hk3, hk4⟩ : ∃ i : Nat, (xk + (128 : Int32)).toInt = (i : Int) ∧ i < 256 := by rcases hk with rfl | rfl | rfl; exact ⟨128, by decide, by decide⟩; exact ⟨129, by decide, by decide⟩; exact ⟨130, by decide, by decide⟩
  refine own_Go.st (fun _ kt => XS.iloadN X0.here hx rfl (hb hby own_d_jdk_33_22_0) rfl kt) ?_
  show own_Go p e below _ (s₁.setTop (mkF m 1 #[.val (.int xk)] [(.int xk)]))
  refine own_Go.st (fun _ kt => XS.bipush X0.here hx rfl (hb hby own_d_jdk_33_22_1) kt) ?_
  show own_Go p e below _ (s₁.setTop (mkF m 3 #[.val (.int xk)] [(.int (-128 : Int32)), (.int xk)]))
  refine own_Go.st (fun _ kt => XS.icmpNo X0.here hx rfl (hb hby own_d_jdk_33_22_3) rfl (flt hk1).1 kt) ?_
  show own_Go p e below _ (s₁.setTop (mkF m 6 #[.val (.int xk)] []))
  refine own_Go.st (fun _ kt => XS.iloadN X0.here hx rfl (hb hby own_d_jdk_33_22_6) rfl kt) ?_
  show own_Go p e below _ (s₁.setTop (mkF m 7 #[.val (.int xk)] [(.int xk)]))
  obtain ⟨T1, X1, e1, st1⟩ := getS2 X0 hx hZ hown (host := "") (Or.inl (hw _ (List.mem_of_getElem? (i := 33) rfl))) Via.refl e0 s1 (g := (mkF m 7 #[.val (.int xk)] [(.int xk)])) rfl (hb hby own_d_jdk_33_22_7)
  refine own_Go.st st1 ?_
  show own_Go p e below _ (T1.setTop (mkF m 10 #[.val (.int xk)] [(.int (127 : Int32)), (.int xk)]))
  refine own_Go.st (fun _ kt => XS.icmpNo X1.here hx rfl (hb hby own_d_jdk_33_22_10) rfl (flt hk2).2.2.1 kt) ?_
  show own_Go p e below _ (T1.setTop (mkF m 13 #[.val (.int xk)] []))
  obtain ⟨T2, X2, e2, st2⟩ := getS2 X1 hx hZ hown (host := "") (Or.inl (hw _ (List.mem_of_getElem? (i := 35) rfl))) Via.refl e1 s2 (g := (mkF m 13 #[.val (.int xk)] [])) rfl (hb hby own_d_jdk_33_22_13)
  refine own_Go.st st2 ?_
  show own_Go p e below _ (T2.setTop (mkF m 16 #[.val (.int xk)] [(.ref rc)]))
  refine own_Go.st (fun _ kt => XS.iloadN X2.here hx rfl (hb hby own_d_jdk_33_22_16) rfl kt) ?_
  show own_Go p e below _ (T2.setTop (mkF m 17 #[.val (.int xk)] [(.int xk), (.ref rc)]))
  refine own_Go.st (fun _ kt => XS.sipush X2.here hx rfl (hb hby own_d_jdk_33_22_17) kt) ?_
  show own_Go p e below _ (T2.setTop (mkF m 20 #[.val (.int xk)] [(.int (128 : Int32)), (.int xk), (.ref rc)]))
  refine own_Go.st (fun _ kt => XS.iadd X2.here hx rfl (hb hby own_d_jdk_33_22_20) rfl kt) ?_
  show own_Go p e below _ (T2.setTop (mkF m 21 #[.val (.int xk)] [(.int (xk + (128 : Int32))), (.ref rc)]))
  obtain ⟨y, ey, sty⟩ := own_cld X2 hx hZ e2 ic hk3 hk4 (g := (mkF m 21 #[.val (.int xk)] [(.int (xk + (128 : Int32))), (.ref rc)])) rfl rfl (hb hby own_d_jdk_33_22_21)
  refine own_Go.st sty ?_
  show own_Go p e below _ (T2.setTop (mkF m 22 #[.val (.int xk)] [(.ref y)]))
  exact own_retA X2 hx Bd.notSynchronized Bd.returns rfl rfl (hb hby own_d_jdk_33_22_22) (by decide) (by decide) ⟨_, rfl, N0, ey, e2⟩
theorem own_ef14 (m : MethodId) (x0 : Int64) (x1 : Int64) (x2 : Int64) (x3 : Int32) : entryFrame m #[(.long x0), (.long x1), (.long x2), (.int x3)] maxLocals = mkF m 0 #[.val (.long x0), .second, .val (.long x1), .second, .val (.long x2), .second, .val (.int x3), .unset, .unset, .unset, .unset, .unset, .unset, .unset, .unset, .unset, .unset, .unset, .unset, .unset, .unset, .unset] [] := by first | (simp [entryFrame, mkF, argsToLocals, Value.category, maxLocals]; done) | rfl
theorem own_pd5 : parseMethodDescriptor "(I)Ljava/lang/Integer;" = some ⟨[.int], some (.object "java/lang/Integer")⟩ := by decide +kernel
theorem own_pd6 : parseMethodDescriptor "(JLjava/lang/Object;)Ljava/lang/Object;" = some ⟨[.long, (.object "java/lang/Object")], some (.object "java/lang/Object")⟩ := by decide +kernel
theorem own_pd7 : parseMethodDescriptor "()[J" = some ⟨[], some (.array .long)⟩ := by decide +kernel
theorem own_pd8 : parseMethodDescriptor "([JJ)Z" = some ⟨[(.array .long), .long], some .boolean⟩ := by decide +kernel
theorem own_pd9 : parseMethodDescriptor "(J)Ljava/lang/Object;" = some ⟨[.long], some (.object "java/lang/Object")⟩ := by decide +kernel
def own_Q_own_law (Z : State) (p0 p1 p2 : Int64) (p3 : Int32) (rc : Addr) (h0 : Heap) (n0 : Nat) (v : Option Value) (h : Heap) (L : List Loc) : Prop := v = some (.int 1) ∧ Fr n0 L
set_option maxRecDepth 65536 in
set_option maxHeartbeats 40000000 in
theorem own_law (l : Launch) (Z : State) (a0 : Array Value) (hw : ∀ d ∈ tables_1, d.before a0 Z = true) (ws : List Jvm.Cond) (p0 p1 p2 : Int64) (p3 : Int32) (rc : Addr) (h0 : Heap) (n0 : Nat) (Z0 : n0 ≤ h0.size) (s1 : Sta Z h0 "java/lang/Integer$IntegerCache" "high" "I" (.int 127)) (s2 : Sta Z h0 "java/lang/Integer$IntegerCache" "cache" "[Ljava/lang/Integer;" (.ref rc)) (ic : own_Ic Z h0 rc) :
    MetFree l x (head1 (Jvm.Cond.code x code maxLocals ret :: ws) room_1) (fun av_ U => av_ = #[(.long p0), (.long p1), (.long p2), (.int p3)] ∧ Z.Warmed39 U.vm ∧ U.heap = h0) (fun _ _ _ _ _ => True) (fun _ U o U' => ∃ v L, o = .returned v ∧ own_Q_own_law Z p0 p1 p2 p3 rc h0 n0 v U'.heap L ∧ FrameEnd U o U' L room_1.cells room_1.slots) := by
  refine MetFree.of_bodySF (plainFor_of_name own_pn4) hisR ?_
  intro p e s m args below meth c s₁ Bd hml0 hP hK
  obtain ⟨rfl, hZ, hh⟩ := hP
  have hx := Bd.exec
  have hby := Bd.bytes
  have hml : c.maxLocals = 22 := hml0
  have hown : s.vm.findClass "com/example/thicket/thicket/PageMapPagesPinLaw" = some m.cls := findClass_of_methodNamed Bd.named
  have hnm := (name_of_methodNamed Bd.named Bd.method).1
  have X0 : Stand p l e room_1 s m #[(.long p0), (.long p1), (.long p2), (.int p3)] below meth c s₁ [] 0 0 := Stand.of_body Bd
  have e0 : s₁.heap = h0 := by rw [← hh, Bd.state]; rfl
  have N0 := Fr.nil n0
  suffices hgo : own_Go p e below (fun o U' => ∃ v L, o = .returned v ∧ own_Q_own_law Z p0 p1 p2 p3 rc h0 n0 v U'.heap L ∧ FrameEnd s o U' L room_1.cells room_1.slots) (s₁.setTop (mkF m 0 #[.val (.long p0), .second, .val (.long p1), .second, .val (.long p2), .second, .val (.int p3), .unset, .unset, .unset, .unset, .unset, .unset, .unset, .unset, .unset, .unset, .unset, .unset, .unset, .unset, .unset] [])) by
    obtain ⟨s₂, o, h1, h2, h3, h4⟩ := hgo
    exact ⟨s₂, o, castTop (own_ef14 m p0 p1 p2 p3) h1, h2, h3, h4⟩
  show own_Go p e below _ (s₁.setTop (mkF m 0 #[.val (.long p0), .second, .val (.long p1), .second, .val (.long p2), .second, .val (.int p3), .unset, .unset, .unset, .unset, .unset, .unset, .unset, .unset, .unset, .unset, .unset, .unset, .unset, .unset, .unset] []))
  refine own_Go.st (fun _ kt => XS.lloadN X0.here hx rfl (hb hby at_0) rfl kt) ?_
  show own_Go p e below _ (s₁.setTop (mkF m 1 #[.val (.long p0), .second, .val (.long p1), .second, .val (.long p2), .second, .val (.int p3), .unset, .unset, .unset, .unset, .unset, .unset, .unset, .unset, .unset, .unset, .unset, .unset, .unset, .unset, .unset] [(.long p0)]))
  refine own_Go.st (fun _ kt => X0.ldc2J hx hown (mvT hZ (hw _ (List.mem_of_getElem? (i := 0) rfl))) rfl (hb hby at_1) kt) ?_
  show own_Go p e below _ (s₁.setTop (mkF m 4 #[.val (.long p0), .second, .val (.long p1), .second, .val (.long p2), .second, .val (.int p3), .unset, .unset, .unset, .unset, .unset, .unset, .unset, .unset, .unset, .unset, .unset, .unset, .unset, .unset, .unset] [(.long (9223372036854775807 : Int64)), (.long p0)]))
  refine own_Go.st (fun _ kt => XS.land X0.here hx rfl (hb hby at_4) rfl kt) ?_
  show own_Go p e below _ (s₁.setTop (mkF m 5 #[.val (.long p0), .second, .val (.long p1), .second, .val (.long p2), .second, .val (.int p3), .unset, .unset, .unset, .unset, .unset, .unset, .unset, .unset, .unset, .unset, .unset, .unset, .unset, .unset, .unset] [(.long (p0 &&& (9223372036854775807 : Int64)))]))
  have hx0 := own_nneg p0
  generalize p0 &&& (9223372036854775807 : Int64) = x0 at hx0 ⊢
  show own_Go p e below _ (s₁.setTop (mkF m 5 #[.val (.long p0), .second, .val (.long p1), .second, .val (.long p2), .second, .val (.int p3), .unset, .unset, .unset, .unset, .unset, .unset, .unset, .unset, .unset, .unset, .unset, .unset, .unset, .unset, .unset] [(.long x0)]))
  refine own_Go.st (fun _ kt => XS.lstore X0.here hx rfl (hb hby at_5) rfl (l' := #[.val (.long p0), .second, .val (.long p1), .second, .val (.long p2), .second, .val (.int p3), .val (.long x0), .second, .unset, .unset, .unset, .unset, .unset, .unset, .unset, .unset, .unset, .unset, .unset, .unset, .unset]) rfl kt) ?_
  show own_Go p e below _ (s₁.setTop (mkF m 7 #[.val (.long p0), .second, .val (.long p1), .second, .val (.long p2), .second, .val (.int p3), .val (.long x0), .second, .unset, .unset, .unset, .unset, .unset, .unset, .unset, .unset, .unset, .unset, .unset, .unset, .unset] []))
  refine own_Go.st (fun _ kt => XS.lloadN X0.here hx rfl (hb hby at_7) rfl kt) ?_
  show own_Go p e below _ (s₁.setTop (mkF m 8 #[.val (.long p0), .second, .val (.long p1), .second, .val (.long p2), .second, .val (.int p3), .val (.long x0), .second, .unset, .unset, .unset, .unset, .unset, .unset, .unset, .unset, .unset, .unset, .unset, .unset, .unset] [(.long p1)]))
  refine own_Go.st (fun _ kt => X0.ldc2J hx hown (mvT hZ (hw _ (List.mem_of_getElem? (i := 0) rfl))) rfl (hb hby at_8) kt) ?_
  show own_Go p e below _ (s₁.setTop (mkF m 11 #[.val (.long p0), .second, .val (.long p1), .second, .val (.long p2), .second, .val (.int p3), .val (.long x0), .second, .unset, .unset, .unset, .unset, .unset, .unset, .unset, .unset, .unset, .unset, .unset, .unset, .unset] [(.long (9223372036854775807 : Int64)), (.long p1)]))
  refine own_Go.st (fun _ kt => XS.land X0.here hx rfl (hb hby at_11) rfl kt) ?_
  show own_Go p e below _ (s₁.setTop (mkF m 12 #[.val (.long p0), .second, .val (.long p1), .second, .val (.long p2), .second, .val (.int p3), .val (.long x0), .second, .unset, .unset, .unset, .unset, .unset, .unset, .unset, .unset, .unset, .unset, .unset, .unset, .unset] [(.long (p1 &&& (9223372036854775807 : Int64)))]))
  have hx1 := own_nneg p1
  generalize p1 &&& (9223372036854775807 : Int64) = x1 at hx1 ⊢
  show own_Go p e below _ (s₁.setTop (mkF m 12 #[.val (.long p0), .second, .val (.long p1), .second, .val (.long p2), .second, .val (.int p3), .val (.long x0), .second, .unset, .unset, .unset, .unset, .unset, .unset, .unset, .unset, .unset, .unset, .unset, .unset, .unset] [(.long x1)]))
  refine own_Go.st (fun _ kt => XS.lstore X0.here hx rfl (hb hby at_12) rfl (l' := #[.val (.long p0), .second, .val (.long p1), .second, .val (.long p2), .second, .val (.int p3), .val (.long x0), .second, .val (.long x1), .second, .unset, .unset, .unset, .unset, .unset, .unset, .unset, .unset, .unset, .unset, .unset]) rfl kt) ?_
  show own_Go p e below _ (s₁.setTop (mkF m 14 #[.val (.long p0), .second, .val (.long p1), .second, .val (.long p2), .second, .val (.int p3), .val (.long x0), .second, .val (.long x1), .second, .unset, .unset, .unset, .unset, .unset, .unset, .unset, .unset, .unset, .unset, .unset] []))
  refine own_Go.st (fun _ kt => XS.lload X0.here hx rfl (hb hby at_14) rfl kt) ?_
  show own_Go p e below _ (s₁.setTop (mkF m 16 #[.val (.long p0), .second, .val (.long p1), .second, .val (.long p2), .second, .val (.int p3), .val (.long x0), .second, .val (.long x1), .second, .unset, .unset, .unset, .unset, .unset, .unset, .unset, .unset, .unset, .unset, .unset] [(.long p2)]))
  refine own_Go.st (fun _ kt => X0.ldc2J hx hown (mvT hZ (hw _ (List.mem_of_getElem? (i := 0) rfl))) rfl (hb hby at_16) kt) ?_
  show own_Go p e below _ (s₁.setTop (mkF m 19 #[.val (.long p0), .second, .val (.long p1), .second, .val (.long p2), .second, .val (.int p3), .val (.long x0), .second, .val (.long x1), .second, .unset, .unset, .unset, .unset, .unset, .unset, .unset, .unset, .unset, .unset, .unset] [(.long (9223372036854775807 : Int64)), (.long p2)]))
  refine own_Go.st (fun _ kt => XS.land X0.here hx rfl (hb hby at_19) rfl kt) ?_
  show own_Go p e below _ (s₁.setTop (mkF m 20 #[.val (.long p0), .second, .val (.long p1), .second, .val (.long p2), .second, .val (.int p3), .val (.long x0), .second, .val (.long x1), .second, .unset, .unset, .unset, .unset, .unset, .unset, .unset, .unset, .unset, .unset, .unset] [(.long (p2 &&& (9223372036854775807 : Int64)))]))
  have hx2 := own_nneg p2
  generalize p2 &&& (9223372036854775807 : Int64) = x2 at hx2 ⊢
  show own_Go p e below _ (s₁.setTop (mkF m 20 #[.val (.long p0), .second, .val (.long p1), .second, .val (.long p2), .second, .val (.int p3), .val (.long x0), .second, .val (.long x1), .second, .unset, .unset, .unset, .unset, .unset, .unset, .unset, .unset, .unset, .unset, .unset] [(.long x2)]))
  refine own_Go.st (fun _ kt => XS.lstore X0.here hx rfl (hb hby at_20) rfl (l' := #[.val (.long p0), .second, .val (.long p1), .second, .val (.long p2), .second, .val (.int p3), .val (.long x0), .second, .val (.long x1), .second, .val (.long x2), .second, .unset, .unset, .unset, .unset, .unset, .unset, .unset, .unset, .unset]) rfl kt) ?_
  show own_Go p e below _ (s₁.setTop (mkF m 22 #[.val (.long p0), .second, .val (.long p1), .second, .val (.long p2), .second, .val (.int p3), .val (.long x0), .second, .val (.long x1), .second, .val (.long x2), .second, .unset, .unset, .unset, .unset, .unset, .unset, .unset, .unset, .unset] []))
  refine own_Go.st (fun _ kt => XS.iload X0.here hx rfl (hb hby at_22) rfl kt) ?_
  show own_Go p e below _ (s₁.setTop (mkF m 24 #[.val (.long p0), .second, .val (.long p1), .second, .val (.long p2), .second, .val (.int p3), .val (.long x0), .second, .val (.long x1), .second, .val (.long x2), .second, .unset, .unset, .unset, .unset, .unset, .unset, .unset, .unset, .unset] [(.int p3)]))
  refine own_Go.st (fun _ kt => XS.iconst X0.here hx rfl (hb hby at_24) kt) ?_
  show own_Go p e below _ (s₁.setTop (mkF m 25 #[.val (.long p0), .second, .val (.long p1), .second, .val (.long p2), .second, .val (.int p3), .val (.long x0), .second, .val (.long x1), .second, .val (.long x2), .second, .unset, .unset, .unset, .unset, .unset, .unset, .unset, .unset, .unset] [(.int (1 : Int32)), (.int p3)]))
  refine own_Go.st (fun _ kt => XS.iand X0.here hx rfl (hb hby at_25) rfl kt) ?_
  show own_Go p e below _ (s₁.setTop (mkF m 26 #[.val (.long p0), .second, .val (.long p1), .second, .val (.long p2), .second, .val (.int p3), .val (.long x0), .second, .val (.long x1), .second, .val (.long x2), .second, .unset, .unset, .unset, .unset, .unset, .unset, .unset, .unset, .unset] [(.int (p3 &&& (1 : Int32)))]))
  have J90 : ∀ (T1 : State) (lc1 : List Loc) (X1 : Stand p l e room_1 s m #[(.long p0), (.long p1), (.long p2), (.int p3)] below meth c T1 lc1 0 0) (e1 : T1.heap = h0) (N1 : Fr n0 lc1) (y1 : Int64) (hy1 : y1 ≠ -1) (y2 : Int64) (hy2 : y2 ≠ -1) (xr : Int32) (hr : xr = 0 ∨ xr = 1) (xt : Int64) (ht : xt = x0 ∨ xt = y2), own_Go p e below (fun o U' => ∃ v L, o = .returned v ∧ own_Q_own_law Z p0 p1 p2 p3 rc h0 n0 v U'.heap L ∧ FrameEnd s o U' L room_1.cells room_1.slots) (T1.setTop (mkF m 90 #[.val (.long p0), .second, .val (.long p1), .second, .val (.long p2), .second, .val (.int p3), .val (.long x0), .second, .val (.long y1), .second, .val (.long y2), .second, .val (.int xr), .val (.long xt), .second, .unset, .unset, .unset, .unset, .unset, .unset] [])) := by
    intro T1 lc1 X1 e1 N1 y1 hy1 y2 hy2 xr hr xt ht
    show own_Go p e below _ (T1.setTop (mkF m 90 #[.val (.long p0), .second, .val (.long p1), .second, .val (.long p2), .second, .val (.int p3), .val (.long x0), .second, .val (.long y1), .second, .val (.long y2), .second, .val (.int xr), .val (.long xt), .second, .unset, .unset, .unset, .unset, .unset, .unset] []))
    obtain ⟨T2, h2, X2, e2, E2, A2, D2, U2, st2⟩ := newO X1 hx hZ hown (hw _ (List.mem_of_getElem? (i := 1) rfl)) (hw _ (List.mem_of_getElem? (i := 2) rfl)) (hw _ (List.mem_of_getElem? (i := 3) rfl)) e1 (g := (mkF m 90 #[.val (.long p0), .second, .val (.long p1), .second, .val (.long p2), .second, .val (.int p3), .val (.long x0), .second, .val (.long y1), .second, .val (.long y2), .second, .val (.int xr), .val (.long xt), .second, .unset, .unset, .unset, .unset, .unset, .unset] [])) rfl (hb hby at_90) (by decide) (by decide)
    obtain ⟨ob, g2⟩ : ∃ z, z = Array.size h0 := ⟨_, rfl⟩
    rw [← g2] at A2 D2 U2 st2
    refine own_Go.st st2 ?_
    have ne_rc_ob : rc ≠ ob := Nat.ne_of_lt (Nat.lt_of_lt_of_le (ic).lt (Nat.le_of_eq g2.symm))
    have n0_ob : n0 ≤ ob := Nat.le_trans Z0 (Nat.le_of_eq g2.symm)
    have zz3 : n0 ≤ Array.size h2 := Nat.le_trans Z0 E2.1
    have D2_pages : Fld Z h2 ob "com/example/thicket/thicket/PageMap" "pages" "[J" .null := D2 (Or.inl (hw _ (List.mem_of_getElem? (i := 17) rfl))) (ty := (.array .long)) (by decide)
    have D2_values : Fld Z h2 ob "com/example/thicket/thicket/PageMap" "values" "[Ljava/lang/Object;" .null := D2 (Or.inl (hw _ (List.mem_of_getElem? (i := 26) rfl))) (ty := (.array (.object "java/lang/Object"))) (by decide)
    have D2_size : Fld Z h2 ob "com/example/thicket/thicket/PageMap" "size" "I" (.int 0) := D2 (Or.inl (hw _ (List.mem_of_getElem? (i := 28) rfl))) (ty := .int) (by decide)
    show own_Go p e below _ (T2.setTop (mkF m 93 #[.val (.long p0), .second, .val (.long p1), .second, .val (.long p2), .second, .val (.int p3), .val (.long x0), .second, .val (.long y1), .second, .val (.long y2), .second, .val (.int xr), .val (.long xt), .second, .unset, .unset, .unset, .unset, .unset, .unset] [(.ref ob)]))
    refine own_Go.st (fun _ kt => XS.dup X2.here hx rfl (hb hby at_93) rfl rfl kt) ?_
    show own_Go p e below _ (T2.setTop (mkF m 94 #[.val (.long p0), .second, .val (.long p1), .second, .val (.long p2), .second, .val (.int p3), .val (.long x0), .second, .val (.long y1), .second, .val (.long y2), .second, .val (.int xr), .val (.long xt), .second, .unset, .unset, .unset, .unset, .unset, .unset] [(.ref ob), (.ref ob)]))
    have f4 := (ic.ext E2)
    have rclt := own_Ic.lt f4
    obtain ⟨_, _, ⟨T5, L5, k5, n5⟩, -, X5, ⟨Lc5, hQ5, l5, y5, z5⟩, st5⟩ := X2.specialBack hx (y := (⟨"com/example/thicket/thicket/PageMap", "<init>", "()V"⟩ : MethodName)) rfl hown (mvT hZ (hw _ (List.mem_of_getElem? (i := 4) rfl))) (mvT hZ (hw _ (List.mem_of_getElem? (i := 5) rfl))) (mvT hZ (hw _ (List.mem_of_getElem? (i := 6) rfl))) (by decide) (backOf (W := 1) (own_init l Z a0 hw [] ob h2 n0 zz3 A2 D2_pages D2_values D2_size n0_ob) hZ (hw _ (List.mem_of_getElem? (i := 6) rfl)) (hw _ (List.mem_of_getElem? (i := 3) rfl)) (by decide) (by decide)) (g := (mkF m 94 #[.val (.long p0), .second, .val (.long p1), .second, .val (.long p2), .second, .val (.int p3), .val (.long x0), .second, .val (.long y1), .second, .val (.long y2), .second, .val (.int xr), .val (.long xt), .second, .unset, .unset, .unset, .unset, .unset, .unset] [(.ref ob), (.ref ob)])) rfl (by rw [hml]; rfl) (Steps.refl _) (a := ob) (argsL := []) (rest := [(.ref ob)]) (lenOf own_pd3 rfl) rfl (by show 2 * 0 + _ ≤ _; exact Nat.le_of_eq rfl) (hb hby at_94) (fun _ _ => ⟨rfl, e2, (by decide : 1 + 2 ≤ _), (by decide : 3 + 32 ≤ _)⟩)
    dsimp only [Pt.U, Pt.locs, Pt.cells, Pt.slots] at X5 l5 y5 z5 st5 hQ5
    subst l5 y5 z5
    obtain ⟨rp, rv, rfl, N5q, hp5, b15, b25, KF5⟩ := hQ5
    have N5 := Fr.app N1 N5q
    refine own_Go.st (fun _ kt => st5.trans kt) ?_
    have zz6 : n0 ≤ Array.size T5.heap := Nat.le_trans zz3 KF5.1
    show own_Go p e below _ (T5.setTop (mkF m 97 #[.val (.long p0), .second, .val (.long p1), .second, .val (.long p2), .second, .val (.int p3), .val (.long x0), .second, .val (.long y1), .second, .val (.long y2), .second, .val (.int xr), .val (.long xt), .second, .unset, .unset, .unset, .unset, .unset, .unset] [(.ref ob)]))
    have ner1 : rc ≠ rp := Nat.ne_of_lt (Nat.lt_of_lt_of_le rclt b15)
    have ner2 : rc ≠ rv := Nat.ne_of_lt (Nat.lt_of_lt_of_le rclt b25)
    refine own_Go.st (fun _ kt => XS.astore X5.here hx rfl (hb hby at_97) rfl rfl (l' := #[.val (.long p0), .second, .val (.long p1), .second, .val (.long p2), .second, .val (.int p3), .val (.long x0), .second, .val (.long y1), .second, .val (.long y2), .second, .val (.int xr), .val (.long xt), .second, .val (.ref ob), .unset, .unset, .unset, .unset, .unset]) rfl kt) ?_
    show own_Go p e below _ (T5.setTop (mkF m 99 #[.val (.long p0), .second, .val (.long p1), .second, .val (.long p2), .second, .val (.int p3), .val (.long x0), .second, .val (.long y1), .second, .val (.long y2), .second, .val (.int xr), .val (.long xt), .second, .val (.ref ob), .unset, .unset, .unset, .unset, .unset] []))
    refine own_Go.st (fun _ kt => XS.aload X5.here hx rfl (hb hby at_99) rfl rfl kt) ?_
    show own_Go p e below _ (T5.setTop (mkF m 101 #[.val (.long p0), .second, .val (.long p1), .second, .val (.long p2), .second, .val (.int p3), .val (.long x0), .second, .val (.long y1), .second, .val (.long y2), .second, .val (.int xr), .val (.long xt), .second, .val (.ref ob), .unset, .unset, .unset, .unset, .unset] [(.ref ob)]))
    refine own_Go.st (fun _ kt => XS.lload X5.here hx rfl (hb hby at_101) rfl kt) ?_
    show own_Go p e below _ (T5.setTop (mkF m 103 #[.val (.long p0), .second, .val (.long p1), .second, .val (.long p2), .second, .val (.int p3), .val (.long x0), .second, .val (.long y1), .second, .val (.long y2), .second, .val (.int xr), .val (.long xt), .second, .val (.ref ob), .unset, .unset, .unset, .unset, .unset] [(.long x0), (.ref ob)]))
    refine own_Go.st (fun _ kt => XS.iconst X5.here hx rfl (hb hby at_103) kt) ?_
    show own_Go p e below _ (T5.setTop (mkF m 104 #[.val (.long p0), .second, .val (.long p1), .second, .val (.long p2), .second, .val (.int p3), .val (.long x0), .second, .val (.long y1), .second, .val (.long y2), .second, .val (.int xr), .val (.long xt), .second, .val (.ref ob), .unset, .unset, .unset, .unset, .unset] [(.int (0 : Int32)), (.long x0), (.ref ob)]))
    have f7 := (own_stakeep (s1.ext E2) KF5 (own_nostat1 A2))
    have f8 := (own_stakeep (s2.ext E2) KF5 (own_nostat1 A2))
    have f9 := (f4.keep KF5 (ninS ne_rc_ob nin0))
    obtain ⟨_, _, ⟨T10, L10, k10, n10⟩, -, X10, ⟨Lc10, hQ10, l10, y10, z10⟩, st10⟩ := Jvm.LawKit.callS X5 hx (y := (⟨"java/lang/Integer", "valueOf", "(I)Ljava/lang/Integer;"⟩ : MethodName)) hown (mvT hZ (hw _ (List.mem_of_getElem? (i := 29) rfl))) (mvT hZ (hw _ (List.mem_of_getElem? (i := 30) rfl))) (mvT hZ (hw _ (List.mem_of_getElem? (i := 31) rfl))) (mvT hZ (hw _ (List.mem_of_getElem? (i := 32) rfl))) (by decide) (backOf (W := 3) (own_valueOf l Z a0 hw [] (0 : Int32) rc T5.heap n0 zz6 f7 f8 f9 (by decide)) hZ (hw _ (List.mem_of_getElem? (i := 32) rfl)) (hw _ (List.mem_of_getElem? (i := 31) rfl)) (by decide) (by decide)) (g := (mkF m 104 #[.val (.long p0), .second, .val (.long p1), .second, .val (.long p2), .second, .val (.int p3), .val (.long x0), .second, .val (.long y1), .second, .val (.long y2), .second, .val (.int xr), .val (.long xt), .second, .val (.ref ob), .unset, .unset, .unset, .unset, .unset] [(.int (0 : Int32)), (.long x0), (.ref ob)])) rfl (by rw [hml]; rfl) (argsL := [(.int (0 : Int32))]) (rest := [(.long x0), (.ref ob)]) (lenOf own_pd5 rfl) rfl (by show 2 * 0 + _ ≤ _; exact Nat.le_of_eq rfl) (hb hby at_104) (fun _ _ => ⟨rfl, rfl, (by decide : 3 + 0 ≤ _), (by decide : 35 + 0 ≤ _)⟩)
    dsimp only [Pt.U, Pt.locs, Pt.cells, Pt.slots] at X10 l10 y10 z10 st10 hQ10
    subst l10 y10 z10
    obtain ⟨yy0, rfl, N10q, ey10, hh10⟩ := hQ10
    have N10 := Fr.app N5 N10q
    refine own_Go.st (fun _ kt => st10 _ kt) ?_
    show own_Go p e below _ (T10.setTop (mkF m 107 #[.val (.long p0), .second, .val (.long p1), .second, .val (.long p2), .second, .val (.int p3), .val (.long x0), .second, .val (.long y1), .second, .val (.long y2), .second, .val (.int xr), .val (.long xt), .second, .val (.ref ob), .unset, .unset, .unset, .unset, .unset] [(.ref yy0), (.long x0), (.ref ob)]))
    obtain ⟨cq11, kq11, q11a, q11b, q11c⟩ := isOf hZ hh10 hp5.1
    obtain ⟨_, _, ⟨T11, L11, k11, n11⟩, -, X11, ⟨Lc11, hQ11, l11, y11, z11⟩, st11⟩ := X10.virtualBack hx (y := (⟨"com/example/thicket/thicket/PageMap", "put", "(JLjava/lang/Object;)Ljava/lang/Object;"⟩ : MethodName)) (z := (⟨"com/example/thicket/thicket/PageMap", "put", "(JLjava/lang/Object;)Ljava/lang/Object;"⟩ : MethodName)) hown (mvT hZ (hw _ (List.mem_of_getElem? (i := 36) rfl))) (mvT hZ (hw _ (List.mem_of_getElem? (i := 37) rfl))) (notFace_of_selects (args := #[]) (mvT hZ (hw _ (List.mem_of_getElem? (i := 39) rfl)))) (mvT hZ (hw _ (List.mem_of_getElem? (i := 39) rfl))) (mvT hZ (hw _ (List.mem_of_getElem? (i := 38) rfl))) (by decide) (backOf (W := 0) (own_put l Z a0 hw [] ob x0 yy0 rp rv (fun _ => (-1 : Int64)) (0 : Int32) [] T5.heap n0 zz6 hp5 own_St_nil (by decide) (by decide) hx0 ey10) hZ (hw _ (List.mem_of_getElem? (i := 40) rfl)) (hw _ (List.mem_of_getElem? (i := 3) rfl)) (by decide) (by decide)) q11a q11c (g := (mkF m 107 #[.val (.long p0), .second, .val (.long p1), .second, .val (.long p2), .second, .val (.int p3), .val (.long x0), .second, .val (.long y1), .second, .val (.long y2), .second, .val (.int xr), .val (.long xt), .second, .val (.ref ob), .unset, .unset, .unset, .unset, .unset] [(.ref yy0), (.long x0), (.ref ob)])) rfl (by rw [hml]; rfl) (Steps.refl _) (argsL := [(.long x0), (.ref yy0)]) (rest := []) (lenOf own_pd6 rfl) rfl (by show 2 * 0 + _ ≤ _; exact Nat.le_of_eq rfl) (hb hby at_107) (fun _ _ => ⟨rfl, hh10, (by decide : 3 + 0 ≤ _), (by decide : 35 + 0 ≤ _)⟩)
    dsimp only [Pt.U, Pt.locs, Pt.cells, Pt.slots] at X11 l11 y11 z11 st11 hQ11
    subst l11 y11 z11
    obtain ⟨u0, f0_, xn0, rfl, N11q, ir11, pm11, st_11, nn11, KF11⟩ := hQ11
    have N11 := Fr.app N10 N11q
    refine own_Go.st (fun _ kt => st11.trans kt) ?_
    have zz12 : n0 ≤ Array.size T11.heap := Nat.le_trans zz6 KF11.1
    show own_Go p e below _ (T11.setTop (mkF m 110 #[.val (.long p0), .second, .val (.long p1), .second, .val (.long p2), .second, .val (.int p3), .val (.long x0), .second, .val (.long y1), .second, .val (.long y2), .second, .val (.int xr), .val (.long xt), .second, .val (.ref ob), .unset, .unset, .unset, .unset, .unset] [u0]))
    refine own_Go.st (fun _ kt => XS.pop X11.here hx rfl (hb hby at_110) rfl (own_cat ir11) kt) ?_
    show own_Go p e below _ (T11.setTop (mkF m 111 #[.val (.long p0), .second, .val (.long p1), .second, .val (.long p2), .second, .val (.int p3), .val (.long x0), .second, .val (.long y1), .second, .val (.long y2), .second, .val (.int xr), .val (.long xt), .second, .val (.ref ob), .unset, .unset, .unset, .unset, .unset] []))
    refine own_Go.st (fun _ kt => XS.aload X11.here hx rfl (hb hby at_111) rfl rfl kt) ?_
    show own_Go p e below _ (T11.setTop (mkF m 113 #[.val (.long p0), .second, .val (.long p1), .second, .val (.long p2), .second, .val (.int p3), .val (.long x0), .second, .val (.long y1), .second, .val (.long y2), .second, .val (.int xr), .val (.long xt), .second, .val (.ref ob), .unset, .unset, .unset, .unset, .unset] [(.ref ob)]))
    refine own_Go.st (fun _ kt => XS.lload X11.here hx rfl (hb hby at_113) rfl kt) ?_
    show own_Go p e below _ (T11.setTop (mkF m 115 #[.val (.long p0), .second, .val (.long p1), .second, .val (.long p2), .second, .val (.int p3), .val (.long x0), .second, .val (.long y1), .second, .val (.long y2), .second, .val (.int xr), .val (.long xt), .second, .val (.ref ob), .unset, .unset, .unset, .unset, .unset] [(.long y1), (.ref ob)]))
    refine own_Go.st (fun _ kt => XS.iconst X11.here hx rfl (hb hby at_115) kt) ?_
    show own_Go p e below _ (T11.setTop (mkF m 116 #[.val (.long p0), .second, .val (.long p1), .second, .val (.long p2), .second, .val (.int p3), .val (.long x0), .second, .val (.long y1), .second, .val (.long y2), .second, .val (.int xr), .val (.long xt), .second, .val (.ref ob), .unset, .unset, .unset, .unset, .unset] [(.int (1 : Int32)), (.long y1), (.ref ob)]))
    have f13 := (own_stakeep f7 KF11 (own_PM.nostat hp5))
    have f14 := (own_stakeep f8 KF11 (own_PM.nostat hp5))
    have f15 := (f9.keep KF11 (ninS ne_rc_ob (ninS ner1 (ninS ner2 nin0))))
    obtain ⟨_, _, ⟨T16, L16, k16, n16⟩, -, X16, ⟨Lc16, hQ16, l16, y16, z16⟩, st16⟩ := Jvm.LawKit.callS X11 hx (y := (⟨"java/lang/Integer", "valueOf", "(I)Ljava/lang/Integer;"⟩ : MethodName)) hown (mvT hZ (hw _ (List.mem_of_getElem? (i := 29) rfl))) (mvT hZ (hw _ (List.mem_of_getElem? (i := 30) rfl))) (mvT hZ (hw _ (List.mem_of_getElem? (i := 31) rfl))) (mvT hZ (hw _ (List.mem_of_getElem? (i := 32) rfl))) (by decide) (backOf (W := 3) (own_valueOf l Z a0 hw [] (1 : Int32) rc T11.heap n0 zz12 f13 f14 f15 (by decide)) hZ (hw _ (List.mem_of_getElem? (i := 32) rfl)) (hw _ (List.mem_of_getElem? (i := 31) rfl)) (by decide) (by decide)) (g := (mkF m 116 #[.val (.long p0), .second, .val (.long p1), .second, .val (.long p2), .second, .val (.int p3), .val (.long x0), .second, .val (.long y1), .second, .val (.long y2), .second, .val (.int xr), .val (.long xt), .second, .val (.ref ob), .unset, .unset, .unset, .unset, .unset] [(.int (1 : Int32)), (.long y1), (.ref ob)])) rfl (by rw [hml]; rfl) (argsL := [(.int (1 : Int32))]) (rest := [(.long y1), (.ref ob)]) (lenOf own_pd5 rfl) rfl (by show 2 * 0 + _ ≤ _; exact Nat.le_of_eq rfl) (hb hby at_116) (fun _ _ => ⟨rfl, rfl, (by decide : 3 + 0 ≤ _), (by decide : 35 + 0 ≤ _)⟩)
    dsimp only [Pt.U, Pt.locs, Pt.cells, Pt.slots] at X16 l16 y16 z16 st16 hQ16
    subst l16 y16 z16
    obtain ⟨yy1, rfl, N16q, ey16, hh16⟩ := hQ16
    have N16 := Fr.app N11 N16q
    refine own_Go.st (fun _ kt => st16 _ kt) ?_
    show own_Go p e below _ (T16.setTop (mkF m 119 #[.val (.long p0), .second, .val (.long p1), .second, .val (.long p2), .second, .val (.int p3), .val (.long x0), .second, .val (.long y1), .second, .val (.long y2), .second, .val (.int xr), .val (.long xt), .second, .val (.ref ob), .unset, .unset, .unset, .unset, .unset] [(.ref yy1), (.long y1), (.ref ob)]))
    obtain ⟨cq17, kq17, q17a, q17b, q17c⟩ := isOf hZ hh16 pm11.1
    obtain ⟨_, _, ⟨T17, L17, k17, n17⟩, -, X17, ⟨Lc17, hQ17, l17, y17, z17⟩, st17⟩ := X16.virtualBack hx (y := (⟨"com/example/thicket/thicket/PageMap", "put", "(JLjava/lang/Object;)Ljava/lang/Object;"⟩ : MethodName)) (z := (⟨"com/example/thicket/thicket/PageMap", "put", "(JLjava/lang/Object;)Ljava/lang/Object;"⟩ : MethodName)) hown (mvT hZ (hw _ (List.mem_of_getElem? (i := 36) rfl))) (mvT hZ (hw _ (List.mem_of_getElem? (i := 37) rfl))) (notFace_of_selects (args := #[]) (mvT hZ (hw _ (List.mem_of_getElem? (i := 39) rfl)))) (mvT hZ (hw _ (List.mem_of_getElem? (i := 39) rfl))) (mvT hZ (hw _ (List.mem_of_getElem? (i := 38) rfl))) (by decide) (backOf (W := 0) (own_put l Z a0 hw [] ob y1 yy1 rp rv f0_ xn0 (own_putl [] x0) T11.heap n0 zz12 pm11 st_11 nn11 (Nat.le_trans (own_putl_len _ _) (by decide)) hy1 ey16) hZ (hw _ (List.mem_of_getElem? (i := 40) rfl)) (hw _ (List.mem_of_getElem? (i := 3) rfl)) (by decide) (by decide)) q17a q17c (g := (mkF m 119 #[.val (.long p0), .second, .val (.long p1), .second, .val (.long p2), .second, .val (.int p3), .val (.long x0), .second, .val (.long y1), .second, .val (.long y2), .second, .val (.int xr), .val (.long xt), .second, .val (.ref ob), .unset, .unset, .unset, .unset, .unset] [(.ref yy1), (.long y1), (.ref ob)])) rfl (by rw [hml]; rfl) (Steps.refl _) (argsL := [(.long y1), (.ref yy1)]) (rest := []) (lenOf own_pd6 rfl) rfl (by show 2 * 0 + _ ≤ _; exact Nat.le_of_eq rfl) (hb hby at_119) (fun _ _ => ⟨rfl, hh16, (by decide : 3 + 0 ≤ _), (by decide : 35 + 0 ≤ _)⟩)
    dsimp only [Pt.U, Pt.locs, Pt.cells, Pt.slots] at X17 l17 y17 z17 st17 hQ17
    subst l17 y17 z17
    obtain ⟨u1, f1_, xn1, rfl, N17q, ir17, pm17, st_17, nn17, KF17⟩ := hQ17
    have N17 := Fr.app N16 N17q
    refine own_Go.st (fun _ kt => st17.trans kt) ?_
    have zz18 : n0 ≤ Array.size T17.heap := Nat.le_trans zz12 KF17.1
    show own_Go p e below _ (T17.setTop (mkF m 122 #[.val (.long p0), .second, .val (.long p1), .second, .val (.long p2), .second, .val (.int p3), .val (.long x0), .second, .val (.long y1), .second, .val (.long y2), .second, .val (.int xr), .val (.long xt), .second, .val (.ref ob), .unset, .unset, .unset, .unset, .unset] [u1]))
    refine own_Go.st (fun _ kt => XS.pop X17.here hx rfl (hb hby at_122) rfl (own_cat ir17) kt) ?_
    show own_Go p e below _ (T17.setTop (mkF m 123 #[.val (.long p0), .second, .val (.long p1), .second, .val (.long p2), .second, .val (.int p3), .val (.long x0), .second, .val (.long y1), .second, .val (.long y2), .second, .val (.int xr), .val (.long xt), .second, .val (.ref ob), .unset, .unset, .unset, .unset, .unset] []))
    refine own_Go.st (fun _ kt => XS.aload X17.here hx rfl (hb hby at_123) rfl rfl kt) ?_
    show own_Go p e below _ (T17.setTop (mkF m 125 #[.val (.long p0), .second, .val (.long p1), .second, .val (.long p2), .second, .val (.int p3), .val (.long x0), .second, .val (.long y1), .second, .val (.long y2), .second, .val (.int xr), .val (.long xt), .second, .val (.ref ob), .unset, .unset, .unset, .unset, .unset] [(.ref ob)]))
    refine own_Go.st (fun _ kt => XS.lload X17.here hx rfl (hb hby at_125) rfl kt) ?_
    show own_Go p e below _ (T17.setTop (mkF m 127 #[.val (.long p0), .second, .val (.long p1), .second, .val (.long p2), .second, .val (.int p3), .val (.long x0), .second, .val (.long y1), .second, .val (.long y2), .second, .val (.int xr), .val (.long xt), .second, .val (.ref ob), .unset, .unset, .unset, .unset, .unset] [(.long y2), (.ref ob)]))
    refine own_Go.st (fun _ kt => XS.iconst X17.here hx rfl (hb hby at_127) kt) ?_
    show own_Go p e below _ (T17.setTop (mkF m 128 #[.val (.long p0), .second, .val (.long p1), .second, .val (.long p2), .second, .val (.int p3), .val (.long x0), .second, .val (.long y1), .second, .val (.long y2), .second, .val (.int xr), .val (.long xt), .second, .val (.ref ob), .unset, .unset, .unset, .unset, .unset] [(.int (2 : Int32)), (.long y2), (.ref ob)]))
    have f19 := (own_stakeep f13 KF17 (own_PM.nostat pm11))
    have f20 := (own_stakeep f14 KF17 (own_PM.nostat pm11))
    have f21 := (f15.keep KF17 (ninS ne_rc_ob (ninS ner1 (ninS ner2 nin0))))
    obtain ⟨_, _, ⟨T22, L22, k22, n22⟩, -, X22, ⟨Lc22, hQ22, l22, y22, z22⟩, st22⟩ := Jvm.LawKit.callS X17 hx (y := (⟨"java/lang/Integer", "valueOf", "(I)Ljava/lang/Integer;"⟩ : MethodName)) hown (mvT hZ (hw _ (List.mem_of_getElem? (i := 29) rfl))) (mvT hZ (hw _ (List.mem_of_getElem? (i := 30) rfl))) (mvT hZ (hw _ (List.mem_of_getElem? (i := 31) rfl))) (mvT hZ (hw _ (List.mem_of_getElem? (i := 32) rfl))) (by decide) (backOf (W := 3) (own_valueOf l Z a0 hw [] (2 : Int32) rc T17.heap n0 zz18 f19 f20 f21 (by decide)) hZ (hw _ (List.mem_of_getElem? (i := 32) rfl)) (hw _ (List.mem_of_getElem? (i := 31) rfl)) (by decide) (by decide)) (g := (mkF m 128 #[.val (.long p0), .second, .val (.long p1), .second, .val (.long p2), .second, .val (.int p3), .val (.long x0), .second, .val (.long y1), .second, .val (.long y2), .second, .val (.int xr), .val (.long xt), .second, .val (.ref ob), .unset, .unset, .unset, .unset, .unset] [(.int (2 : Int32)), (.long y2), (.ref ob)])) rfl (by rw [hml]; rfl) (argsL := [(.int (2 : Int32))]) (rest := [(.long y2), (.ref ob)]) (lenOf own_pd5 rfl) rfl (by show 2 * 0 + _ ≤ _; exact Nat.le_of_eq rfl) (hb hby at_128) (fun _ _ => ⟨rfl, rfl, (by decide : 3 + 0 ≤ _), (by decide : 35 + 0 ≤ _)⟩)
    dsimp only [Pt.U, Pt.locs, Pt.cells, Pt.slots] at X22 l22 y22 z22 st22 hQ22
    subst l22 y22 z22
    obtain ⟨yy2, rfl, N22q, ey22, hh22⟩ := hQ22
    have N22 := Fr.app N17 N22q
    refine own_Go.st (fun _ kt => st22 _ kt) ?_
    show own_Go p e below _ (T22.setTop (mkF m 131 #[.val (.long p0), .second, .val (.long p1), .second, .val (.long p2), .second, .val (.int p3), .val (.long x0), .second, .val (.long y1), .second, .val (.long y2), .second, .val (.int xr), .val (.long xt), .second, .val (.ref ob), .unset, .unset, .unset, .unset, .unset] [(.ref yy2), (.long y2), (.ref ob)]))
    obtain ⟨cq23, kq23, q23a, q23b, q23c⟩ := isOf hZ hh22 pm17.1
    obtain ⟨_, _, ⟨T23, L23, k23, n23⟩, -, X23, ⟨Lc23, hQ23, l23, y23, z23⟩, st23⟩ := X22.virtualBack hx (y := (⟨"com/example/thicket/thicket/PageMap", "put", "(JLjava/lang/Object;)Ljava/lang/Object;"⟩ : MethodName)) (z := (⟨"com/example/thicket/thicket/PageMap", "put", "(JLjava/lang/Object;)Ljava/lang/Object;"⟩ : MethodName)) hown (mvT hZ (hw _ (List.mem_of_getElem? (i := 36) rfl))) (mvT hZ (hw _ (List.mem_of_getElem? (i := 37) rfl))) (notFace_of_selects (args := #[]) (mvT hZ (hw _ (List.mem_of_getElem? (i := 39) rfl)))) (mvT hZ (hw _ (List.mem_of_getElem? (i := 39) rfl))) (mvT hZ (hw _ (List.mem_of_getElem? (i := 38) rfl))) (by decide) (backOf (W := 0) (own_put l Z a0 hw [] ob y2 yy2 rp rv f1_ xn1 (own_putl (own_putl [] x0) y1) T17.heap n0 zz18 pm17 st_17 nn17 (Nat.le_trans (own_putl_len _ _) (Nat.succ_le_succ (Nat.le_trans (own_putl_len _ _) (by decide)))) hy2 ey22) hZ (hw _ (List.mem_of_getElem? (i := 40) rfl)) (hw _ (List.mem_of_getElem? (i := 3) rfl)) (by decide) (by decide)) q23a q23c (g := (mkF m 131 #[.val (.long p0), .second, .val (.long p1), .second, .val (.long p2), .second, .val (.int p3), .val (.long x0), .second, .val (.long y1), .second, .val (.long y2), .second, .val (.int xr), .val (.long xt), .second, .val (.ref ob), .unset, .unset, .unset, .unset, .unset] [(.ref yy2), (.long y2), (.ref ob)])) rfl (by rw [hml]; rfl) (Steps.refl _) (argsL := [(.long y2), (.ref yy2)]) (rest := []) (lenOf own_pd6 rfl) rfl (by show 2 * 0 + _ ≤ _; exact Nat.le_of_eq rfl) (hb hby at_131) (fun _ _ => ⟨rfl, hh22, (by decide : 3 + 0 ≤ _), (by decide : 35 + 0 ≤ _)⟩)
    dsimp only [Pt.U, Pt.locs, Pt.cells, Pt.slots] at X23 l23 y23 z23 st23 hQ23
    subst l23 y23 z23
    obtain ⟨u2, f2_, xn2, rfl, N23q, ir23, pm23, st_23, nn23, KF23⟩ := hQ23
    have N23 := Fr.app N22 N23q
    refine own_Go.st (fun _ kt => st23.trans kt) ?_
    have zz24 : n0 ≤ Array.size T23.heap := Nat.le_trans zz18 KF23.1
    show own_Go p e below _ (T23.setTop (mkF m 134 #[.val (.long p0), .second, .val (.long p1), .second, .val (.long p2), .second, .val (.int p3), .val (.long x0), .second, .val (.long y1), .second, .val (.long y2), .second, .val (.int xr), .val (.long xt), .second, .val (.ref ob), .unset, .unset, .unset, .unset, .unset] [u2]))
    have hst : own_St f2_ (own_ls3 x0 y1 y2) := st_23
    have hnn : xn2.toInt = ((own_ls3 x0 y1 y2).length : Int) := nn23
    have hl3 := own_ls3_len x0 y1 y2
    refine own_Go.st (fun _ kt => XS.pop X23.here hx rfl (hb hby at_134) rfl (own_cat ir23) kt) ?_
    show own_Go p e below _ (T23.setTop (mkF m 135 #[.val (.long p0), .second, .val (.long p1), .second, .val (.long p2), .second, .val (.int p3), .val (.long x0), .second, .val (.long y1), .second, .val (.long y2), .second, .val (.int xr), .val (.long xt), .second, .val (.ref ob), .unset, .unset, .unset, .unset, .unset] []))
    refine own_Go.st (fun _ kt => XS.iload X23.here hx rfl (hb hby at_135) rfl kt) ?_
    show own_Go p e below _ (T23.setTop (mkF m 137 #[.val (.long p0), .second, .val (.long p1), .second, .val (.long p2), .second, .val (.int p3), .val (.long x0), .second, .val (.long y1), .second, .val (.long y2), .second, .val (.int xr), .val (.long xt), .second, .val (.ref ob), .unset, .unset, .unset, .unset, .unset] [(.int xr)]))
    rcases hr with rfl | rfl
    · show own_Go p e below _ (T23.setTop (mkF m 137 #[.val (.long p0), .second, .val (.long p1), .second, .val (.long p2), .second, .val (.int p3), .val (.long x0), .second, .val (.long y1), .second, .val (.long y2), .second, .val (.int (0 : Int32)), .val (.long xt), .second, .val (.ref ob), .unset, .unset, .unset, .unset, .unset] [(.int (0 : Int32))]))
      refine own_Go.st (fun _ kt => XS.ifYes X23.here hx rfl (pc0 := 137) (pc' := 148) rfl (hb hby at_137) rfl ((if0 _ _).trans (teq rfl).1) (by decide) (by decide) kt) ?_
      show own_Go p e below _ (T23.setTop (mkF m 148 #[.val (.long p0), .second, .val (.long p1), .second, .val (.long p2), .second, .val (.int p3), .val (.long x0), .second, .val (.long y1), .second, .val (.long y2), .second, .val (.int (0 : Int32)), .val (.long xt), .second, .val (.ref ob), .unset, .unset, .unset, .unset, .unset] []))
      refine own_Go.st (fun _ kt => XS.aload X23.here hx rfl (hb hby at_148) rfl rfl kt) ?_
      show own_Go p e below _ (T23.setTop (mkF m 150 #[.val (.long p0), .second, .val (.long p1), .second, .val (.long p2), .second, .val (.int p3), .val (.long x0), .second, .val (.long y1), .second, .val (.long y2), .second, .val (.int (0 : Int32)), .val (.long xt), .second, .val (.ref ob), .unset, .unset, .unset, .unset, .unset] [(.ref ob)]))
      obtain ⟨cq25, kq25, q25a, q25b, q25c⟩ := isOf hZ rfl pm23.1
      obtain ⟨_, _, ⟨T25, L25, k25, n25⟩, -, X25, ⟨Lc25, hQ25, l25, y25, z25⟩, st25⟩ := X23.virtualBack hx (y := (⟨"com/example/thicket/thicket/PageMap", "pages", "()[J"⟩ : MethodName)) (z := (⟨"com/example/thicket/thicket/PageMap", "pages", "()[J"⟩ : MethodName)) hown (mvT hZ (hw _ (List.mem_of_getElem? (i := 63) rfl))) (mvT hZ (hw _ (List.mem_of_getElem? (i := 64) rfl))) (notFace_of_selects (args := #[]) (mvT hZ (hw _ (List.mem_of_getElem? (i := 66) rfl)))) (mvT hZ (hw _ (List.mem_of_getElem? (i := 66) rfl))) (mvT hZ (hw _ (List.mem_of_getElem? (i := 65) rfl))) (by decide) (backOf (W := 0) (own_pages l Z a0 hw [] ob rp rv f2_ xn2 (own_ls3 x0 y1 y2).length T23.heap n0 zz24 pm23 hst.ct.2 hnn hl3) hZ (hw _ (List.mem_of_getElem? (i := 67) rfl)) (hw _ (List.mem_of_getElem? (i := 3) rfl)) (by decide) (by decide)) q25a q25c (g := (mkF m 150 #[.val (.long p0), .second, .val (.long p1), .second, .val (.long p2), .second, .val (.int p3), .val (.long x0), .second, .val (.long y1), .second, .val (.long y2), .second, .val (.int (0 : Int32)), .val (.long xt), .second, .val (.ref ob), .unset, .unset, .unset, .unset, .unset] [(.ref ob)])) rfl (by rw [hml]; rfl) (Steps.refl _) (argsL := []) (rest := []) (lenOf own_pd7 rfl) rfl (by show 2 * 0 + _ ≤ _; exact Nat.le_of_eq rfl) (hb hby at_150) (fun _ _ => ⟨rfl, rfl, (by decide : 3 + 1 ≤ _), (by decide : 35 + 3 ≤ _)⟩)
      dsimp only [Pt.U, Pt.locs, Pt.cells, Pt.slots] at X25 l25 y25 z25 st25 hQ25
      subst l25 y25 z25
      obtain ⟨ra, rfl, N25q, aa25, KF25⟩ := hQ25
      have N25 := Fr.app N23 N25q
      refine own_Go.st (fun _ kt => st25.trans kt) ?_
      have zz26 : n0 ≤ Array.size T25.heap := Nat.le_trans zz24 KF25.1
      show own_Go p e below _ (T25.setTop (mkF m 153 #[.val (.long p0), .second, .val (.long p1), .second, .val (.long p2), .second, .val (.int p3), .val (.long x0), .second, .val (.long y1), .second, .val (.long y2), .second, .val (.int (0 : Int32)), .val (.long xt), .second, .val (.ref ob), .unset, .unset, .unset, .unset, .unset] [(.ref ra)]))
      have ab : own_Ar Z T25.heap ra .long (own_pgs f2_ 16).length (fun j => .long ((own_pgs f2_ 16).getD j 0)) := by rw [hst.ct.2]; exact aa25
      have al : (own_pgs f2_ 16).length ≤ 3 := by rw [hst.ct.2]; exact hl3
      refine own_Go.st (fun _ kt => XS.astore X25.here hx rfl (hb hby at_153) rfl rfl (l' := #[.val (.long p0), .second, .val (.long p1), .second, .val (.long p2), .second, .val (.int p3), .val (.long x0), .second, .val (.long y1), .second, .val (.long y2), .second, .val (.int (0 : Int32)), .val (.long xt), .second, .val (.ref ob), .val (.ref ra), .unset, .unset, .unset, .unset]) rfl kt) ?_
      show own_Go p e below _ (T25.setTop (mkF m 155 #[.val (.long p0), .second, .val (.long p1), .second, .val (.long p2), .second, .val (.int p3), .val (.long x0), .second, .val (.long y1), .second, .val (.long y2), .second, .val (.int (0 : Int32)), .val (.long xt), .second, .val (.ref ob), .val (.ref ra), .unset, .unset, .unset, .unset] []))
      have J318 : ∀ (T27 : State) (lc27 : List Loc) (X27 : Stand p l e room_1 s m #[(.long p0), (.long p1), (.long p2), (.int p3)] below meth c T27 lc27 4 38) (e27 : T27.heap = T25.heap) (N27 : Fr n0 lc27) (z0 : Int32) (g0 : own_B z0 (True)) (z1 : Int32) (g1 : own_B z1 (y1 ≠ x0)) (z2 : Int32) (g2 : own_B z2 (y2 ≠ x0 ∧ y2 ≠ y1)) (xs : Int32), own_Go p e below (fun o U' => ∃ v L, o = .returned v ∧ own_Q_own_law Z p0 p1 p2 p3 rc h0 n0 v U'.heap L ∧ FrameEnd s o U' L room_1.cells room_1.slots) (T27.setTop (mkF m 318 #[.val (.long p0), .second, .val (.long p1), .second, .val (.long p2), .second, .val (.int p3), .val (.long x0), .second, .val (.long y1), .second, .val (.long y2), .second, .val (.int (0 : Int32)), .val (.long xt), .second, .val (.ref ob), .val (.ref ra), .val (.int z0), .val (.int z1), .val (.int z2), .val (.int xs)] [])) := by
        intro T27 lc27 X27 e27 N27 z0 g0 z1 g1 z2 g2 xs
        show own_Go p e below _ (T27.setTop (mkF m 318 #[.val (.long p0), .second, .val (.long p1), .second, .val (.long p2), .second, .val (.int p3), .val (.long x0), .second, .val (.long y1), .second, .val (.long y2), .second, .val (.int (0 : Int32)), .val (.long xt), .second, .val (.ref ob), .val (.ref ra), .val (.int z0), .val (.int z1), .val (.int z2), .val (.int xs)] []))
        refine own_Go.st (fun _ kt => XS.iload X27.here hx rfl (hb hby at_318) rfl kt) ?_
        show own_Go p e below _ (T27.setTop (mkF m 320 #[.val (.long p0), .second, .val (.long p1), .second, .val (.long p2), .second, .val (.int p3), .val (.long x0), .second, .val (.long y1), .second, .val (.long y2), .second, .val (.int (0 : Int32)), .val (.long xt), .second, .val (.ref ob), .val (.ref ra), .val (.int z0), .val (.int z1), .val (.int z2), .val (.int xs)] [(.int z2)]))
        rcases g2 with ⟨rfl, q⟩ | ⟨rfl, q⟩
        · show own_Go p e below _ (T27.setTop (mkF m 320 #[.val (.long p0), .second, .val (.long p1), .second, .val (.long p2), .second, .val (.int p3), .val (.long x0), .second, .val (.long y1), .second, .val (.long y2), .second, .val (.int (0 : Int32)), .val (.long xt), .second, .val (.ref ob), .val (.ref ra), .val (.int z0), .val (.int z1), .val (.int (1 : Int32)), .val (.int xs)] [(.int (1 : Int32))]))
          refine own_Go.st (fun _ kt => XS.ifNo X27.here hx rfl (hb hby at_320) rfl ((if0 _ _).trans (feq (by decide)).1) kt) ?_
          show own_Go p e below _ (T27.setTop (mkF m 323 #[.val (.long p0), .second, .val (.long p1), .second, .val (.long p2), .second, .val (.int p3), .val (.long x0), .second, .val (.long y1), .second, .val (.long y2), .second, .val (.int (0 : Int32)), .val (.long xt), .second, .val (.ref ob), .val (.ref ra), .val (.int z0), .val (.int z1), .val (.int (1 : Int32)), .val (.int xs)] []))
          refine own_Go.st (fun _ kt => XS.aload X27.here hx rfl (hb hby at_323) rfl rfl kt) ?_
          show own_Go p e below _ (T27.setTop (mkF m 325 #[.val (.long p0), .second, .val (.long p1), .second, .val (.long p2), .second, .val (.int p3), .val (.long x0), .second, .val (.long y1), .second, .val (.long y2), .second, .val (.int (0 : Int32)), .val (.long xt), .second, .val (.ref ob), .val (.ref ra), .val (.int z0), .val (.int z1), .val (.int (1 : Int32)), .val (.int xs)] [(.ref ra)]))
          refine own_Go.st (fun _ kt => XS.lload X27.here hx rfl (hb hby at_325) rfl kt) ?_
          show own_Go p e below _ (T27.setTop (mkF m 327 #[.val (.long p0), .second, .val (.long p1), .second, .val (.long p2), .second, .val (.int p3), .val (.long x0), .second, .val (.long y1), .second, .val (.long y2), .second, .val (.int (0 : Int32)), .val (.long xt), .second, .val (.ref ob), .val (.ref ra), .val (.int z0), .val (.int z1), .val (.int (1 : Int32)), .val (.int xs)] [(.long y2), (.ref ra)]))
          obtain ⟨_, _, ⟨T28, L28, k28, n28⟩, -, X28, ⟨Lc28, hQ28, l28, y28, z28⟩, st28⟩ := Jvm.LawKit.callS X27 hx (y := (⟨"com/example/thicket/thicket/PageMapPagesPinLaw", "has", "([JJ)Z"⟩ : MethodName)) hown (mvT hZ (hw _ (List.mem_of_getElem? (i := 68) rfl))) (mvT hZ (hw _ (List.mem_of_getElem? (i := 69) rfl))) (mvT hZ (hw _ (List.mem_of_getElem? (i := 70) rfl))) (mvT hZ (hw _ (List.mem_of_getElem? (i := 71) rfl))) (by decide) (backOf (W := 0) (own_has l Z a0 hw [] ra y2 (own_pgs f2_ 16) T25.heap n0 zz26 ab al) hZ (hw _ (List.mem_of_getElem? (i := 71) rfl)) (hw _ (List.mem_of_getElem? (i := 70) rfl)) (by decide) (by decide)) (g := (mkF m 327 #[.val (.long p0), .second, .val (.long p1), .second, .val (.long p2), .second, .val (.int p3), .val (.long x0), .second, .val (.long y1), .second, .val (.long y2), .second, .val (.int (0 : Int32)), .val (.long xt), .second, .val (.ref ob), .val (.ref ra), .val (.int z0), .val (.int z1), .val (.int (1 : Int32)), .val (.int xs)] [(.long y2), (.ref ra)])) rfl (by rw [hml]; rfl) (argsL := [(.ref ra), (.long y2)]) (rest := []) (lenOf own_pd8 rfl) rfl (by show 2 * 0 + _ ≤ _; exact Nat.le_of_eq rfl) (hb hby at_327) (fun _ _ => ⟨rfl, e27, (by decide : 4 + 0 ≤ _), (by decide : 38 + 0 ≤ _)⟩)
          dsimp only [Pt.U, Pt.locs, Pt.cells, Pt.slots] at X28 l28 y28 z28 st28 hQ28
          subst l28 y28 z28
          obtain ⟨rfl, N28q, hh28⟩ := hQ28
          have N28 := Fr.app N27 N28q
          refine own_Go.st (fun _ kt => st28 _ kt) ?_
          show own_Go p e below _ (T28.setTop (mkF m 330 #[.val (.long p0), .second, .val (.long p1), .second, .val (.long p2), .second, .val (.int p3), .val (.long x0), .second, .val (.long y1), .second, .val (.long y2), .second, .val (.int (0 : Int32)), .val (.long xt), .second, .val (.ref ob), .val (.ref ra), .val (.int z0), .val (.int z1), .val (.int (1 : Int32)), .val (.int xs)] [(.int (if y2 ∈ own_pgs f2_ 16 then (1 : Int32) else 0))]))
          rw [show (if y2 ∈ own_pgs f2_ 16 then (1 : Int32) else 0) = (1 : Int32) from if_pos (hst.ct.mem hy2 (own_m2 x0 y1 y2))]
          show own_Go p e below _ (T28.setTop (mkF m 330 #[.val (.long p0), .second, .val (.long p1), .second, .val (.long p2), .second, .val (.int p3), .val (.long x0), .second, .val (.long y1), .second, .val (.long y2), .second, .val (.int (0 : Int32)), .val (.long xt), .second, .val (.ref ob), .val (.ref ra), .val (.int z0), .val (.int z1), .val (.int (1 : Int32)), .val (.int xs)] [(.int (1 : Int32))]))
          refine own_Go.st (fun _ kt => XS.ifNo X28.here hx rfl (hb hby at_330) rfl ((if0 _ _).trans (feq (by decide)).1) kt) ?_
          show own_Go p e below _ (T28.setTop (mkF m 333 #[.val (.long p0), .second, .val (.long p1), .second, .val (.long p2), .second, .val (.int p3), .val (.long x0), .second, .val (.long y1), .second, .val (.long y2), .second, .val (.int (0 : Int32)), .val (.long xt), .second, .val (.ref ob), .val (.ref ra), .val (.int z0), .val (.int z1), .val (.int (1 : Int32)), .val (.int xs)] []))
          refine own_Go.st (fun _ kt => XS.iconst X28.here hx rfl (hb hby at_333) kt) ?_
          show own_Go p e below _ (T28.setTop (mkF m 334 #[.val (.long p0), .second, .val (.long p1), .second, .val (.long p2), .second, .val (.int p3), .val (.long x0), .second, .val (.long y1), .second, .val (.long y2), .second, .val (.int (0 : Int32)), .val (.long xt), .second, .val (.ref ob), .val (.ref ra), .val (.int z0), .val (.int z1), .val (.int (1 : Int32)), .val (.int xs)] [(.int (1 : Int32))]))
          refine own_Go.st (fun _ kt => XS.goto X28.here hx rfl (pc0 := 334) (pc' := 338) rfl (hb hby at_334) (by decide) (by decide) kt) ?_
          show own_Go p e below _ (T28.setTop (mkF m 338 #[.val (.long p0), .second, .val (.long p1), .second, .val (.long p2), .second, .val (.int p3), .val (.long x0), .second, .val (.long y1), .second, .val (.long y2), .second, .val (.int (0 : Int32)), .val (.long xt), .second, .val (.ref ob), .val (.ref ra), .val (.int z0), .val (.int z1), .val (.int (1 : Int32)), .val (.int xs)] [(.int (1 : Int32))]))
          exact own_retZ X28 hx Bd.notSynchronized Bd.returns (Or.inr rfl) (hb hby at_338) (by decide) (by decide) ⟨rfl, N28⟩
        · show own_Go p e below _ (T27.setTop (mkF m 320 #[.val (.long p0), .second, .val (.long p1), .second, .val (.long p2), .second, .val (.int p3), .val (.long x0), .second, .val (.long y1), .second, .val (.long y2), .second, .val (.int (0 : Int32)), .val (.long xt), .second, .val (.ref ob), .val (.ref ra), .val (.int z0), .val (.int z1), .val (.int (0 : Int32)), .val (.int xs)] [(.int (0 : Int32))]))
          refine own_Go.st (fun _ kt => XS.ifYes X27.here hx rfl (pc0 := 320) (pc' := 333) rfl (hb hby at_320) rfl ((if0 _ _).trans (teq rfl).1) (by decide) (by decide) kt) ?_
          show own_Go p e below _ (T27.setTop (mkF m 333 #[.val (.long p0), .second, .val (.long p1), .second, .val (.long p2), .second, .val (.int p3), .val (.long x0), .second, .val (.long y1), .second, .val (.long y2), .second, .val (.int (0 : Int32)), .val (.long xt), .second, .val (.ref ob), .val (.ref ra), .val (.int z0), .val (.int z1), .val (.int (0 : Int32)), .val (.int xs)] []))
          refine own_Go.st (fun _ kt => XS.iconst X27.here hx rfl (hb hby at_333) kt) ?_
          show own_Go p e below _ (T27.setTop (mkF m 334 #[.val (.long p0), .second, .val (.long p1), .second, .val (.long p2), .second, .val (.int p3), .val (.long x0), .second, .val (.long y1), .second, .val (.long y2), .second, .val (.int (0 : Int32)), .val (.long xt), .second, .val (.ref ob), .val (.ref ra), .val (.int z0), .val (.int z1), .val (.int (0 : Int32)), .val (.int xs)] [(.int (1 : Int32))]))
          refine own_Go.st (fun _ kt => XS.goto X27.here hx rfl (pc0 := 334) (pc' := 338) rfl (hb hby at_334) (by decide) (by decide) kt) ?_
          show own_Go p e below _ (T27.setTop (mkF m 338 #[.val (.long p0), .second, .val (.long p1), .second, .val (.long p2), .second, .val (.int p3), .val (.long x0), .second, .val (.long y1), .second, .val (.long y2), .second, .val (.int (0 : Int32)), .val (.long xt), .second, .val (.ref ob), .val (.ref ra), .val (.int z0), .val (.int z1), .val (.int (0 : Int32)), .val (.int xs)] [(.int (1 : Int32))]))
          exact own_retZ X27 hx Bd.notSynchronized Bd.returns (Or.inr rfl) (hb hby at_338) (by decide) (by decide) ⟨rfl, N27⟩
      have J303 : ∀ (T29 : State) (lc29 : List Loc) (X29 : Stand p l e room_1 s m #[(.long p0), (.long p1), (.long p2), (.int p3)] below meth c T29 lc29 4 38) (e29 : T29.heap = T25.heap) (N29 : Fr n0 lc29) (z0 : Int32) (g0 : own_B z0 (True)) (z1 : Int32) (g1 : own_B z1 (y1 ≠ x0)) (z2 : Int32) (g2 : own_B z2 (y2 ≠ x0 ∧ y2 ≠ y1)) (xs : Int32), own_Go p e below (fun o U' => ∃ v L, o = .returned v ∧ own_Q_own_law Z p0 p1 p2 p3 rc h0 n0 v U'.heap L ∧ FrameEnd s o U' L room_1.cells room_1.slots) (T29.setTop (mkF m 303 #[.val (.long p0), .second, .val (.long p1), .second, .val (.long p2), .second, .val (.int p3), .val (.long x0), .second, .val (.long y1), .second, .val (.long y2), .second, .val (.int (0 : Int32)), .val (.long xt), .second, .val (.ref ob), .val (.ref ra), .val (.int z0), .val (.int z1), .val (.int z2), .val (.int xs)] [])) := by
        intro T29 lc29 X29 e29 N29 z0 g0 z1 g1 z2 g2 xs
        show own_Go p e below _ (T29.setTop (mkF m 303 #[.val (.long p0), .second, .val (.long p1), .second, .val (.long p2), .second, .val (.int p3), .val (.long x0), .second, .val (.long y1), .second, .val (.long y2), .second, .val (.int (0 : Int32)), .val (.long xt), .second, .val (.ref ob), .val (.ref ra), .val (.int z0), .val (.int z1), .val (.int z2), .val (.int xs)] []))
        refine own_Go.st (fun _ kt => XS.iload X29.here hx rfl (hb hby at_303) rfl kt) ?_
        show own_Go p e below _ (T29.setTop (mkF m 305 #[.val (.long p0), .second, .val (.long p1), .second, .val (.long p2), .second, .val (.int p3), .val (.long x0), .second, .val (.long y1), .second, .val (.long y2), .second, .val (.int (0 : Int32)), .val (.long xt), .second, .val (.ref ob), .val (.ref ra), .val (.int z0), .val (.int z1), .val (.int z2), .val (.int xs)] [(.int z1)]))
        rcases g1 with ⟨rfl, q⟩ | ⟨rfl, q⟩
        · show own_Go p e below _ (T29.setTop (mkF m 305 #[.val (.long p0), .second, .val (.long p1), .second, .val (.long p2), .second, .val (.int p3), .val (.long x0), .second, .val (.long y1), .second, .val (.long y2), .second, .val (.int (0 : Int32)), .val (.long xt), .second, .val (.ref ob), .val (.ref ra), .val (.int z0), .val (.int (1 : Int32)), .val (.int z2), .val (.int xs)] [(.int (1 : Int32))]))
          refine own_Go.st (fun _ kt => XS.ifNo X29.here hx rfl (hb hby at_305) rfl ((if0 _ _).trans (feq (by decide)).1) kt) ?_
          show own_Go p e below _ (T29.setTop (mkF m 308 #[.val (.long p0), .second, .val (.long p1), .second, .val (.long p2), .second, .val (.int p3), .val (.long x0), .second, .val (.long y1), .second, .val (.long y2), .second, .val (.int (0 : Int32)), .val (.long xt), .second, .val (.ref ob), .val (.ref ra), .val (.int z0), .val (.int (1 : Int32)), .val (.int z2), .val (.int xs)] []))
          refine own_Go.st (fun _ kt => XS.aload X29.here hx rfl (hb hby at_308) rfl rfl kt) ?_
          show own_Go p e below _ (T29.setTop (mkF m 310 #[.val (.long p0), .second, .val (.long p1), .second, .val (.long p2), .second, .val (.int p3), .val (.long x0), .second, .val (.long y1), .second, .val (.long y2), .second, .val (.int (0 : Int32)), .val (.long xt), .second, .val (.ref ob), .val (.ref ra), .val (.int z0), .val (.int (1 : Int32)), .val (.int z2), .val (.int xs)] [(.ref ra)]))
          refine own_Go.st (fun _ kt => XS.lload X29.here hx rfl (hb hby at_310) rfl kt) ?_
          show own_Go p e below _ (T29.setTop (mkF m 312 #[.val (.long p0), .second, .val (.long p1), .second, .val (.long p2), .second, .val (.int p3), .val (.long x0), .second, .val (.long y1), .second, .val (.long y2), .second, .val (.int (0 : Int32)), .val (.long xt), .second, .val (.ref ob), .val (.ref ra), .val (.int z0), .val (.int (1 : Int32)), .val (.int z2), .val (.int xs)] [(.long y1), (.ref ra)]))
          obtain ⟨_, _, ⟨T30, L30, k30, n30⟩, -, X30, ⟨Lc30, hQ30, l30, y30, z30⟩, st30⟩ := Jvm.LawKit.callS X29 hx (y := (⟨"com/example/thicket/thicket/PageMapPagesPinLaw", "has", "([JJ)Z"⟩ : MethodName)) hown (mvT hZ (hw _ (List.mem_of_getElem? (i := 68) rfl))) (mvT hZ (hw _ (List.mem_of_getElem? (i := 69) rfl))) (mvT hZ (hw _ (List.mem_of_getElem? (i := 70) rfl))) (mvT hZ (hw _ (List.mem_of_getElem? (i := 71) rfl))) (by decide) (backOf (W := 0) (own_has l Z a0 hw [] ra y1 (own_pgs f2_ 16) T25.heap n0 zz26 ab al) hZ (hw _ (List.mem_of_getElem? (i := 71) rfl)) (hw _ (List.mem_of_getElem? (i := 70) rfl)) (by decide) (by decide)) (g := (mkF m 312 #[.val (.long p0), .second, .val (.long p1), .second, .val (.long p2), .second, .val (.int p3), .val (.long x0), .second, .val (.long y1), .second, .val (.long y2), .second, .val (.int (0 : Int32)), .val (.long xt), .second, .val (.ref ob), .val (.ref ra), .val (.int z0), .val (.int (1 : Int32)), .val (.int z2), .val (.int xs)] [(.long y1), (.ref ra)])) rfl (by rw [hml]; rfl) (argsL := [(.ref ra), (.long y1)]) (rest := []) (lenOf own_pd8 rfl) rfl (by show 2 * 0 + _ ≤ _; exact Nat.le_of_eq rfl) (hb hby at_312) (fun _ _ => ⟨rfl, e29, (by decide : 4 + 0 ≤ _), (by decide : 38 + 0 ≤ _)⟩)
          dsimp only [Pt.U, Pt.locs, Pt.cells, Pt.slots] at X30 l30 y30 z30 st30 hQ30
          subst l30 y30 z30
          obtain ⟨rfl, N30q, hh30⟩ := hQ30
          have N30 := Fr.app N29 N30q
          refine own_Go.st (fun _ kt => st30 _ kt) ?_
          show own_Go p e below _ (T30.setTop (mkF m 315 #[.val (.long p0), .second, .val (.long p1), .second, .val (.long p2), .second, .val (.int p3), .val (.long x0), .second, .val (.long y1), .second, .val (.long y2), .second, .val (.int (0 : Int32)), .val (.long xt), .second, .val (.ref ob), .val (.ref ra), .val (.int z0), .val (.int (1 : Int32)), .val (.int z2), .val (.int xs)] [(.int (if y1 ∈ own_pgs f2_ 16 then (1 : Int32) else 0))]))
          rw [show (if y1 ∈ own_pgs f2_ 16 then (1 : Int32) else 0) = (1 : Int32) from if_pos (hst.ct.mem hy1 (own_m1 x0 y1 y2))]
          show own_Go p e below _ (T30.setTop (mkF m 315 #[.val (.long p0), .second, .val (.long p1), .second, .val (.long p2), .second, .val (.int p3), .val (.long x0), .second, .val (.long y1), .second, .val (.long y2), .second, .val (.int (0 : Int32)), .val (.long xt), .second, .val (.ref ob), .val (.ref ra), .val (.int z0), .val (.int (1 : Int32)), .val (.int z2), .val (.int xs)] [(.int (1 : Int32))]))
          refine own_Go.st (fun _ kt => XS.ifNo X30.here hx rfl (hb hby at_315) rfl ((if0 _ _).trans (feq (by decide)).1) kt) ?_
          show own_Go p e below _ (T30.setTop (mkF m 318 #[.val (.long p0), .second, .val (.long p1), .second, .val (.long p2), .second, .val (.int p3), .val (.long x0), .second, .val (.long y1), .second, .val (.long y2), .second, .val (.int (0 : Int32)), .val (.long xt), .second, .val (.ref ob), .val (.ref ra), .val (.int z0), .val (.int (1 : Int32)), .val (.int z2), .val (.int xs)] []))
          exact J318 _ _ X30 hh30 N30 _ g0 _ (Or.inl ⟨rfl, q⟩) _ g2 _
        · show own_Go p e below _ (T29.setTop (mkF m 305 #[.val (.long p0), .second, .val (.long p1), .second, .val (.long p2), .second, .val (.int p3), .val (.long x0), .second, .val (.long y1), .second, .val (.long y2), .second, .val (.int (0 : Int32)), .val (.long xt), .second, .val (.ref ob), .val (.ref ra), .val (.int z0), .val (.int (0 : Int32)), .val (.int z2), .val (.int xs)] [(.int (0 : Int32))]))
          refine own_Go.st (fun _ kt => XS.ifYes X29.here hx rfl (pc0 := 305) (pc' := 318) rfl (hb hby at_305) rfl ((if0 _ _).trans (teq rfl).1) (by decide) (by decide) kt) ?_
          show own_Go p e below _ (T29.setTop (mkF m 318 #[.val (.long p0), .second, .val (.long p1), .second, .val (.long p2), .second, .val (.int p3), .val (.long x0), .second, .val (.long y1), .second, .val (.long y2), .second, .val (.int (0 : Int32)), .val (.long xt), .second, .val (.ref ob), .val (.ref ra), .val (.int z0), .val (.int (0 : Int32)), .val (.int z2), .val (.int xs)] []))
          exact J318 _ _ X29 e29 N29 _ g0 _ (Or.inr ⟨rfl, q⟩) _ g2 _
      have J270 : ∀ (T31 : State) (lc31 : List Loc) (X31 : Stand p l e room_1 s m #[(.long p0), (.long p1), (.long p2), (.int p3)] below meth c T31 lc31 4 38) (e31 : T31.heap = T25.heap) (N31 : Fr n0 lc31) (z0 : Int32) (g0 : own_B z0 (True)) (z1 : Int32) (g1 : own_B z1 (y1 ≠ x0)) (z2 : Int32) (g2 : own_B z2 (y2 ≠ x0 ∧ y2 ≠ y1)), own_Go p e below (fun o U' => ∃ v L, o = .returned v ∧ own_Q_own_law Z p0 p1 p2 p3 rc h0 n0 v U'.heap L ∧ FrameEnd s o U' L room_1.cells room_1.slots) (T31.setTop (mkF m 270 #[.val (.long p0), .second, .val (.long p1), .second, .val (.long p2), .second, .val (.int p3), .val (.long x0), .second, .val (.long y1), .second, .val (.long y2), .second, .val (.int (0 : Int32)), .val (.long xt), .second, .val (.ref ob), .val (.ref ra), .val (.int z0), .val (.int z1), .val (.int z2), .unset] [(.int z2), (.int (z0 + z1))])) := by
        intro T31 lc31 X31 e31 N31 z0 g0 z1 g1 z2 g2
        show own_Go p e below _ (T31.setTop (mkF m 270 #[.val (.long p0), .second, .val (.long p1), .second, .val (.long p2), .second, .val (.int p3), .val (.long x0), .second, .val (.long y1), .second, .val (.long y2), .second, .val (.int (0 : Int32)), .val (.long xt), .second, .val (.ref ob), .val (.ref ra), .val (.int z0), .val (.int z1), .val (.int z2), .unset] [(.int z2), (.int (z0 + z1))]))
        refine own_Go.st (fun _ kt => XS.iadd X31.here hx rfl (hb hby at_270) rfl kt) ?_
        show own_Go p e below _ (T31.setTop (mkF m 271 #[.val (.long p0), .second, .val (.long p1), .second, .val (.long p2), .second, .val (.int p3), .val (.long x0), .second, .val (.long y1), .second, .val (.long y2), .second, .val (.int (0 : Int32)), .val (.long xt), .second, .val (.ref ob), .val (.ref ra), .val (.int z0), .val (.int z1), .val (.int z2), .unset] [(.int ((z0 + z1) + z2))]))
        refine own_Go.st (fun _ kt => XS.istore X31.here hx rfl (hb hby at_271) rfl (l' := #[.val (.long p0), .second, .val (.long p1), .second, .val (.long p2), .second, .val (.int p3), .val (.long x0), .second, .val (.long y1), .second, .val (.long y2), .second, .val (.int (0 : Int32)), .val (.long xt), .second, .val (.ref ob), .val (.ref ra), .val (.int z0), .val (.int z1), .val (.int z2), .val (.int ((z0 + z1) + z2))]) rfl kt) ?_
        show own_Go p e below _ (T31.setTop (mkF m 273 #[.val (.long p0), .second, .val (.long p1), .second, .val (.long p2), .second, .val (.int p3), .val (.long x0), .second, .val (.long y1), .second, .val (.long y2), .second, .val (.int (0 : Int32)), .val (.long xt), .second, .val (.ref ob), .val (.ref ra), .val (.int z0), .val (.int z1), .val (.int z2), .val (.int ((z0 + z1) + z2))] []))
        refine own_Go.st (fun _ kt => XS.aload X31.here hx rfl (hb hby at_273) rfl rfl kt) ?_
        show own_Go p e below _ (T31.setTop (mkF m 275 #[.val (.long p0), .second, .val (.long p1), .second, .val (.long p2), .second, .val (.int p3), .val (.long x0), .second, .val (.long y1), .second, .val (.long y2), .second, .val (.int (0 : Int32)), .val (.long xt), .second, .val (.ref ob), .val (.ref ra), .val (.int z0), .val (.int z1), .val (.int z2), .val (.int ((z0 + z1) + z2))] [(.ref ra)]))
        refine own_Go.st (fun _ kt => XS.ifnullNo X31.here hx rfl (hb hby at_275) rfl kt) ?_
        show own_Go p e below _ (T31.setTop (mkF m 278 #[.val (.long p0), .second, .val (.long p1), .second, .val (.long p2), .second, .val (.int p3), .val (.long x0), .second, .val (.long y1), .second, .val (.long y2), .second, .val (.int (0 : Int32)), .val (.long xt), .second, .val (.ref ob), .val (.ref ra), .val (.int z0), .val (.int z1), .val (.int z2), .val (.int ((z0 + z1) + z2))] []))
        refine own_Go.st (fun _ kt => XS.aload X31.here hx rfl (hb hby at_278) rfl rfl kt) ?_
        show own_Go p e below _ (T31.setTop (mkF m 280 #[.val (.long p0), .second, .val (.long p1), .second, .val (.long p2), .second, .val (.int p3), .val (.long x0), .second, .val (.long y1), .second, .val (.long y2), .second, .val (.int (0 : Int32)), .val (.long xt), .second, .val (.ref ob), .val (.ref ra), .val (.int z0), .val (.int z1), .val (.int z2), .val (.int ((z0 + z1) + z2))] [(.ref ra)]))
        refine own_Go.st (fun _ kt => own_alen X31 hx hZ e31 aa25 (z := xn2) hnn (g := (mkF m 280 #[.val (.long p0), .second, .val (.long p1), .second, .val (.long p2), .second, .val (.int p3), .val (.long x0), .second, .val (.long y1), .second, .val (.long y2), .second, .val (.int (0 : Int32)), .val (.long xt), .second, .val (.ref ob), .val (.ref ra), .val (.int z0), .val (.int z1), .val (.int z2), .val (.int ((z0 + z1) + z2))] [(.ref ra)])) rfl rfl (hb hby at_280) _ kt) ?_
        show own_Go p e below _ (T31.setTop (mkF m 281 #[.val (.long p0), .second, .val (.long p1), .second, .val (.long p2), .second, .val (.int p3), .val (.long x0), .second, .val (.long y1), .second, .val (.long y2), .second, .val (.int (0 : Int32)), .val (.long xt), .second, .val (.ref ob), .val (.ref ra), .val (.int z0), .val (.int z1), .val (.int z2), .val (.int ((z0 + z1) + z2))] [(.int xn2)]))
        have tot : xn2 = z0 + z1 + z2 := own_tot0 g0 g1 g2 hnn
        refine own_Go.st (fun _ kt => XS.iload X31.here hx rfl (hb hby at_281) rfl kt) ?_
        show own_Go p e below _ (T31.setTop (mkF m 283 #[.val (.long p0), .second, .val (.long p1), .second, .val (.long p2), .second, .val (.int p3), .val (.long x0), .second, .val (.long y1), .second, .val (.long y2), .second, .val (.int (0 : Int32)), .val (.long xt), .second, .val (.ref ob), .val (.ref ra), .val (.int z0), .val (.int z1), .val (.int z2), .val (.int ((z0 + z1) + z2))] [(.int ((z0 + z1) + z2)), (.int xn2)]))
        refine own_Go.st (fun _ kt => XS.icmpYes X31.here hx rfl (pc0 := 283) (pc' := 288) rfl (hb hby at_283) rfl (teq tot).1 (by decide) (by decide) kt) ?_
        show own_Go p e below _ (T31.setTop (mkF m 288 #[.val (.long p0), .second, .val (.long p1), .second, .val (.long p2), .second, .val (.int p3), .val (.long x0), .second, .val (.long y1), .second, .val (.long y2), .second, .val (.int (0 : Int32)), .val (.long xt), .second, .val (.ref ob), .val (.ref ra), .val (.int z0), .val (.int z1), .val (.int z2), .val (.int ((z0 + z1) + z2))] []))
        generalize hxs : ((z0 + z1) + z2) = xs
        show own_Go p e below _ (T31.setTop (mkF m 288 #[.val (.long p0), .second, .val (.long p1), .second, .val (.long p2), .second, .val (.int p3), .val (.long x0), .second, .val (.long y1), .second, .val (.long y2), .second, .val (.int (0 : Int32)), .val (.long xt), .second, .val (.ref ob), .val (.ref ra), .val (.int z0), .val (.int z1), .val (.int z2), .val (.int xs)] []))
        refine own_Go.st (fun _ kt => XS.iload X31.here hx rfl (hb hby at_288) rfl kt) ?_
        show own_Go p e below _ (T31.setTop (mkF m 290 #[.val (.long p0), .second, .val (.long p1), .second, .val (.long p2), .second, .val (.int p3), .val (.long x0), .second, .val (.long y1), .second, .val (.long y2), .second, .val (.int (0 : Int32)), .val (.long xt), .second, .val (.ref ob), .val (.ref ra), .val (.int z0), .val (.int z1), .val (.int z2), .val (.int xs)] [(.int z0)]))
        rcases g0 with ⟨rfl, q⟩ | ⟨rfl, q⟩
        · show own_Go p e below _ (T31.setTop (mkF m 290 #[.val (.long p0), .second, .val (.long p1), .second, .val (.long p2), .second, .val (.int p3), .val (.long x0), .second, .val (.long y1), .second, .val (.long y2), .second, .val (.int (0 : Int32)), .val (.long xt), .second, .val (.ref ob), .val (.ref ra), .val (.int (1 : Int32)), .val (.int z1), .val (.int z2), .val (.int xs)] [(.int (1 : Int32))]))
          refine own_Go.st (fun _ kt => XS.ifNo X31.here hx rfl (hb hby at_290) rfl ((if0 _ _).trans (feq (by decide)).1) kt) ?_
          show own_Go p e below _ (T31.setTop (mkF m 293 #[.val (.long p0), .second, .val (.long p1), .second, .val (.long p2), .second, .val (.int p3), .val (.long x0), .second, .val (.long y1), .second, .val (.long y2), .second, .val (.int (0 : Int32)), .val (.long xt), .second, .val (.ref ob), .val (.ref ra), .val (.int (1 : Int32)), .val (.int z1), .val (.int z2), .val (.int xs)] []))
          refine own_Go.st (fun _ kt => XS.aload X31.here hx rfl (hb hby at_293) rfl rfl kt) ?_
          show own_Go p e below _ (T31.setTop (mkF m 295 #[.val (.long p0), .second, .val (.long p1), .second, .val (.long p2), .second, .val (.int p3), .val (.long x0), .second, .val (.long y1), .second, .val (.long y2), .second, .val (.int (0 : Int32)), .val (.long xt), .second, .val (.ref ob), .val (.ref ra), .val (.int (1 : Int32)), .val (.int z1), .val (.int z2), .val (.int xs)] [(.ref ra)]))
          refine own_Go.st (fun _ kt => XS.lload X31.here hx rfl (hb hby at_295) rfl kt) ?_
          show own_Go p e below _ (T31.setTop (mkF m 297 #[.val (.long p0), .second, .val (.long p1), .second, .val (.long p2), .second, .val (.int p3), .val (.long x0), .second, .val (.long y1), .second, .val (.long y2), .second, .val (.int (0 : Int32)), .val (.long xt), .second, .val (.ref ob), .val (.ref ra), .val (.int (1 : Int32)), .val (.int z1), .val (.int z2), .val (.int xs)] [(.long x0), (.ref ra)]))
          obtain ⟨_, _, ⟨T32, L32, k32, n32⟩, -, X32, ⟨Lc32, hQ32, l32, y32, z32⟩, st32⟩ := Jvm.LawKit.callS X31 hx (y := (⟨"com/example/thicket/thicket/PageMapPagesPinLaw", "has", "([JJ)Z"⟩ : MethodName)) hown (mvT hZ (hw _ (List.mem_of_getElem? (i := 68) rfl))) (mvT hZ (hw _ (List.mem_of_getElem? (i := 69) rfl))) (mvT hZ (hw _ (List.mem_of_getElem? (i := 70) rfl))) (mvT hZ (hw _ (List.mem_of_getElem? (i := 71) rfl))) (by decide) (backOf (W := 0) (own_has l Z a0 hw [] ra x0 (own_pgs f2_ 16) T25.heap n0 zz26 ab al) hZ (hw _ (List.mem_of_getElem? (i := 71) rfl)) (hw _ (List.mem_of_getElem? (i := 70) rfl)) (by decide) (by decide)) (g := (mkF m 297 #[.val (.long p0), .second, .val (.long p1), .second, .val (.long p2), .second, .val (.int p3), .val (.long x0), .second, .val (.long y1), .second, .val (.long y2), .second, .val (.int (0 : Int32)), .val (.long xt), .second, .val (.ref ob), .val (.ref ra), .val (.int (1 : Int32)), .val (.int z1), .val (.int z2), .val (.int xs)] [(.long x0), (.ref ra)])) rfl (by rw [hml]; rfl) (argsL := [(.ref ra), (.long x0)]) (rest := []) (lenOf own_pd8 rfl) rfl (by show 2 * 0 + _ ≤ _; exact Nat.le_of_eq rfl) (hb hby at_297) (fun _ _ => ⟨rfl, e31, (by decide : 4 + 0 ≤ _), (by decide : 38 + 0 ≤ _)⟩)
          dsimp only [Pt.U, Pt.locs, Pt.cells, Pt.slots] at X32 l32 y32 z32 st32 hQ32
          subst l32 y32 z32
          obtain ⟨rfl, N32q, hh32⟩ := hQ32
          have N32 := Fr.app N31 N32q
          refine own_Go.st (fun _ kt => st32 _ kt) ?_
          show own_Go p e below _ (T32.setTop (mkF m 300 #[.val (.long p0), .second, .val (.long p1), .second, .val (.long p2), .second, .val (.int p3), .val (.long x0), .second, .val (.long y1), .second, .val (.long y2), .second, .val (.int (0 : Int32)), .val (.long xt), .second, .val (.ref ob), .val (.ref ra), .val (.int (1 : Int32)), .val (.int z1), .val (.int z2), .val (.int xs)] [(.int (if x0 ∈ own_pgs f2_ 16 then (1 : Int32) else 0))]))
          rw [show (if x0 ∈ own_pgs f2_ 16 then (1 : Int32) else 0) = (1 : Int32) from if_pos (hst.ct.mem hx0 (own_m0 x0 y1 y2))]
          show own_Go p e below _ (T32.setTop (mkF m 300 #[.val (.long p0), .second, .val (.long p1), .second, .val (.long p2), .second, .val (.int p3), .val (.long x0), .second, .val (.long y1), .second, .val (.long y2), .second, .val (.int (0 : Int32)), .val (.long xt), .second, .val (.ref ob), .val (.ref ra), .val (.int (1 : Int32)), .val (.int z1), .val (.int z2), .val (.int xs)] [(.int (1 : Int32))]))
          refine own_Go.st (fun _ kt => XS.ifNo X32.here hx rfl (hb hby at_300) rfl ((if0 _ _).trans (feq (by decide)).1) kt) ?_
          show own_Go p e below _ (T32.setTop (mkF m 303 #[.val (.long p0), .second, .val (.long p1), .second, .val (.long p2), .second, .val (.int p3), .val (.long x0), .second, .val (.long y1), .second, .val (.long y2), .second, .val (.int (0 : Int32)), .val (.long xt), .second, .val (.ref ob), .val (.ref ra), .val (.int (1 : Int32)), .val (.int z1), .val (.int z2), .val (.int xs)] []))
          exact J303 _ _ X32 hh32 N32 _ (Or.inl ⟨rfl, q⟩) _ g1 _ g2 _
        · show own_Go p e below _ (T31.setTop (mkF m 290 #[.val (.long p0), .second, .val (.long p1), .second, .val (.long p2), .second, .val (.int p3), .val (.long x0), .second, .val (.long y1), .second, .val (.long y2), .second, .val (.int (0 : Int32)), .val (.long xt), .second, .val (.ref ob), .val (.ref ra), .val (.int (0 : Int32)), .val (.int z1), .val (.int z2), .val (.int xs)] [(.int (0 : Int32))]))
          refine own_Go.st (fun _ kt => XS.ifYes X31.here hx rfl (pc0 := 290) (pc' := 303) rfl (hb hby at_290) rfl ((if0 _ _).trans (teq rfl).1) (by decide) (by decide) kt) ?_
          show own_Go p e below _ (T31.setTop (mkF m 303 #[.val (.long p0), .second, .val (.long p1), .second, .val (.long p2), .second, .val (.int p3), .val (.long x0), .second, .val (.long y1), .second, .val (.long y2), .second, .val (.int (0 : Int32)), .val (.long xt), .second, .val (.ref ob), .val (.ref ra), .val (.int (0 : Int32)), .val (.int z1), .val (.int z2), .val (.int xs)] []))
          exact J303 _ _ X31 e31 N31 _ (Or.inr ⟨rfl, q⟩) _ g1 _ g2 _
      have J260 : ∀ (T33 : State) (lc33 : List Loc) (X33 : Stand p l e room_1 s m #[(.long p0), (.long p1), (.long p2), (.int p3)] below meth c T33 lc33 4 38) (e33 : T33.heap = T25.heap) (N33 : Fr n0 lc33) (z0 : Int32) (g0 : own_B z0 (True)) (z1 : Int32) (g1 : own_B z1 (y1 ≠ x0)) (z2 : Int32) (g2 : own_B z2 (y2 ≠ x0 ∧ y2 ≠ y1)), own_Go p e below (fun o U' => ∃ v L, o = .returned v ∧ own_Q_own_law Z p0 p1 p2 p3 rc h0 n0 v U'.heap L ∧ FrameEnd s o U' L room_1.cells room_1.slots) (T33.setTop (mkF m 260 #[.val (.long p0), .second, .val (.long p1), .second, .val (.long p2), .second, .val (.int p3), .val (.long x0), .second, .val (.long y1), .second, .val (.long y2), .second, .val (.int (0 : Int32)), .val (.long xt), .second, .val (.ref ob), .val (.ref ra), .val (.int z0), .val (.int z1), .val (.int z2), .unset] [(.int (z0 + z1))])) := by
        intro T33 lc33 X33 e33 N33 z0 g0 z1 g1 z2 g2
        show own_Go p e below _ (T33.setTop (mkF m 260 #[.val (.long p0), .second, .val (.long p1), .second, .val (.long p2), .second, .val (.int p3), .val (.long x0), .second, .val (.long y1), .second, .val (.long y2), .second, .val (.int (0 : Int32)), .val (.long xt), .second, .val (.ref ob), .val (.ref ra), .val (.int z0), .val (.int z1), .val (.int z2), .unset] [(.int (z0 + z1))]))
        refine own_Go.st (fun _ kt => XS.iload X33.here hx rfl (hb hby at_260) rfl kt) ?_
        show own_Go p e below _ (T33.setTop (mkF m 262 #[.val (.long p0), .second, .val (.long p1), .second, .val (.long p2), .second, .val (.int p3), .val (.long x0), .second, .val (.long y1), .second, .val (.long y2), .second, .val (.int (0 : Int32)), .val (.long xt), .second, .val (.ref ob), .val (.ref ra), .val (.int z0), .val (.int z1), .val (.int z2), .unset] [(.int z2), (.int (z0 + z1))]))
        rcases g2 with ⟨rfl, q⟩ | ⟨rfl, q⟩
        · show own_Go p e below _ (T33.setTop (mkF m 262 #[.val (.long p0), .second, .val (.long p1), .second, .val (.long p2), .second, .val (.int p3), .val (.long x0), .second, .val (.long y1), .second, .val (.long y2), .second, .val (.int (0 : Int32)), .val (.long xt), .second, .val (.ref ob), .val (.ref ra), .val (.int z0), .val (.int z1), .val (.int (1 : Int32)), .unset] [(.int (1 : Int32)), (.int (z0 + z1))]))
          refine own_Go.st (fun _ kt => XS.ifNo X33.here hx rfl (hb hby at_262) rfl ((if0 _ _).trans (feq (by decide)).1) kt) ?_
          show own_Go p e below _ (T33.setTop (mkF m 265 #[.val (.long p0), .second, .val (.long p1), .second, .val (.long p2), .second, .val (.int p3), .val (.long x0), .second, .val (.long y1), .second, .val (.long y2), .second, .val (.int (0 : Int32)), .val (.long xt), .second, .val (.ref ob), .val (.ref ra), .val (.int z0), .val (.int z1), .val (.int (1 : Int32)), .unset] [(.int (z0 + z1))]))
          refine own_Go.st (fun _ kt => XS.iconst X33.here hx rfl (hb hby at_265) kt) ?_
          show own_Go p e below _ (T33.setTop (mkF m 266 #[.val (.long p0), .second, .val (.long p1), .second, .val (.long p2), .second, .val (.int p3), .val (.long x0), .second, .val (.long y1), .second, .val (.long y2), .second, .val (.int (0 : Int32)), .val (.long xt), .second, .val (.ref ob), .val (.ref ra), .val (.int z0), .val (.int z1), .val (.int (1 : Int32)), .unset] [(.int (1 : Int32)), (.int (z0 + z1))]))
          refine own_Go.st (fun _ kt => XS.goto X33.here hx rfl (pc0 := 266) (pc' := 270) rfl (hb hby at_266) (by decide) (by decide) kt) ?_
          show own_Go p e below _ (T33.setTop (mkF m 270 #[.val (.long p0), .second, .val (.long p1), .second, .val (.long p2), .second, .val (.int p3), .val (.long x0), .second, .val (.long y1), .second, .val (.long y2), .second, .val (.int (0 : Int32)), .val (.long xt), .second, .val (.ref ob), .val (.ref ra), .val (.int z0), .val (.int z1), .val (.int (1 : Int32)), .unset] [(.int (1 : Int32)), (.int (z0 + z1))]))
          exact J270 _ _ X33 e33 N33 _ g0 _ g1 _ (Or.inl ⟨rfl, q⟩)
        · show own_Go p e below _ (T33.setTop (mkF m 262 #[.val (.long p0), .second, .val (.long p1), .second, .val (.long p2), .second, .val (.int p3), .val (.long x0), .second, .val (.long y1), .second, .val (.long y2), .second, .val (.int (0 : Int32)), .val (.long xt), .second, .val (.ref ob), .val (.ref ra), .val (.int z0), .val (.int z1), .val (.int (0 : Int32)), .unset] [(.int (0 : Int32)), (.int (z0 + z1))]))
          refine own_Go.st (fun _ kt => XS.ifYes X33.here hx rfl (pc0 := 262) (pc' := 269) rfl (hb hby at_262) rfl ((if0 _ _).trans (teq rfl).1) (by decide) (by decide) kt) ?_
          show own_Go p e below _ (T33.setTop (mkF m 269 #[.val (.long p0), .second, .val (.long p1), .second, .val (.long p2), .second, .val (.int p3), .val (.long x0), .second, .val (.long y1), .second, .val (.long y2), .second, .val (.int (0 : Int32)), .val (.long xt), .second, .val (.ref ob), .val (.ref ra), .val (.int z0), .val (.int z1), .val (.int (0 : Int32)), .unset] [(.int (z0 + z1))]))
          refine own_Go.st (fun _ kt => XS.iconst X33.here hx rfl (hb hby at_269) kt) ?_
          show own_Go p e below _ (T33.setTop (mkF m 270 #[.val (.long p0), .second, .val (.long p1), .second, .val (.long p2), .second, .val (.int p3), .val (.long x0), .second, .val (.long y1), .second, .val (.long y2), .second, .val (.int (0 : Int32)), .val (.long xt), .second, .val (.ref ob), .val (.ref ra), .val (.int z0), .val (.int z1), .val (.int (0 : Int32)), .unset] [(.int (0 : Int32)), (.int (z0 + z1))]))
          exact J270 _ _ X33 e33 N33 _ g0 _ g1 _ (Or.inr ⟨rfl, q⟩)
      have J249 : ∀ (T34 : State) (lc34 : List Loc) (X34 : Stand p l e room_1 s m #[(.long p0), (.long p1), (.long p2), (.int p3)] below meth c T34 lc34 4 38) (e34 : T34.heap = T25.heap) (N34 : Fr n0 lc34) (z0 : Int32) (g0 : own_B z0 (True)) (z1 : Int32) (g1 : own_B z1 (y1 ≠ x0)) (z2 : Int32) (g2 : own_B z2 (y2 ≠ x0 ∧ y2 ≠ y1)), own_Go p e below (fun o U' => ∃ v L, o = .returned v ∧ own_Q_own_law Z p0 p1 p2 p3 rc h0 n0 v U'.heap L ∧ FrameEnd s o U' L room_1.cells room_1.slots) (T34.setTop (mkF m 249 #[.val (.long p0), .second, .val (.long p1), .second, .val (.long p2), .second, .val (.int p3), .val (.long x0), .second, .val (.long y1), .second, .val (.long y2), .second, .val (.int (0 : Int32)), .val (.long xt), .second, .val (.ref ob), .val (.ref ra), .val (.int z0), .val (.int z1), .val (.int z2), .unset] [(.int z0)])) := by
        intro T34 lc34 X34 e34 N34 z0 g0 z1 g1 z2 g2
        show own_Go p e below _ (T34.setTop (mkF m 249 #[.val (.long p0), .second, .val (.long p1), .second, .val (.long p2), .second, .val (.int p3), .val (.long x0), .second, .val (.long y1), .second, .val (.long y2), .second, .val (.int (0 : Int32)), .val (.long xt), .second, .val (.ref ob), .val (.ref ra), .val (.int z0), .val (.int z1), .val (.int z2), .unset] [(.int z0)]))
        refine own_Go.st (fun _ kt => XS.iload X34.here hx rfl (hb hby at_249) rfl kt) ?_
        show own_Go p e below _ (T34.setTop (mkF m 251 #[.val (.long p0), .second, .val (.long p1), .second, .val (.long p2), .second, .val (.int p3), .val (.long x0), .second, .val (.long y1), .second, .val (.long y2), .second, .val (.int (0 : Int32)), .val (.long xt), .second, .val (.ref ob), .val (.ref ra), .val (.int z0), .val (.int z1), .val (.int z2), .unset] [(.int z1), (.int z0)]))
        rcases g1 with ⟨rfl, q⟩ | ⟨rfl, q⟩
        · show own_Go p e below _ (T34.setTop (mkF m 251 #[.val (.long p0), .second, .val (.long p1), .second, .val (.long p2), .second, .val (.int p3), .val (.long x0), .second, .val (.long y1), .second, .val (.long y2), .second, .val (.int (0 : Int32)), .val (.long xt), .second, .val (.ref ob), .val (.ref ra), .val (.int z0), .val (.int (1 : Int32)), .val (.int z2), .unset] [(.int (1 : Int32)), (.int z0)]))
          refine own_Go.st (fun _ kt => XS.ifNo X34.here hx rfl (hb hby at_251) rfl ((if0 _ _).trans (feq (by decide)).1) kt) ?_
          show own_Go p e below _ (T34.setTop (mkF m 254 #[.val (.long p0), .second, .val (.long p1), .second, .val (.long p2), .second, .val (.int p3), .val (.long x0), .second, .val (.long y1), .second, .val (.long y2), .second, .val (.int (0 : Int32)), .val (.long xt), .second, .val (.ref ob), .val (.ref ra), .val (.int z0), .val (.int (1 : Int32)), .val (.int z2), .unset] [(.int z0)]))
          refine own_Go.st (fun _ kt => XS.iconst X34.here hx rfl (hb hby at_254) kt) ?_
          show own_Go p e below _ (T34.setTop (mkF m 255 #[.val (.long p0), .second, .val (.long p1), .second, .val (.long p2), .second, .val (.int p3), .val (.long x0), .second, .val (.long y1), .second, .val (.long y2), .second, .val (.int (0 : Int32)), .val (.long xt), .second, .val (.ref ob), .val (.ref ra), .val (.int z0), .val (.int (1 : Int32)), .val (.int z2), .unset] [(.int (1 : Int32)), (.int z0)]))
          refine own_Go.st (fun _ kt => XS.goto X34.here hx rfl (pc0 := 255) (pc' := 259) rfl (hb hby at_255) (by decide) (by decide) kt) ?_
          show own_Go p e below _ (T34.setTop (mkF m 259 #[.val (.long p0), .second, .val (.long p1), .second, .val (.long p2), .second, .val (.int p3), .val (.long x0), .second, .val (.long y1), .second, .val (.long y2), .second, .val (.int (0 : Int32)), .val (.long xt), .second, .val (.ref ob), .val (.ref ra), .val (.int z0), .val (.int (1 : Int32)), .val (.int z2), .unset] [(.int (1 : Int32)), (.int z0)]))
          refine own_Go.st (fun _ kt => XS.iadd X34.here hx rfl (hb hby at_259) rfl kt) ?_
          show own_Go p e below _ (T34.setTop (mkF m 260 #[.val (.long p0), .second, .val (.long p1), .second, .val (.long p2), .second, .val (.int p3), .val (.long x0), .second, .val (.long y1), .second, .val (.long y2), .second, .val (.int (0 : Int32)), .val (.long xt), .second, .val (.ref ob), .val (.ref ra), .val (.int z0), .val (.int (1 : Int32)), .val (.int z2), .unset] [(.int (z0 + (1 : Int32)))]))
          exact J260 _ _ X34 e34 N34 _ g0 _ (Or.inl ⟨rfl, q⟩) _ g2
        · show own_Go p e below _ (T34.setTop (mkF m 251 #[.val (.long p0), .second, .val (.long p1), .second, .val (.long p2), .second, .val (.int p3), .val (.long x0), .second, .val (.long y1), .second, .val (.long y2), .second, .val (.int (0 : Int32)), .val (.long xt), .second, .val (.ref ob), .val (.ref ra), .val (.int z0), .val (.int (0 : Int32)), .val (.int z2), .unset] [(.int (0 : Int32)), (.int z0)]))
          refine own_Go.st (fun _ kt => XS.ifYes X34.here hx rfl (pc0 := 251) (pc' := 258) rfl (hb hby at_251) rfl ((if0 _ _).trans (teq rfl).1) (by decide) (by decide) kt) ?_
          show own_Go p e below _ (T34.setTop (mkF m 258 #[.val (.long p0), .second, .val (.long p1), .second, .val (.long p2), .second, .val (.int p3), .val (.long x0), .second, .val (.long y1), .second, .val (.long y2), .second, .val (.int (0 : Int32)), .val (.long xt), .second, .val (.ref ob), .val (.ref ra), .val (.int z0), .val (.int (0 : Int32)), .val (.int z2), .unset] [(.int z0)]))
          refine own_Go.st (fun _ kt => XS.iconst X34.here hx rfl (hb hby at_258) kt) ?_
          show own_Go p e below _ (T34.setTop (mkF m 259 #[.val (.long p0), .second, .val (.long p1), .second, .val (.long p2), .second, .val (.int p3), .val (.long x0), .second, .val (.long y1), .second, .val (.long y2), .second, .val (.int (0 : Int32)), .val (.long xt), .second, .val (.ref ob), .val (.ref ra), .val (.int z0), .val (.int (0 : Int32)), .val (.int z2), .unset] [(.int (0 : Int32)), (.int z0)]))
          refine own_Go.st (fun _ kt => XS.iadd X34.here hx rfl (hb hby at_259) rfl kt) ?_
          show own_Go p e below _ (T34.setTop (mkF m 260 #[.val (.long p0), .second, .val (.long p1), .second, .val (.long p2), .second, .val (.int p3), .val (.long x0), .second, .val (.long y1), .second, .val (.long y2), .second, .val (.int (0 : Int32)), .val (.long xt), .second, .val (.ref ob), .val (.ref ra), .val (.int z0), .val (.int (0 : Int32)), .val (.int z2), .unset] [(.int (z0 + (0 : Int32)))]))
          exact J260 _ _ X34 e34 N34 _ g0 _ (Or.inr ⟨rfl, q⟩) _ g2
      have J239 : ∀ (T35 : State) (lc35 : List Loc) (X35 : Stand p l e room_1 s m #[(.long p0), (.long p1), (.long p2), (.int p3)] below meth c T35 lc35 4 38) (e35 : T35.heap = T25.heap) (N35 : Fr n0 lc35) (z0 : Int32) (g0 : own_B z0 (True)) (z1 : Int32) (g1 : own_B z1 (y1 ≠ x0)) (z2 : Int32) (g2 : own_B z2 (y2 ≠ x0 ∧ y2 ≠ y1)), own_Go p e below (fun o U' => ∃ v L, o = .returned v ∧ own_Q_own_law Z p0 p1 p2 p3 rc h0 n0 v U'.heap L ∧ FrameEnd s o U' L room_1.cells room_1.slots) (T35.setTop (mkF m 239 #[.val (.long p0), .second, .val (.long p1), .second, .val (.long p2), .second, .val (.int p3), .val (.long x0), .second, .val (.long y1), .second, .val (.long y2), .second, .val (.int (0 : Int32)), .val (.long xt), .second, .val (.ref ob), .val (.ref ra), .val (.int z0), .val (.int z1), .val (.int z2), .unset] [])) := by
        intro T35 lc35 X35 e35 N35 z0 g0 z1 g1 z2 g2
        show own_Go p e below _ (T35.setTop (mkF m 239 #[.val (.long p0), .second, .val (.long p1), .second, .val (.long p2), .second, .val (.int p3), .val (.long x0), .second, .val (.long y1), .second, .val (.long y2), .second, .val (.int (0 : Int32)), .val (.long xt), .second, .val (.ref ob), .val (.ref ra), .val (.int z0), .val (.int z1), .val (.int z2), .unset] []))
        refine own_Go.st (fun _ kt => XS.iload X35.here hx rfl (hb hby at_239) rfl kt) ?_
        show own_Go p e below _ (T35.setTop (mkF m 241 #[.val (.long p0), .second, .val (.long p1), .second, .val (.long p2), .second, .val (.int p3), .val (.long x0), .second, .val (.long y1), .second, .val (.long y2), .second, .val (.int (0 : Int32)), .val (.long xt), .second, .val (.ref ob), .val (.ref ra), .val (.int z0), .val (.int z1), .val (.int z2), .unset] [(.int z0)]))
        rcases g0 with ⟨rfl, q⟩ | ⟨rfl, q⟩
        · show own_Go p e below _ (T35.setTop (mkF m 241 #[.val (.long p0), .second, .val (.long p1), .second, .val (.long p2), .second, .val (.int p3), .val (.long x0), .second, .val (.long y1), .second, .val (.long y2), .second, .val (.int (0 : Int32)), .val (.long xt), .second, .val (.ref ob), .val (.ref ra), .val (.int (1 : Int32)), .val (.int z1), .val (.int z2), .unset] [(.int (1 : Int32))]))
          refine own_Go.st (fun _ kt => XS.ifNo X35.here hx rfl (hb hby at_241) rfl ((if0 _ _).trans (feq (by decide)).1) kt) ?_
          show own_Go p e below _ (T35.setTop (mkF m 244 #[.val (.long p0), .second, .val (.long p1), .second, .val (.long p2), .second, .val (.int p3), .val (.long x0), .second, .val (.long y1), .second, .val (.long y2), .second, .val (.int (0 : Int32)), .val (.long xt), .second, .val (.ref ob), .val (.ref ra), .val (.int (1 : Int32)), .val (.int z1), .val (.int z2), .unset] []))
          refine own_Go.st (fun _ kt => XS.iconst X35.here hx rfl (hb hby at_244) kt) ?_
          show own_Go p e below _ (T35.setTop (mkF m 245 #[.val (.long p0), .second, .val (.long p1), .second, .val (.long p2), .second, .val (.int p3), .val (.long x0), .second, .val (.long y1), .second, .val (.long y2), .second, .val (.int (0 : Int32)), .val (.long xt), .second, .val (.ref ob), .val (.ref ra), .val (.int (1 : Int32)), .val (.int z1), .val (.int z2), .unset] [(.int (1 : Int32))]))
          refine own_Go.st (fun _ kt => XS.goto X35.here hx rfl (pc0 := 245) (pc' := 249) rfl (hb hby at_245) (by decide) (by decide) kt) ?_
          show own_Go p e below _ (T35.setTop (mkF m 249 #[.val (.long p0), .second, .val (.long p1), .second, .val (.long p2), .second, .val (.int p3), .val (.long x0), .second, .val (.long y1), .second, .val (.long y2), .second, .val (.int (0 : Int32)), .val (.long xt), .second, .val (.ref ob), .val (.ref ra), .val (.int (1 : Int32)), .val (.int z1), .val (.int z2), .unset] [(.int (1 : Int32))]))
          exact J249 _ _ X35 e35 N35 _ (Or.inl ⟨rfl, q⟩) _ g1 _ g2
        · show own_Go p e below _ (T35.setTop (mkF m 241 #[.val (.long p0), .second, .val (.long p1), .second, .val (.long p2), .second, .val (.int p3), .val (.long x0), .second, .val (.long y1), .second, .val (.long y2), .second, .val (.int (0 : Int32)), .val (.long xt), .second, .val (.ref ob), .val (.ref ra), .val (.int (0 : Int32)), .val (.int z1), .val (.int z2), .unset] [(.int (0 : Int32))]))
          refine own_Go.st (fun _ kt => XS.ifYes X35.here hx rfl (pc0 := 241) (pc' := 248) rfl (hb hby at_241) rfl ((if0 _ _).trans (teq rfl).1) (by decide) (by decide) kt) ?_
          show own_Go p e below _ (T35.setTop (mkF m 248 #[.val (.long p0), .second, .val (.long p1), .second, .val (.long p2), .second, .val (.int p3), .val (.long x0), .second, .val (.long y1), .second, .val (.long y2), .second, .val (.int (0 : Int32)), .val (.long xt), .second, .val (.ref ob), .val (.ref ra), .val (.int (0 : Int32)), .val (.int z1), .val (.int z2), .unset] []))
          refine own_Go.st (fun _ kt => XS.iconst X35.here hx rfl (hb hby at_248) kt) ?_
          show own_Go p e below _ (T35.setTop (mkF m 249 #[.val (.long p0), .second, .val (.long p1), .second, .val (.long p2), .second, .val (.int p3), .val (.long x0), .second, .val (.long y1), .second, .val (.long y2), .second, .val (.int (0 : Int32)), .val (.long xt), .second, .val (.ref ob), .val (.ref ra), .val (.int (0 : Int32)), .val (.int z1), .val (.int z2), .unset] [(.int (0 : Int32))]))
          exact J249 _ _ X35 e35 N35 _ (Or.inr ⟨rfl, q⟩) _ g1 _ g2
      have J203 : ∀ (T36 : State) (lc36 : List Loc) (X36 : Stand p l e room_1 s m #[(.long p0), (.long p1), (.long p2), (.int p3)] below meth c T36 lc36 4 38) (e36 : T36.heap = T25.heap) (N36 : Fr n0 lc36) (z0 : Int32) (g0 : own_B z0 (True)) (z1 : Int32) (g1 : own_B z1 (y1 ≠ x0)), own_Go p e below (fun o U' => ∃ v L, o = .returned v ∧ own_Q_own_law Z p0 p1 p2 p3 rc h0 n0 v U'.heap L ∧ FrameEnd s o U' L room_1.cells room_1.slots) (T36.setTop (mkF m 203 #[.val (.long p0), .second, .val (.long p1), .second, .val (.long p2), .second, .val (.int p3), .val (.long x0), .second, .val (.long y1), .second, .val (.long y2), .second, .val (.int (0 : Int32)), .val (.long xt), .second, .val (.ref ob), .val (.ref ra), .val (.int z0), .val (.int z1), .unset, .unset] [])) := by
        intro T36 lc36 X36 e36 N36 z0 g0 z1 g1
        show own_Go p e below _ (T36.setTop (mkF m 203 #[.val (.long p0), .second, .val (.long p1), .second, .val (.long p2), .second, .val (.int p3), .val (.long x0), .second, .val (.long y1), .second, .val (.long y2), .second, .val (.int (0 : Int32)), .val (.long xt), .second, .val (.ref ob), .val (.ref ra), .val (.int z0), .val (.int z1), .unset, .unset] []))
        refine own_Go.st (fun _ kt => XS.lload X36.here hx rfl (hb hby at_203) rfl kt) ?_
        show own_Go p e below _ (T36.setTop (mkF m 205 #[.val (.long p0), .second, .val (.long p1), .second, .val (.long p2), .second, .val (.int p3), .val (.long x0), .second, .val (.long y1), .second, .val (.long y2), .second, .val (.int (0 : Int32)), .val (.long xt), .second, .val (.ref ob), .val (.ref ra), .val (.int z0), .val (.int z1), .unset, .unset] [(.long y2)]))
        refine own_Go.st (fun _ kt => XS.lload X36.here hx rfl (hb hby at_205) rfl kt) ?_
        show own_Go p e below _ (T36.setTop (mkF m 207 #[.val (.long p0), .second, .val (.long p1), .second, .val (.long p2), .second, .val (.int p3), .val (.long x0), .second, .val (.long y1), .second, .val (.long y2), .second, .val (.int (0 : Int32)), .val (.long xt), .second, .val (.ref ob), .val (.ref ra), .val (.int z0), .val (.int z1), .unset, .unset] [(.long x0), (.long y2)]))
        refine own_Go.st (fun _ kt => XS.lcmp X36.here hx rfl (hb hby at_207) rfl kt) ?_
        show own_Go p e below _ (T36.setTop (mkF m 208 #[.val (.long p0), .second, .val (.long p1), .second, .val (.long p2), .second, .val (.int p3), .val (.long x0), .second, .val (.long y1), .second, .val (.long y2), .second, .val (.int (0 : Int32)), .val (.long xt), .second, .val (.ref ob), .val (.ref ra), .val (.int z0), .val (.int z1), .unset, .unset] [(.int (lcmpW y2 x0))]))
        by_cases c1 : y2 = x0
        · refine own_Go.st (fun _ kt => XS.ifYes X36.here hx rfl (pc0 := 208) (pc' := 236) rfl (hb hby at_208) rfl ((if0 _ _).trans (teq ((lw_eq _ _).mpr c1)).1) (by decide) (by decide) kt) ?_
          show own_Go p e below _ (T36.setTop (mkF m 236 #[.val (.long p0), .second, .val (.long p1), .second, .val (.long p2), .second, .val (.int p3), .val (.long x0), .second, .val (.long y1), .second, .val (.long y2), .second, .val (.int (0 : Int32)), .val (.long xt), .second, .val (.ref ob), .val (.ref ra), .val (.int z0), .val (.int z1), .unset, .unset] []))
          refine own_Go.st (fun _ kt => XS.iconst X36.here hx rfl (hb hby at_236) kt) ?_
          show own_Go p e below _ (T36.setTop (mkF m 237 #[.val (.long p0), .second, .val (.long p1), .second, .val (.long p2), .second, .val (.int p3), .val (.long x0), .second, .val (.long y1), .second, .val (.long y2), .second, .val (.int (0 : Int32)), .val (.long xt), .second, .val (.ref ob), .val (.ref ra), .val (.int z0), .val (.int z1), .unset, .unset] [(.int (0 : Int32))]))
          refine own_Go.st (fun _ kt => XS.istore X36.here hx rfl (hb hby at_237) rfl (l' := #[.val (.long p0), .second, .val (.long p1), .second, .val (.long p2), .second, .val (.int p3), .val (.long x0), .second, .val (.long y1), .second, .val (.long y2), .second, .val (.int (0 : Int32)), .val (.long xt), .second, .val (.ref ob), .val (.ref ra), .val (.int z0), .val (.int z1), .val (.int (0 : Int32)), .unset]) rfl kt) ?_
          show own_Go p e below _ (T36.setTop (mkF m 239 #[.val (.long p0), .second, .val (.long p1), .second, .val (.long p2), .second, .val (.int p3), .val (.long x0), .second, .val (.long y1), .second, .val (.long y2), .second, .val (.int (0 : Int32)), .val (.long xt), .second, .val (.ref ob), .val (.ref ra), .val (.int z0), .val (.int z1), .val (.int (0 : Int32)), .unset] []))
          exact J239 _ _ X36 e36 N36 _ g0 _ g1 _ (Or.inr ⟨rfl, fun z => z.1 c1⟩)
        · refine own_Go.st (fun _ kt => XS.ifNo X36.here hx rfl (hb hby at_208) rfl ((if0 _ _).trans (feq (mt (lw_eq _ _).mp c1)).1) kt) ?_
          show own_Go p e below _ (T36.setTop (mkF m 211 #[.val (.long p0), .second, .val (.long p1), .second, .val (.long p2), .second, .val (.int p3), .val (.long x0), .second, .val (.long y1), .second, .val (.long y2), .second, .val (.int (0 : Int32)), .val (.long xt), .second, .val (.ref ob), .val (.ref ra), .val (.int z0), .val (.int z1), .unset, .unset] []))
          refine own_Go.st (fun _ kt => XS.lload X36.here hx rfl (hb hby at_211) rfl kt) ?_
          show own_Go p e below _ (T36.setTop (mkF m 213 #[.val (.long p0), .second, .val (.long p1), .second, .val (.long p2), .second, .val (.int p3), .val (.long x0), .second, .val (.long y1), .second, .val (.long y2), .second, .val (.int (0 : Int32)), .val (.long xt), .second, .val (.ref ob), .val (.ref ra), .val (.int z0), .val (.int z1), .unset, .unset] [(.long y2)]))
          refine own_Go.st (fun _ kt => XS.lload X36.here hx rfl (hb hby at_213) rfl kt) ?_
          show own_Go p e below _ (T36.setTop (mkF m 215 #[.val (.long p0), .second, .val (.long p1), .second, .val (.long p2), .second, .val (.int p3), .val (.long x0), .second, .val (.long y1), .second, .val (.long y2), .second, .val (.int (0 : Int32)), .val (.long xt), .second, .val (.ref ob), .val (.ref ra), .val (.int z0), .val (.int z1), .unset, .unset] [(.long y1), (.long y2)]))
          refine own_Go.st (fun _ kt => XS.lcmp X36.here hx rfl (hb hby at_215) rfl kt) ?_
          show own_Go p e below _ (T36.setTop (mkF m 216 #[.val (.long p0), .second, .val (.long p1), .second, .val (.long p2), .second, .val (.int p3), .val (.long x0), .second, .val (.long y1), .second, .val (.long y2), .second, .val (.int (0 : Int32)), .val (.long xt), .second, .val (.ref ob), .val (.ref ra), .val (.int z0), .val (.int z1), .unset, .unset] [(.int (lcmpW y2 y1))]))
          by_cases c2 : y2 = y1
          · refine own_Go.st (fun _ kt => XS.ifYes X36.here hx rfl (pc0 := 216) (pc' := 236) rfl (hb hby at_216) rfl ((if0 _ _).trans (teq ((lw_eq _ _).mpr c2)).1) (by decide) (by decide) kt) ?_
            show own_Go p e below _ (T36.setTop (mkF m 236 #[.val (.long p0), .second, .val (.long p1), .second, .val (.long p2), .second, .val (.int p3), .val (.long x0), .second, .val (.long y1), .second, .val (.long y2), .second, .val (.int (0 : Int32)), .val (.long xt), .second, .val (.ref ob), .val (.ref ra), .val (.int z0), .val (.int z1), .unset, .unset] []))
            refine own_Go.st (fun _ kt => XS.iconst X36.here hx rfl (hb hby at_236) kt) ?_
            show own_Go p e below _ (T36.setTop (mkF m 237 #[.val (.long p0), .second, .val (.long p1), .second, .val (.long p2), .second, .val (.int p3), .val (.long x0), .second, .val (.long y1), .second, .val (.long y2), .second, .val (.int (0 : Int32)), .val (.long xt), .second, .val (.ref ob), .val (.ref ra), .val (.int z0), .val (.int z1), .unset, .unset] [(.int (0 : Int32))]))
            refine own_Go.st (fun _ kt => XS.istore X36.here hx rfl (hb hby at_237) rfl (l' := #[.val (.long p0), .second, .val (.long p1), .second, .val (.long p2), .second, .val (.int p3), .val (.long x0), .second, .val (.long y1), .second, .val (.long y2), .second, .val (.int (0 : Int32)), .val (.long xt), .second, .val (.ref ob), .val (.ref ra), .val (.int z0), .val (.int z1), .val (.int (0 : Int32)), .unset]) rfl kt) ?_
            show own_Go p e below _ (T36.setTop (mkF m 239 #[.val (.long p0), .second, .val (.long p1), .second, .val (.long p2), .second, .val (.int p3), .val (.long x0), .second, .val (.long y1), .second, .val (.long y2), .second, .val (.int (0 : Int32)), .val (.long xt), .second, .val (.ref ob), .val (.ref ra), .val (.int z0), .val (.int z1), .val (.int (0 : Int32)), .unset] []))
            exact J239 _ _ X36 e36 N36 _ g0 _ g1 _ (Or.inr ⟨rfl, fun z => z.2 c2⟩)
          · refine own_Go.st (fun _ kt => XS.ifNo X36.here hx rfl (hb hby at_216) rfl ((if0 _ _).trans (feq (mt (lw_eq _ _).mp c2)).1) kt) ?_
            show own_Go p e below _ (T36.setTop (mkF m 219 #[.val (.long p0), .second, .val (.long p1), .second, .val (.long p2), .second, .val (.int p3), .val (.long x0), .second, .val (.long y1), .second, .val (.long y2), .second, .val (.int (0 : Int32)), .val (.long xt), .second, .val (.ref ob), .val (.ref ra), .val (.int z0), .val (.int z1), .unset, .unset] []))
            refine own_Go.st (fun _ kt => XS.iload X36.here hx rfl (hb hby at_219) rfl kt) ?_
            show own_Go p e below _ (T36.setTop (mkF m 221 #[.val (.long p0), .second, .val (.long p1), .second, .val (.long p2), .second, .val (.int p3), .val (.long x0), .second, .val (.long y1), .second, .val (.long y2), .second, .val (.int (0 : Int32)), .val (.long xt), .second, .val (.ref ob), .val (.ref ra), .val (.int z0), .val (.int z1), .unset, .unset] [(.int (0 : Int32))]))
            refine own_Go.st (fun _ kt => XS.ifYes X36.here hx rfl (pc0 := 221) (pc' := 232) rfl (hb hby at_221) rfl ((if0 _ _).trans (teq rfl).1) (by decide) (by decide) kt) ?_
            show own_Go p e below _ (T36.setTop (mkF m 232 #[.val (.long p0), .second, .val (.long p1), .second, .val (.long p2), .second, .val (.int p3), .val (.long x0), .second, .val (.long y1), .second, .val (.long y2), .second, .val (.int (0 : Int32)), .val (.long xt), .second, .val (.ref ob), .val (.ref ra), .val (.int z0), .val (.int z1), .unset, .unset] []))
            refine own_Go.st (fun _ kt => XS.iconst X36.here hx rfl (hb hby at_232) kt) ?_
            show own_Go p e below _ (T36.setTop (mkF m 233 #[.val (.long p0), .second, .val (.long p1), .second, .val (.long p2), .second, .val (.int p3), .val (.long x0), .second, .val (.long y1), .second, .val (.long y2), .second, .val (.int (0 : Int32)), .val (.long xt), .second, .val (.ref ob), .val (.ref ra), .val (.int z0), .val (.int z1), .unset, .unset] [(.int (1 : Int32))]))
            refine own_Go.st (fun _ kt => XS.goto X36.here hx rfl (pc0 := 233) (pc' := 237) rfl (hb hby at_233) (by decide) (by decide) kt) ?_
            show own_Go p e below _ (T36.setTop (mkF m 237 #[.val (.long p0), .second, .val (.long p1), .second, .val (.long p2), .second, .val (.int p3), .val (.long x0), .second, .val (.long y1), .second, .val (.long y2), .second, .val (.int (0 : Int32)), .val (.long xt), .second, .val (.ref ob), .val (.ref ra), .val (.int z0), .val (.int z1), .unset, .unset] [(.int (1 : Int32))]))
            refine own_Go.st (fun _ kt => XS.istore X36.here hx rfl (hb hby at_237) rfl (l' := #[.val (.long p0), .second, .val (.long p1), .second, .val (.long p2), .second, .val (.int p3), .val (.long x0), .second, .val (.long y1), .second, .val (.long y2), .second, .val (.int (0 : Int32)), .val (.long xt), .second, .val (.ref ob), .val (.ref ra), .val (.int z0), .val (.int z1), .val (.int (1 : Int32)), .unset]) rfl kt) ?_
            show own_Go p e below _ (T36.setTop (mkF m 239 #[.val (.long p0), .second, .val (.long p1), .second, .val (.long p2), .second, .val (.int p3), .val (.long x0), .second, .val (.long y1), .second, .val (.long y2), .second, .val (.int (0 : Int32)), .val (.long xt), .second, .val (.ref ob), .val (.ref ra), .val (.int z0), .val (.int z1), .val (.int (1 : Int32)), .unset] []))
            exact J239 _ _ X36 e36 N36 _ g0 _ g1 _ (Or.inl ⟨rfl, c1, c2⟩)
      have J175 : ∀ (T37 : State) (lc37 : List Loc) (X37 : Stand p l e room_1 s m #[(.long p0), (.long p1), (.long p2), (.int p3)] below meth c T37 lc37 4 38) (e37 : T37.heap = T25.heap) (N37 : Fr n0 lc37) (z0 : Int32) (g0 : own_B z0 (True)), own_Go p e below (fun o U' => ∃ v L, o = .returned v ∧ own_Q_own_law Z p0 p1 p2 p3 rc h0 n0 v U'.heap L ∧ FrameEnd s o U' L room_1.cells room_1.slots) (T37.setTop (mkF m 175 #[.val (.long p0), .second, .val (.long p1), .second, .val (.long p2), .second, .val (.int p3), .val (.long x0), .second, .val (.long y1), .second, .val (.long y2), .second, .val (.int (0 : Int32)), .val (.long xt), .second, .val (.ref ob), .val (.ref ra), .val (.int z0), .unset, .unset, .unset] [])) := by
        intro T37 lc37 X37 e37 N37 z0 g0
        show own_Go p e below _ (T37.setTop (mkF m 175 #[.val (.long p0), .second, .val (.long p1), .second, .val (.long p2), .second, .val (.int p3), .val (.long x0), .second, .val (.long y1), .second, .val (.long y2), .second, .val (.int (0 : Int32)), .val (.long xt), .second, .val (.ref ob), .val (.ref ra), .val (.int z0), .unset, .unset, .unset] []))
        refine own_Go.st (fun _ kt => XS.lload X37.here hx rfl (hb hby at_175) rfl kt) ?_
        show own_Go p e below _ (T37.setTop (mkF m 177 #[.val (.long p0), .second, .val (.long p1), .second, .val (.long p2), .second, .val (.int p3), .val (.long x0), .second, .val (.long y1), .second, .val (.long y2), .second, .val (.int (0 : Int32)), .val (.long xt), .second, .val (.ref ob), .val (.ref ra), .val (.int z0), .unset, .unset, .unset] [(.long y1)]))
        refine own_Go.st (fun _ kt => XS.lload X37.here hx rfl (hb hby at_177) rfl kt) ?_
        show own_Go p e below _ (T37.setTop (mkF m 179 #[.val (.long p0), .second, .val (.long p1), .second, .val (.long p2), .second, .val (.int p3), .val (.long x0), .second, .val (.long y1), .second, .val (.long y2), .second, .val (.int (0 : Int32)), .val (.long xt), .second, .val (.ref ob), .val (.ref ra), .val (.int z0), .unset, .unset, .unset] [(.long x0), (.long y1)]))
        refine own_Go.st (fun _ kt => XS.lcmp X37.here hx rfl (hb hby at_179) rfl kt) ?_
        show own_Go p e below _ (T37.setTop (mkF m 180 #[.val (.long p0), .second, .val (.long p1), .second, .val (.long p2), .second, .val (.int p3), .val (.long x0), .second, .val (.long y1), .second, .val (.long y2), .second, .val (.int (0 : Int32)), .val (.long xt), .second, .val (.ref ob), .val (.ref ra), .val (.int z0), .unset, .unset, .unset] [(.int (lcmpW y1 x0))]))
        by_cases c1 : y1 = x0
        · refine own_Go.st (fun _ kt => XS.ifYes X37.here hx rfl (pc0 := 180) (pc' := 200) rfl (hb hby at_180) rfl ((if0 _ _).trans (teq ((lw_eq _ _).mpr c1)).1) (by decide) (by decide) kt) ?_
          show own_Go p e below _ (T37.setTop (mkF m 200 #[.val (.long p0), .second, .val (.long p1), .second, .val (.long p2), .second, .val (.int p3), .val (.long x0), .second, .val (.long y1), .second, .val (.long y2), .second, .val (.int (0 : Int32)), .val (.long xt), .second, .val (.ref ob), .val (.ref ra), .val (.int z0), .unset, .unset, .unset] []))
          refine own_Go.st (fun _ kt => XS.iconst X37.here hx rfl (hb hby at_200) kt) ?_
          show own_Go p e below _ (T37.setTop (mkF m 201 #[.val (.long p0), .second, .val (.long p1), .second, .val (.long p2), .second, .val (.int p3), .val (.long x0), .second, .val (.long y1), .second, .val (.long y2), .second, .val (.int (0 : Int32)), .val (.long xt), .second, .val (.ref ob), .val (.ref ra), .val (.int z0), .unset, .unset, .unset] [(.int (0 : Int32))]))
          refine own_Go.st (fun _ kt => XS.istore X37.here hx rfl (hb hby at_201) rfl (l' := #[.val (.long p0), .second, .val (.long p1), .second, .val (.long p2), .second, .val (.int p3), .val (.long x0), .second, .val (.long y1), .second, .val (.long y2), .second, .val (.int (0 : Int32)), .val (.long xt), .second, .val (.ref ob), .val (.ref ra), .val (.int z0), .val (.int (0 : Int32)), .unset, .unset]) rfl kt) ?_
          show own_Go p e below _ (T37.setTop (mkF m 203 #[.val (.long p0), .second, .val (.long p1), .second, .val (.long p2), .second, .val (.int p3), .val (.long x0), .second, .val (.long y1), .second, .val (.long y2), .second, .val (.int (0 : Int32)), .val (.long xt), .second, .val (.ref ob), .val (.ref ra), .val (.int z0), .val (.int (0 : Int32)), .unset, .unset] []))
          exact J203 _ _ X37 e37 N37 _ g0 _ (Or.inr ⟨rfl, fun z => z c1⟩)
        · refine own_Go.st (fun _ kt => XS.ifNo X37.here hx rfl (hb hby at_180) rfl ((if0 _ _).trans (feq (mt (lw_eq _ _).mp c1)).1) kt) ?_
          show own_Go p e below _ (T37.setTop (mkF m 183 #[.val (.long p0), .second, .val (.long p1), .second, .val (.long p2), .second, .val (.int p3), .val (.long x0), .second, .val (.long y1), .second, .val (.long y2), .second, .val (.int (0 : Int32)), .val (.long xt), .second, .val (.ref ob), .val (.ref ra), .val (.int z0), .unset, .unset, .unset] []))
          refine own_Go.st (fun _ kt => XS.iload X37.here hx rfl (hb hby at_183) rfl kt) ?_
          show own_Go p e below _ (T37.setTop (mkF m 185 #[.val (.long p0), .second, .val (.long p1), .second, .val (.long p2), .second, .val (.int p3), .val (.long x0), .second, .val (.long y1), .second, .val (.long y2), .second, .val (.int (0 : Int32)), .val (.long xt), .second, .val (.ref ob), .val (.ref ra), .val (.int z0), .unset, .unset, .unset] [(.int (0 : Int32))]))
          refine own_Go.st (fun _ kt => XS.ifYes X37.here hx rfl (pc0 := 185) (pc' := 196) rfl (hb hby at_185) rfl ((if0 _ _).trans (teq rfl).1) (by decide) (by decide) kt) ?_
          show own_Go p e below _ (T37.setTop (mkF m 196 #[.val (.long p0), .second, .val (.long p1), .second, .val (.long p2), .second, .val (.int p3), .val (.long x0), .second, .val (.long y1), .second, .val (.long y2), .second, .val (.int (0 : Int32)), .val (.long xt), .second, .val (.ref ob), .val (.ref ra), .val (.int z0), .unset, .unset, .unset] []))
          refine own_Go.st (fun _ kt => XS.iconst X37.here hx rfl (hb hby at_196) kt) ?_
          show own_Go p e below _ (T37.setTop (mkF m 197 #[.val (.long p0), .second, .val (.long p1), .second, .val (.long p2), .second, .val (.int p3), .val (.long x0), .second, .val (.long y1), .second, .val (.long y2), .second, .val (.int (0 : Int32)), .val (.long xt), .second, .val (.ref ob), .val (.ref ra), .val (.int z0), .unset, .unset, .unset] [(.int (1 : Int32))]))
          refine own_Go.st (fun _ kt => XS.goto X37.here hx rfl (pc0 := 197) (pc' := 201) rfl (hb hby at_197) (by decide) (by decide) kt) ?_
          show own_Go p e below _ (T37.setTop (mkF m 201 #[.val (.long p0), .second, .val (.long p1), .second, .val (.long p2), .second, .val (.int p3), .val (.long x0), .second, .val (.long y1), .second, .val (.long y2), .second, .val (.int (0 : Int32)), .val (.long xt), .second, .val (.ref ob), .val (.ref ra), .val (.int z0), .unset, .unset, .unset] [(.int (1 : Int32))]))
          refine own_Go.st (fun _ kt => XS.istore X37.here hx rfl (hb hby at_201) rfl (l' := #[.val (.long p0), .second, .val (.long p1), .second, .val (.long p2), .second, .val (.int p3), .val (.long x0), .second, .val (.long y1), .second, .val (.long y2), .second, .val (.int (0 : Int32)), .val (.long xt), .second, .val (.ref ob), .val (.ref ra), .val (.int z0), .val (.int (1 : Int32)), .unset, .unset]) rfl kt) ?_
          show own_Go p e below _ (T37.setTop (mkF m 203 #[.val (.long p0), .second, .val (.long p1), .second, .val (.long p2), .second, .val (.int p3), .val (.long x0), .second, .val (.long y1), .second, .val (.long y2), .second, .val (.int (0 : Int32)), .val (.long xt), .second, .val (.ref ob), .val (.ref ra), .val (.int z0), .val (.int (1 : Int32)), .unset, .unset] []))
          exact J203 _ _ X37 e37 N37 _ g0 _ (Or.inl ⟨rfl, c1⟩)
      refine own_Go.st (fun _ kt => XS.iload X25.here hx rfl (hb hby at_155) rfl kt) ?_
      show own_Go p e below _ (T25.setTop (mkF m 157 #[.val (.long p0), .second, .val (.long p1), .second, .val (.long p2), .second, .val (.int p3), .val (.long x0), .second, .val (.long y1), .second, .val (.long y2), .second, .val (.int (0 : Int32)), .val (.long xt), .second, .val (.ref ob), .val (.ref ra), .unset, .unset, .unset, .unset] [(.int (0 : Int32))]))
      refine own_Go.st (fun _ kt => XS.ifYes X25.here hx rfl (pc0 := 157) (pc' := 168) rfl (hb hby at_157) rfl ((if0 _ _).trans (teq rfl).1) (by decide) (by decide) kt) ?_
      show own_Go p e below _ (T25.setTop (mkF m 168 #[.val (.long p0), .second, .val (.long p1), .second, .val (.long p2), .second, .val (.int p3), .val (.long x0), .second, .val (.long y1), .second, .val (.long y2), .second, .val (.int (0 : Int32)), .val (.long xt), .second, .val (.ref ob), .val (.ref ra), .unset, .unset, .unset, .unset] []))
      refine own_Go.st (fun _ kt => XS.iconst X25.here hx rfl (hb hby at_168) kt) ?_
      show own_Go p e below _ (T25.setTop (mkF m 169 #[.val (.long p0), .second, .val (.long p1), .second, .val (.long p2), .second, .val (.int p3), .val (.long x0), .second, .val (.long y1), .second, .val (.long y2), .second, .val (.int (0 : Int32)), .val (.long xt), .second, .val (.ref ob), .val (.ref ra), .unset, .unset, .unset, .unset] [(.int (1 : Int32))]))
      refine own_Go.st (fun _ kt => XS.goto X25.here hx rfl (pc0 := 169) (pc' := 173) rfl (hb hby at_169) (by decide) (by decide) kt) ?_
      show own_Go p e below _ (T25.setTop (mkF m 173 #[.val (.long p0), .second, .val (.long p1), .second, .val (.long p2), .second, .val (.int p3), .val (.long x0), .second, .val (.long y1), .second, .val (.long y2), .second, .val (.int (0 : Int32)), .val (.long xt), .second, .val (.ref ob), .val (.ref ra), .unset, .unset, .unset, .unset] [(.int (1 : Int32))]))
      refine own_Go.st (fun _ kt => XS.istore X25.here hx rfl (hb hby at_173) rfl (l' := #[.val (.long p0), .second, .val (.long p1), .second, .val (.long p2), .second, .val (.int p3), .val (.long x0), .second, .val (.long y1), .second, .val (.long y2), .second, .val (.int (0 : Int32)), .val (.long xt), .second, .val (.ref ob), .val (.ref ra), .val (.int (1 : Int32)), .unset, .unset, .unset]) rfl kt) ?_
      show own_Go p e below _ (T25.setTop (mkF m 175 #[.val (.long p0), .second, .val (.long p1), .second, .val (.long p2), .second, .val (.int p3), .val (.long x0), .second, .val (.long y1), .second, .val (.long y2), .second, .val (.int (0 : Int32)), .val (.long xt), .second, .val (.ref ob), .val (.ref ra), .val (.int (1 : Int32)), .unset, .unset, .unset] []))
      exact J175 _ _ X25 rfl N25 _ (Or.inl ⟨rfl, trivial⟩)
    · show own_Go p e below _ (T23.setTop (mkF m 137 #[.val (.long p0), .second, .val (.long p1), .second, .val (.long p2), .second, .val (.int p3), .val (.long x0), .second, .val (.long y1), .second, .val (.long y2), .second, .val (.int (1 : Int32)), .val (.long xt), .second, .val (.ref ob), .unset, .unset, .unset, .unset, .unset] [(.int (1 : Int32))]))
      refine own_Go.st (fun _ kt => XS.ifNo X23.here hx rfl (hb hby at_137) rfl ((if0 _ _).trans (feq (by decide)).1) kt) ?_
      show own_Go p e below _ (T23.setTop (mkF m 140 #[.val (.long p0), .second, .val (.long p1), .second, .val (.long p2), .second, .val (.int p3), .val (.long x0), .second, .val (.long y1), .second, .val (.long y2), .second, .val (.int (1 : Int32)), .val (.long xt), .second, .val (.ref ob), .unset, .unset, .unset, .unset, .unset] []))
      have hmt : xt ∈ (own_ls3 x0 y1 y2) := by rcases ht with rfl | rfl; exact own_m0 _ _ _; exact own_m2 _ _ _
      refine own_Go.st (fun _ kt => XS.aload X23.here hx rfl (hb hby at_140) rfl rfl kt) ?_
      show own_Go p e below _ (T23.setTop (mkF m 142 #[.val (.long p0), .second, .val (.long p1), .second, .val (.long p2), .second, .val (.int p3), .val (.long x0), .second, .val (.long y1), .second, .val (.long y2), .second, .val (.int (1 : Int32)), .val (.long xt), .second, .val (.ref ob), .unset, .unset, .unset, .unset, .unset] [(.ref ob)]))
      refine own_Go.st (fun _ kt => XS.lload X23.here hx rfl (hb hby at_142) rfl kt) ?_
      show own_Go p e below _ (T23.setTop (mkF m 144 #[.val (.long p0), .second, .val (.long p1), .second, .val (.long p2), .second, .val (.int p3), .val (.long x0), .second, .val (.long y1), .second, .val (.long y2), .second, .val (.int (1 : Int32)), .val (.long xt), .second, .val (.ref ob), .unset, .unset, .unset, .unset, .unset] [(.long xt), (.ref ob)]))
      obtain ⟨cq38, kq38, q38a, q38b, q38c⟩ := isOf hZ rfl pm23.1
      obtain ⟨_, _, ⟨T38, L38, k38, n38⟩, -, X38, ⟨Lc38, hQ38, l38, y38, z38⟩, st38⟩ := X23.virtualBack hx (y := (⟨"com/example/thicket/thicket/PageMap", "remove", "(J)Ljava/lang/Object;"⟩ : MethodName)) (z := (⟨"com/example/thicket/thicket/PageMap", "remove", "(J)Ljava/lang/Object;"⟩ : MethodName)) hown (mvT hZ (hw _ (List.mem_of_getElem? (i := 72) rfl))) (mvT hZ (hw _ (List.mem_of_getElem? (i := 73) rfl))) (notFace_of_selects (args := #[]) (mvT hZ (hw _ (List.mem_of_getElem? (i := 75) rfl)))) (mvT hZ (hw _ (List.mem_of_getElem? (i := 75) rfl))) (mvT hZ (hw _ (List.mem_of_getElem? (i := 74) rfl))) (by decide) (backOf (W := 0) (own_remove l Z a0 hw [] ob xt rp rv f2_ xn2 (own_ls3 x0 y1 y2) T23.heap n0 zz24 pm23 hst hnn hl3 hmt) hZ (hw _ (List.mem_of_getElem? (i := 76) rfl)) (hw _ (List.mem_of_getElem? (i := 3) rfl)) (by decide) (by decide)) q38a q38c (g := (mkF m 144 #[.val (.long p0), .second, .val (.long p1), .second, .val (.long p2), .second, .val (.int p3), .val (.long x0), .second, .val (.long y1), .second, .val (.long y2), .second, .val (.int (1 : Int32)), .val (.long xt), .second, .val (.ref ob), .unset, .unset, .unset, .unset, .unset] [(.long xt), (.ref ob)])) rfl (by rw [hml]; rfl) (Steps.refl _) (argsL := [(.long xt)]) (rest := []) (lenOf own_pd9 rfl) rfl (by show 2 * 0 + _ ≤ _; exact Nat.le_of_eq rfl) (hb hby at_144) (fun _ _ => ⟨rfl, rfl, (by decide : 3 + 0 ≤ _), (by decide : 35 + 0 ≤ _)⟩)
      dsimp only [Pt.U, Pt.locs, Pt.cells, Pt.slots] at X38 l38 y38 z38 st38 hQ38
      subst l38 y38 z38
      obtain ⟨u3, f3_, xn3, rfl, N38q, ir38, pm38, ct38, nn38, KF38⟩ := hQ38
      have N38 := Fr.app N23 N38q
      refine own_Go.st (fun _ kt => st38.trans kt) ?_
      have zz39 : n0 ≤ Array.size T38.heap := Nat.le_trans zz24 KF38.1
      show own_Go p e below _ (T38.setTop (mkF m 147 #[.val (.long p0), .second, .val (.long p1), .second, .val (.long p2), .second, .val (.int p3), .val (.long x0), .second, .val (.long y1), .second, .val (.long y2), .second, .val (.int (1 : Int32)), .val (.long xt), .second, .val (.ref ob), .unset, .unset, .unset, .unset, .unset] [u3]))
      refine own_Go.st (fun _ kt => XS.pop X38.here hx rfl (hb hby at_147) rfl (own_cat ir38) kt) ?_
      show own_Go p e below _ (T38.setTop (mkF m 148 #[.val (.long p0), .second, .val (.long p1), .second, .val (.long p2), .second, .val (.int p3), .val (.long x0), .second, .val (.long y1), .second, .val (.long y2), .second, .val (.int (1 : Int32)), .val (.long xt), .second, .val (.ref ob), .unset, .unset, .unset, .unset, .unset] []))
      refine own_Go.st (fun _ kt => XS.aload X38.here hx rfl (hb hby at_148) rfl rfl kt) ?_
      show own_Go p e below _ (T38.setTop (mkF m 150 #[.val (.long p0), .second, .val (.long p1), .second, .val (.long p2), .second, .val (.int p3), .val (.long x0), .second, .val (.long y1), .second, .val (.long y2), .second, .val (.int (1 : Int32)), .val (.long xt), .second, .val (.ref ob), .unset, .unset, .unset, .unset, .unset] [(.ref ob)]))
      obtain ⟨cq40, kq40, q40a, q40b, q40c⟩ := isOf hZ rfl pm38.1
      obtain ⟨_, _, ⟨T40, L40, k40, n40⟩, -, X40, ⟨Lc40, hQ40, l40, y40, z40⟩, st40⟩ := X38.virtualBack hx (y := (⟨"com/example/thicket/thicket/PageMap", "pages", "()[J"⟩ : MethodName)) (z := (⟨"com/example/thicket/thicket/PageMap", "pages", "()[J"⟩ : MethodName)) hown (mvT hZ (hw _ (List.mem_of_getElem? (i := 63) rfl))) (mvT hZ (hw _ (List.mem_of_getElem? (i := 64) rfl))) (notFace_of_selects (args := #[]) (mvT hZ (hw _ (List.mem_of_getElem? (i := 66) rfl)))) (mvT hZ (hw _ (List.mem_of_getElem? (i := 66) rfl))) (mvT hZ (hw _ (List.mem_of_getElem? (i := 65) rfl))) (by decide) (backOf (W := 0) (own_pages l Z a0 hw [] ob rp rv f3_ xn3 ((own_ls3 x0 y1 y2).length - 1) T38.heap n0 zz39 pm38 ct38.2 nn38 (Nat.le_trans (Nat.sub_le _ _) hl3)) hZ (hw _ (List.mem_of_getElem? (i := 67) rfl)) (hw _ (List.mem_of_getElem? (i := 3) rfl)) (by decide) (by decide)) q40a q40c (g := (mkF m 150 #[.val (.long p0), .second, .val (.long p1), .second, .val (.long p2), .second, .val (.int p3), .val (.long x0), .second, .val (.long y1), .second, .val (.long y2), .second, .val (.int (1 : Int32)), .val (.long xt), .second, .val (.ref ob), .unset, .unset, .unset, .unset, .unset] [(.ref ob)])) rfl (by rw [hml]; rfl) (Steps.refl _) (argsL := []) (rest := []) (lenOf own_pd7 rfl) rfl (by show 2 * 0 + _ ≤ _; exact Nat.le_of_eq rfl) (hb hby at_150) (fun _ _ => ⟨rfl, rfl, (by decide : 3 + 1 ≤ _), (by decide : 35 + 3 ≤ _)⟩)
      dsimp only [Pt.U, Pt.locs, Pt.cells, Pt.slots] at X40 l40 y40 z40 st40 hQ40
      subst l40 y40 z40
      obtain ⟨ra, rfl, N40q, aa40, KF40⟩ := hQ40
      have N40 := Fr.app N38 N40q
      refine own_Go.st (fun _ kt => st40.trans kt) ?_
      have zz41 : n0 ≤ Array.size T40.heap := Nat.le_trans zz39 KF40.1
      show own_Go p e below _ (T40.setTop (mkF m 153 #[.val (.long p0), .second, .val (.long p1), .second, .val (.long p2), .second, .val (.int p3), .val (.long x0), .second, .val (.long y1), .second, .val (.long y2), .second, .val (.int (1 : Int32)), .val (.long xt), .second, .val (.ref ob), .unset, .unset, .unset, .unset, .unset] [(.ref ra)]))
      have ab : own_Ar Z T40.heap ra .long (own_pgs f3_ 16).length (fun j => .long ((own_pgs f3_ 16).getD j 0)) := by rw [ct38.2]; exact aa40
      have al : (own_pgs f3_ 16).length ≤ 3 := by rw [ct38.2]; exact (Nat.le_trans (Nat.sub_le _ _) hl3)
      refine own_Go.st (fun _ kt => XS.astore X40.here hx rfl (hb hby at_153) rfl rfl (l' := #[.val (.long p0), .second, .val (.long p1), .second, .val (.long p2), .second, .val (.int p3), .val (.long x0), .second, .val (.long y1), .second, .val (.long y2), .second, .val (.int (1 : Int32)), .val (.long xt), .second, .val (.ref ob), .val (.ref ra), .unset, .unset, .unset, .unset]) rfl kt) ?_
      show own_Go p e below _ (T40.setTop (mkF m 155 #[.val (.long p0), .second, .val (.long p1), .second, .val (.long p2), .second, .val (.int p3), .val (.long x0), .second, .val (.long y1), .second, .val (.long y2), .second, .val (.int (1 : Int32)), .val (.long xt), .second, .val (.ref ob), .val (.ref ra), .unset, .unset, .unset, .unset] []))
      have J318 : ∀ (T42 : State) (lc42 : List Loc) (X42 : Stand p l e room_1 s m #[(.long p0), (.long p1), (.long p2), (.int p3)] below meth c T42 lc42 4 38) (e42 : T42.heap = T40.heap) (N42 : Fr n0 lc42) (z0 : Int32) (g0 : own_B z0 (x0 ≠ xt)) (z1 : Int32) (g1 : own_B z1 (y1 ≠ x0 ∧ y1 ≠ xt)) (z2 : Int32) (g2 : own_B z2 (y2 ≠ x0 ∧ y2 ≠ y1 ∧ y2 ≠ xt)) (xs : Int32), own_Go p e below (fun o U' => ∃ v L, o = .returned v ∧ own_Q_own_law Z p0 p1 p2 p3 rc h0 n0 v U'.heap L ∧ FrameEnd s o U' L room_1.cells room_1.slots) (T42.setTop (mkF m 318 #[.val (.long p0), .second, .val (.long p1), .second, .val (.long p2), .second, .val (.int p3), .val (.long x0), .second, .val (.long y1), .second, .val (.long y2), .second, .val (.int (1 : Int32)), .val (.long xt), .second, .val (.ref ob), .val (.ref ra), .val (.int z0), .val (.int z1), .val (.int z2), .val (.int xs)] [])) := by
        intro T42 lc42 X42 e42 N42 z0 g0 z1 g1 z2 g2 xs
        show own_Go p e below _ (T42.setTop (mkF m 318 #[.val (.long p0), .second, .val (.long p1), .second, .val (.long p2), .second, .val (.int p3), .val (.long x0), .second, .val (.long y1), .second, .val (.long y2), .second, .val (.int (1 : Int32)), .val (.long xt), .second, .val (.ref ob), .val (.ref ra), .val (.int z0), .val (.int z1), .val (.int z2), .val (.int xs)] []))
        refine own_Go.st (fun _ kt => XS.iload X42.here hx rfl (hb hby at_318) rfl kt) ?_
        show own_Go p e below _ (T42.setTop (mkF m 320 #[.val (.long p0), .second, .val (.long p1), .second, .val (.long p2), .second, .val (.int p3), .val (.long x0), .second, .val (.long y1), .second, .val (.long y2), .second, .val (.int (1 : Int32)), .val (.long xt), .second, .val (.ref ob), .val (.ref ra), .val (.int z0), .val (.int z1), .val (.int z2), .val (.int xs)] [(.int z2)]))
        rcases g2 with ⟨rfl, q⟩ | ⟨rfl, q⟩
        · show own_Go p e below _ (T42.setTop (mkF m 320 #[.val (.long p0), .second, .val (.long p1), .second, .val (.long p2), .second, .val (.int p3), .val (.long x0), .second, .val (.long y1), .second, .val (.long y2), .second, .val (.int (1 : Int32)), .val (.long xt), .second, .val (.ref ob), .val (.ref ra), .val (.int z0), .val (.int z1), .val (.int (1 : Int32)), .val (.int xs)] [(.int (1 : Int32))]))
          refine own_Go.st (fun _ kt => XS.ifNo X42.here hx rfl (hb hby at_320) rfl ((if0 _ _).trans (feq (by decide)).1) kt) ?_
          show own_Go p e below _ (T42.setTop (mkF m 323 #[.val (.long p0), .second, .val (.long p1), .second, .val (.long p2), .second, .val (.int p3), .val (.long x0), .second, .val (.long y1), .second, .val (.long y2), .second, .val (.int (1 : Int32)), .val (.long xt), .second, .val (.ref ob), .val (.ref ra), .val (.int z0), .val (.int z1), .val (.int (1 : Int32)), .val (.int xs)] []))
          refine own_Go.st (fun _ kt => XS.aload X42.here hx rfl (hb hby at_323) rfl rfl kt) ?_
          show own_Go p e below _ (T42.setTop (mkF m 325 #[.val (.long p0), .second, .val (.long p1), .second, .val (.long p2), .second, .val (.int p3), .val (.long x0), .second, .val (.long y1), .second, .val (.long y2), .second, .val (.int (1 : Int32)), .val (.long xt), .second, .val (.ref ob), .val (.ref ra), .val (.int z0), .val (.int z1), .val (.int (1 : Int32)), .val (.int xs)] [(.ref ra)]))
          refine own_Go.st (fun _ kt => XS.lload X42.here hx rfl (hb hby at_325) rfl kt) ?_
          show own_Go p e below _ (T42.setTop (mkF m 327 #[.val (.long p0), .second, .val (.long p1), .second, .val (.long p2), .second, .val (.int p3), .val (.long x0), .second, .val (.long y1), .second, .val (.long y2), .second, .val (.int (1 : Int32)), .val (.long xt), .second, .val (.ref ob), .val (.ref ra), .val (.int z0), .val (.int z1), .val (.int (1 : Int32)), .val (.int xs)] [(.long y2), (.ref ra)]))
          obtain ⟨_, _, ⟨T43, L43, k43, n43⟩, -, X43, ⟨Lc43, hQ43, l43, y43, z43⟩, st43⟩ := Jvm.LawKit.callS X42 hx (y := (⟨"com/example/thicket/thicket/PageMapPagesPinLaw", "has", "([JJ)Z"⟩ : MethodName)) hown (mvT hZ (hw _ (List.mem_of_getElem? (i := 68) rfl))) (mvT hZ (hw _ (List.mem_of_getElem? (i := 69) rfl))) (mvT hZ (hw _ (List.mem_of_getElem? (i := 70) rfl))) (mvT hZ (hw _ (List.mem_of_getElem? (i := 71) rfl))) (by decide) (backOf (W := 0) (own_has l Z a0 hw [] ra y2 (own_pgs f3_ 16) T40.heap n0 zz41 ab al) hZ (hw _ (List.mem_of_getElem? (i := 71) rfl)) (hw _ (List.mem_of_getElem? (i := 70) rfl)) (by decide) (by decide)) (g := (mkF m 327 #[.val (.long p0), .second, .val (.long p1), .second, .val (.long p2), .second, .val (.int p3), .val (.long x0), .second, .val (.long y1), .second, .val (.long y2), .second, .val (.int (1 : Int32)), .val (.long xt), .second, .val (.ref ob), .val (.ref ra), .val (.int z0), .val (.int z1), .val (.int (1 : Int32)), .val (.int xs)] [(.long y2), (.ref ra)])) rfl (by rw [hml]; rfl) (argsL := [(.ref ra), (.long y2)]) (rest := []) (lenOf own_pd8 rfl) rfl (by show 2 * 0 + _ ≤ _; exact Nat.le_of_eq rfl) (hb hby at_327) (fun _ _ => ⟨rfl, e42, (by decide : 4 + 0 ≤ _), (by decide : 38 + 0 ≤ _)⟩)
          dsimp only [Pt.U, Pt.locs, Pt.cells, Pt.slots] at X43 l43 y43 z43 st43 hQ43
          subst l43 y43 z43
          obtain ⟨rfl, N43q, hh43⟩ := hQ43
          have N43 := Fr.app N42 N43q
          refine own_Go.st (fun _ kt => st43 _ kt) ?_
          show own_Go p e below _ (T43.setTop (mkF m 330 #[.val (.long p0), .second, .val (.long p1), .second, .val (.long p2), .second, .val (.int p3), .val (.long x0), .second, .val (.long y1), .second, .val (.long y2), .second, .val (.int (1 : Int32)), .val (.long xt), .second, .val (.ref ob), .val (.ref ra), .val (.int z0), .val (.int z1), .val (.int (1 : Int32)), .val (.int xs)] [(.int (if y2 ∈ own_pgs f3_ 16 then (1 : Int32) else 0))]))
          rw [show (if y2 ∈ own_pgs f3_ 16 then (1 : Int32) else 0) = (1 : Int32) from if_pos (ct38.mem hy2 ⟨own_m2 x0 y1 y2, q.2.2⟩)]
          show own_Go p e below _ (T43.setTop (mkF m 330 #[.val (.long p0), .second, .val (.long p1), .second, .val (.long p2), .second, .val (.int p3), .val (.long x0), .second, .val (.long y1), .second, .val (.long y2), .second, .val (.int (1 : Int32)), .val (.long xt), .second, .val (.ref ob), .val (.ref ra), .val (.int z0), .val (.int z1), .val (.int (1 : Int32)), .val (.int xs)] [(.int (1 : Int32))]))
          refine own_Go.st (fun _ kt => XS.ifNo X43.here hx rfl (hb hby at_330) rfl ((if0 _ _).trans (feq (by decide)).1) kt) ?_
          show own_Go p e below _ (T43.setTop (mkF m 333 #[.val (.long p0), .second, .val (.long p1), .second, .val (.long p2), .second, .val (.int p3), .val (.long x0), .second, .val (.long y1), .second, .val (.long y2), .second, .val (.int (1 : Int32)), .val (.long xt), .second, .val (.ref ob), .val (.ref ra), .val (.int z0), .val (.int z1), .val (.int (1 : Int32)), .val (.int xs)] []))
          refine own_Go.st (fun _ kt => XS.iconst X43.here hx rfl (hb hby at_333) kt) ?_
          show own_Go p e below _ (T43.setTop (mkF m 334 #[.val (.long p0), .second, .val (.long p1), .second, .val (.long p2), .second, .val (.int p3), .val (.long x0), .second, .val (.long y1), .second, .val (.long y2), .second, .val (.int (1 : Int32)), .val (.long xt), .second, .val (.ref ob), .val (.ref ra), .val (.int z0), .val (.int z1), .val (.int (1 : Int32)), .val (.int xs)] [(.int (1 : Int32))]))
          refine own_Go.st (fun _ kt => XS.goto X43.here hx rfl (pc0 := 334) (pc' := 338) rfl (hb hby at_334) (by decide) (by decide) kt) ?_
          show own_Go p e below _ (T43.setTop (mkF m 338 #[.val (.long p0), .second, .val (.long p1), .second, .val (.long p2), .second, .val (.int p3), .val (.long x0), .second, .val (.long y1), .second, .val (.long y2), .second, .val (.int (1 : Int32)), .val (.long xt), .second, .val (.ref ob), .val (.ref ra), .val (.int z0), .val (.int z1), .val (.int (1 : Int32)), .val (.int xs)] [(.int (1 : Int32))]))
          exact own_retZ X43 hx Bd.notSynchronized Bd.returns (Or.inr rfl) (hb hby at_338) (by decide) (by decide) ⟨rfl, N43⟩
        · show own_Go p e below _ (T42.setTop (mkF m 320 #[.val (.long p0), .second, .val (.long p1), .second, .val (.long p2), .second, .val (.int p3), .val (.long x0), .second, .val (.long y1), .second, .val (.long y2), .second, .val (.int (1 : Int32)), .val (.long xt), .second, .val (.ref ob), .val (.ref ra), .val (.int z0), .val (.int z1), .val (.int (0 : Int32)), .val (.int xs)] [(.int (0 : Int32))]))
          refine own_Go.st (fun _ kt => XS.ifYes X42.here hx rfl (pc0 := 320) (pc' := 333) rfl (hb hby at_320) rfl ((if0 _ _).trans (teq rfl).1) (by decide) (by decide) kt) ?_
          show own_Go p e below _ (T42.setTop (mkF m 333 #[.val (.long p0), .second, .val (.long p1), .second, .val (.long p2), .second, .val (.int p3), .val (.long x0), .second, .val (.long y1), .second, .val (.long y2), .second, .val (.int (1 : Int32)), .val (.long xt), .second, .val (.ref ob), .val (.ref ra), .val (.int z0), .val (.int z1), .val (.int (0 : Int32)), .val (.int xs)] []))
          refine own_Go.st (fun _ kt => XS.iconst X42.here hx rfl (hb hby at_333) kt) ?_
          show own_Go p e below _ (T42.setTop (mkF m 334 #[.val (.long p0), .second, .val (.long p1), .second, .val (.long p2), .second, .val (.int p3), .val (.long x0), .second, .val (.long y1), .second, .val (.long y2), .second, .val (.int (1 : Int32)), .val (.long xt), .second, .val (.ref ob), .val (.ref ra), .val (.int z0), .val (.int z1), .val (.int (0 : Int32)), .val (.int xs)] [(.int (1 : Int32))]))
          refine own_Go.st (fun _ kt => XS.goto X42.here hx rfl (pc0 := 334) (pc' := 338) rfl (hb hby at_334) (by decide) (by decide) kt) ?_
          show own_Go p e below _ (T42.setTop (mkF m 338 #[.val (.long p0), .second, .val (.long p1), .second, .val (.long p2), .second, .val (.int p3), .val (.long x0), .second, .val (.long y1), .second, .val (.long y2), .second, .val (.int (1 : Int32)), .val (.long xt), .second, .val (.ref ob), .val (.ref ra), .val (.int z0), .val (.int z1), .val (.int (0 : Int32)), .val (.int xs)] [(.int (1 : Int32))]))
          exact own_retZ X42 hx Bd.notSynchronized Bd.returns (Or.inr rfl) (hb hby at_338) (by decide) (by decide) ⟨rfl, N42⟩
      have J303 : ∀ (T44 : State) (lc44 : List Loc) (X44 : Stand p l e room_1 s m #[(.long p0), (.long p1), (.long p2), (.int p3)] below meth c T44 lc44 4 38) (e44 : T44.heap = T40.heap) (N44 : Fr n0 lc44) (z0 : Int32) (g0 : own_B z0 (x0 ≠ xt)) (z1 : Int32) (g1 : own_B z1 (y1 ≠ x0 ∧ y1 ≠ xt)) (z2 : Int32) (g2 : own_B z2 (y2 ≠ x0 ∧ y2 ≠ y1 ∧ y2 ≠ xt)) (xs : Int32), own_Go p e below (fun o U' => ∃ v L, o = .returned v ∧ own_Q_own_law Z p0 p1 p2 p3 rc h0 n0 v U'.heap L ∧ FrameEnd s o U' L room_1.cells room_1.slots) (T44.setTop (mkF m 303 #[.val (.long p0), .second, .val (.long p1), .second, .val (.long p2), .second, .val (.int p3), .val (.long x0), .second, .val (.long y1), .second, .val (.long y2), .second, .val (.int (1 : Int32)), .val (.long xt), .second, .val (.ref ob), .val (.ref ra), .val (.int z0), .val (.int z1), .val (.int z2), .val (.int xs)] [])) := by
        intro T44 lc44 X44 e44 N44 z0 g0 z1 g1 z2 g2 xs
        show own_Go p e below _ (T44.setTop (mkF m 303 #[.val (.long p0), .second, .val (.long p1), .second, .val (.long p2), .second, .val (.int p3), .val (.long x0), .second, .val (.long y1), .second, .val (.long y2), .second, .val (.int (1 : Int32)), .val (.long xt), .second, .val (.ref ob), .val (.ref ra), .val (.int z0), .val (.int z1), .val (.int z2), .val (.int xs)] []))
        refine own_Go.st (fun _ kt => XS.iload X44.here hx rfl (hb hby at_303) rfl kt) ?_
        show own_Go p e below _ (T44.setTop (mkF m 305 #[.val (.long p0), .second, .val (.long p1), .second, .val (.long p2), .second, .val (.int p3), .val (.long x0), .second, .val (.long y1), .second, .val (.long y2), .second, .val (.int (1 : Int32)), .val (.long xt), .second, .val (.ref ob), .val (.ref ra), .val (.int z0), .val (.int z1), .val (.int z2), .val (.int xs)] [(.int z1)]))
        rcases g1 with ⟨rfl, q⟩ | ⟨rfl, q⟩
        · show own_Go p e below _ (T44.setTop (mkF m 305 #[.val (.long p0), .second, .val (.long p1), .second, .val (.long p2), .second, .val (.int p3), .val (.long x0), .second, .val (.long y1), .second, .val (.long y2), .second, .val (.int (1 : Int32)), .val (.long xt), .second, .val (.ref ob), .val (.ref ra), .val (.int z0), .val (.int (1 : Int32)), .val (.int z2), .val (.int xs)] [(.int (1 : Int32))]))
          refine own_Go.st (fun _ kt => XS.ifNo X44.here hx rfl (hb hby at_305) rfl ((if0 _ _).trans (feq (by decide)).1) kt) ?_
          show own_Go p e below _ (T44.setTop (mkF m 308 #[.val (.long p0), .second, .val (.long p1), .second, .val (.long p2), .second, .val (.int p3), .val (.long x0), .second, .val (.long y1), .second, .val (.long y2), .second, .val (.int (1 : Int32)), .val (.long xt), .second, .val (.ref ob), .val (.ref ra), .val (.int z0), .val (.int (1 : Int32)), .val (.int z2), .val (.int xs)] []))
          refine own_Go.st (fun _ kt => XS.aload X44.here hx rfl (hb hby at_308) rfl rfl kt) ?_
          show own_Go p e below _ (T44.setTop (mkF m 310 #[.val (.long p0), .second, .val (.long p1), .second, .val (.long p2), .second, .val (.int p3), .val (.long x0), .second, .val (.long y1), .second, .val (.long y2), .second, .val (.int (1 : Int32)), .val (.long xt), .second, .val (.ref ob), .val (.ref ra), .val (.int z0), .val (.int (1 : Int32)), .val (.int z2), .val (.int xs)] [(.ref ra)]))
          refine own_Go.st (fun _ kt => XS.lload X44.here hx rfl (hb hby at_310) rfl kt) ?_
          show own_Go p e below _ (T44.setTop (mkF m 312 #[.val (.long p0), .second, .val (.long p1), .second, .val (.long p2), .second, .val (.int p3), .val (.long x0), .second, .val (.long y1), .second, .val (.long y2), .second, .val (.int (1 : Int32)), .val (.long xt), .second, .val (.ref ob), .val (.ref ra), .val (.int z0), .val (.int (1 : Int32)), .val (.int z2), .val (.int xs)] [(.long y1), (.ref ra)]))
          obtain ⟨_, _, ⟨T45, L45, k45, n45⟩, -, X45, ⟨Lc45, hQ45, l45, y45, z45⟩, st45⟩ := Jvm.LawKit.callS X44 hx (y := (⟨"com/example/thicket/thicket/PageMapPagesPinLaw", "has", "([JJ)Z"⟩ : MethodName)) hown (mvT hZ (hw _ (List.mem_of_getElem? (i := 68) rfl))) (mvT hZ (hw _ (List.mem_of_getElem? (i := 69) rfl))) (mvT hZ (hw _ (List.mem_of_getElem? (i := 70) rfl))) (mvT hZ (hw _ (List.mem_of_getElem? (i := 71) rfl))) (by decide) (backOf (W := 0) (own_has l Z a0 hw [] ra y1 (own_pgs f3_ 16) T40.heap n0 zz41 ab al) hZ (hw _ (List.mem_of_getElem? (i := 71) rfl)) (hw _ (List.mem_of_getElem? (i := 70) rfl)) (by decide) (by decide)) (g := (mkF m 312 #[.val (.long p0), .second, .val (.long p1), .second, .val (.long p2), .second, .val (.int p3), .val (.long x0), .second, .val (.long y1), .second, .val (.long y2), .second, .val (.int (1 : Int32)), .val (.long xt), .second, .val (.ref ob), .val (.ref ra), .val (.int z0), .val (.int (1 : Int32)), .val (.int z2), .val (.int xs)] [(.long y1), (.ref ra)])) rfl (by rw [hml]; rfl) (argsL := [(.ref ra), (.long y1)]) (rest := []) (lenOf own_pd8 rfl) rfl (by show 2 * 0 + _ ≤ _; exact Nat.le_of_eq rfl) (hb hby at_312) (fun _ _ => ⟨rfl, e44, (by decide : 4 + 0 ≤ _), (by decide : 38 + 0 ≤ _)⟩)
          dsimp only [Pt.U, Pt.locs, Pt.cells, Pt.slots] at X45 l45 y45 z45 st45 hQ45
          subst l45 y45 z45
          obtain ⟨rfl, N45q, hh45⟩ := hQ45
          have N45 := Fr.app N44 N45q
          refine own_Go.st (fun _ kt => st45 _ kt) ?_
          show own_Go p e below _ (T45.setTop (mkF m 315 #[.val (.long p0), .second, .val (.long p1), .second, .val (.long p2), .second, .val (.int p3), .val (.long x0), .second, .val (.long y1), .second, .val (.long y2), .second, .val (.int (1 : Int32)), .val (.long xt), .second, .val (.ref ob), .val (.ref ra), .val (.int z0), .val (.int (1 : Int32)), .val (.int z2), .val (.int xs)] [(.int (if y1 ∈ own_pgs f3_ 16 then (1 : Int32) else 0))]))
          rw [show (if y1 ∈ own_pgs f3_ 16 then (1 : Int32) else 0) = (1 : Int32) from if_pos (ct38.mem hy1 ⟨own_m1 x0 y1 y2, q.2⟩)]
          show own_Go p e below _ (T45.setTop (mkF m 315 #[.val (.long p0), .second, .val (.long p1), .second, .val (.long p2), .second, .val (.int p3), .val (.long x0), .second, .val (.long y1), .second, .val (.long y2), .second, .val (.int (1 : Int32)), .val (.long xt), .second, .val (.ref ob), .val (.ref ra), .val (.int z0), .val (.int (1 : Int32)), .val (.int z2), .val (.int xs)] [(.int (1 : Int32))]))
          refine own_Go.st (fun _ kt => XS.ifNo X45.here hx rfl (hb hby at_315) rfl ((if0 _ _).trans (feq (by decide)).1) kt) ?_
          show own_Go p e below _ (T45.setTop (mkF m 318 #[.val (.long p0), .second, .val (.long p1), .second, .val (.long p2), .second, .val (.int p3), .val (.long x0), .second, .val (.long y1), .second, .val (.long y2), .second, .val (.int (1 : Int32)), .val (.long xt), .second, .val (.ref ob), .val (.ref ra), .val (.int z0), .val (.int (1 : Int32)), .val (.int z2), .val (.int xs)] []))
          exact J318 _ _ X45 hh45 N45 _ g0 _ (Or.inl ⟨rfl, q⟩) _ g2 _
        · show own_Go p e below _ (T44.setTop (mkF m 305 #[.val (.long p0), .second, .val (.long p1), .second, .val (.long p2), .second, .val (.int p3), .val (.long x0), .second, .val (.long y1), .second, .val (.long y2), .second, .val (.int (1 : Int32)), .val (.long xt), .second, .val (.ref ob), .val (.ref ra), .val (.int z0), .val (.int (0 : Int32)), .val (.int z2), .val (.int xs)] [(.int (0 : Int32))]))
          refine own_Go.st (fun _ kt => XS.ifYes X44.here hx rfl (pc0 := 305) (pc' := 318) rfl (hb hby at_305) rfl ((if0 _ _).trans (teq rfl).1) (by decide) (by decide) kt) ?_
          show own_Go p e below _ (T44.setTop (mkF m 318 #[.val (.long p0), .second, .val (.long p1), .second, .val (.long p2), .second, .val (.int p3), .val (.long x0), .second, .val (.long y1), .second, .val (.long y2), .second, .val (.int (1 : Int32)), .val (.long xt), .second, .val (.ref ob), .val (.ref ra), .val (.int z0), .val (.int (0 : Int32)), .val (.int z2), .val (.int xs)] []))
          exact J318 _ _ X44 e44 N44 _ g0 _ (Or.inr ⟨rfl, q⟩) _ g2 _
      have J270 : ∀ (T46 : State) (lc46 : List Loc) (X46 : Stand p l e room_1 s m #[(.long p0), (.long p1), (.long p2), (.int p3)] below meth c T46 lc46 4 38) (e46 : T46.heap = T40.heap) (N46 : Fr n0 lc46) (z0 : Int32) (g0 : own_B z0 (x0 ≠ xt)) (z1 : Int32) (g1 : own_B z1 (y1 ≠ x0 ∧ y1 ≠ xt)) (z2 : Int32) (g2 : own_B z2 (y2 ≠ x0 ∧ y2 ≠ y1 ∧ y2 ≠ xt)), own_Go p e below (fun o U' => ∃ v L, o = .returned v ∧ own_Q_own_law Z p0 p1 p2 p3 rc h0 n0 v U'.heap L ∧ FrameEnd s o U' L room_1.cells room_1.slots) (T46.setTop (mkF m 270 #[.val (.long p0), .second, .val (.long p1), .second, .val (.long p2), .second, .val (.int p3), .val (.long x0), .second, .val (.long y1), .second, .val (.long y2), .second, .val (.int (1 : Int32)), .val (.long xt), .second, .val (.ref ob), .val (.ref ra), .val (.int z0), .val (.int z1), .val (.int z2), .unset] [(.int z2), (.int (z0 + z1))])) := by
        intro T46 lc46 X46 e46 N46 z0 g0 z1 g1 z2 g2
        show own_Go p e below _ (T46.setTop (mkF m 270 #[.val (.long p0), .second, .val (.long p1), .second, .val (.long p2), .second, .val (.int p3), .val (.long x0), .second, .val (.long y1), .second, .val (.long y2), .second, .val (.int (1 : Int32)), .val (.long xt), .second, .val (.ref ob), .val (.ref ra), .val (.int z0), .val (.int z1), .val (.int z2), .unset] [(.int z2), (.int (z0 + z1))]))
        refine own_Go.st (fun _ kt => XS.iadd X46.here hx rfl (hb hby at_270) rfl kt) ?_
        show own_Go p e below _ (T46.setTop (mkF m 271 #[.val (.long p0), .second, .val (.long p1), .second, .val (.long p2), .second, .val (.int p3), .val (.long x0), .second, .val (.long y1), .second, .val (.long y2), .second, .val (.int (1 : Int32)), .val (.long xt), .second, .val (.ref ob), .val (.ref ra), .val (.int z0), .val (.int z1), .val (.int z2), .unset] [(.int ((z0 + z1) + z2))]))
        refine own_Go.st (fun _ kt => XS.istore X46.here hx rfl (hb hby at_271) rfl (l' := #[.val (.long p0), .second, .val (.long p1), .second, .val (.long p2), .second, .val (.int p3), .val (.long x0), .second, .val (.long y1), .second, .val (.long y2), .second, .val (.int (1 : Int32)), .val (.long xt), .second, .val (.ref ob), .val (.ref ra), .val (.int z0), .val (.int z1), .val (.int z2), .val (.int ((z0 + z1) + z2))]) rfl kt) ?_
        show own_Go p e below _ (T46.setTop (mkF m 273 #[.val (.long p0), .second, .val (.long p1), .second, .val (.long p2), .second, .val (.int p3), .val (.long x0), .second, .val (.long y1), .second, .val (.long y2), .second, .val (.int (1 : Int32)), .val (.long xt), .second, .val (.ref ob), .val (.ref ra), .val (.int z0), .val (.int z1), .val (.int z2), .val (.int ((z0 + z1) + z2))] []))
        refine own_Go.st (fun _ kt => XS.aload X46.here hx rfl (hb hby at_273) rfl rfl kt) ?_
        show own_Go p e below _ (T46.setTop (mkF m 275 #[.val (.long p0), .second, .val (.long p1), .second, .val (.long p2), .second, .val (.int p3), .val (.long x0), .second, .val (.long y1), .second, .val (.long y2), .second, .val (.int (1 : Int32)), .val (.long xt), .second, .val (.ref ob), .val (.ref ra), .val (.int z0), .val (.int z1), .val (.int z2), .val (.int ((z0 + z1) + z2))] [(.ref ra)]))
        refine own_Go.st (fun _ kt => XS.ifnullNo X46.here hx rfl (hb hby at_275) rfl kt) ?_
        show own_Go p e below _ (T46.setTop (mkF m 278 #[.val (.long p0), .second, .val (.long p1), .second, .val (.long p2), .second, .val (.int p3), .val (.long x0), .second, .val (.long y1), .second, .val (.long y2), .second, .val (.int (1 : Int32)), .val (.long xt), .second, .val (.ref ob), .val (.ref ra), .val (.int z0), .val (.int z1), .val (.int z2), .val (.int ((z0 + z1) + z2))] []))
        refine own_Go.st (fun _ kt => XS.aload X46.here hx rfl (hb hby at_278) rfl rfl kt) ?_
        show own_Go p e below _ (T46.setTop (mkF m 280 #[.val (.long p0), .second, .val (.long p1), .second, .val (.long p2), .second, .val (.int p3), .val (.long x0), .second, .val (.long y1), .second, .val (.long y2), .second, .val (.int (1 : Int32)), .val (.long xt), .second, .val (.ref ob), .val (.ref ra), .val (.int z0), .val (.int z1), .val (.int z2), .val (.int ((z0 + z1) + z2))] [(.ref ra)]))
        refine own_Go.st (fun _ kt => own_alen X46 hx hZ e46 aa40 (z := xn3) nn38 (g := (mkF m 280 #[.val (.long p0), .second, .val (.long p1), .second, .val (.long p2), .second, .val (.int p3), .val (.long x0), .second, .val (.long y1), .second, .val (.long y2), .second, .val (.int (1 : Int32)), .val (.long xt), .second, .val (.ref ob), .val (.ref ra), .val (.int z0), .val (.int z1), .val (.int z2), .val (.int ((z0 + z1) + z2))] [(.ref ra)])) rfl rfl (hb hby at_280) _ kt) ?_
        show own_Go p e below _ (T46.setTop (mkF m 281 #[.val (.long p0), .second, .val (.long p1), .second, .val (.long p2), .second, .val (.int p3), .val (.long x0), .second, .val (.long y1), .second, .val (.long y2), .second, .val (.int (1 : Int32)), .val (.long xt), .second, .val (.ref ob), .val (.ref ra), .val (.int z0), .val (.int z1), .val (.int z2), .val (.int ((z0 + z1) + z2))] [(.int xn3)]))
        have tot : xn3 = z0 + z1 + z2 := own_tot1 ht g0 g1 g2 nn38
        refine own_Go.st (fun _ kt => XS.iload X46.here hx rfl (hb hby at_281) rfl kt) ?_
        show own_Go p e below _ (T46.setTop (mkF m 283 #[.val (.long p0), .second, .val (.long p1), .second, .val (.long p2), .second, .val (.int p3), .val (.long x0), .second, .val (.long y1), .second, .val (.long y2), .second, .val (.int (1 : Int32)), .val (.long xt), .second, .val (.ref ob), .val (.ref ra), .val (.int z0), .val (.int z1), .val (.int z2), .val (.int ((z0 + z1) + z2))] [(.int ((z0 + z1) + z2)), (.int xn3)]))
        refine own_Go.st (fun _ kt => XS.icmpYes X46.here hx rfl (pc0 := 283) (pc' := 288) rfl (hb hby at_283) rfl (teq tot).1 (by decide) (by decide) kt) ?_
        show own_Go p e below _ (T46.setTop (mkF m 288 #[.val (.long p0), .second, .val (.long p1), .second, .val (.long p2), .second, .val (.int p3), .val (.long x0), .second, .val (.long y1), .second, .val (.long y2), .second, .val (.int (1 : Int32)), .val (.long xt), .second, .val (.ref ob), .val (.ref ra), .val (.int z0), .val (.int z1), .val (.int z2), .val (.int ((z0 + z1) + z2))] []))
        generalize hxs : ((z0 + z1) + z2) = xs
        show own_Go p e below _ (T46.setTop (mkF m 288 #[.val (.long p0), .second, .val (.long p1), .second, .val (.long p2), .second, .val (.int p3), .val (.long x0), .second, .val (.long y1), .second, .val (.long y2), .second, .val (.int (1 : Int32)), .val (.long xt), .second, .val (.ref ob), .val (.ref ra), .val (.int z0), .val (.int z1), .val (.int z2), .val (.int xs)] []))
        refine own_Go.st (fun _ kt => XS.iload X46.here hx rfl (hb hby at_288) rfl kt) ?_
        show own_Go p e below _ (T46.setTop (mkF m 290 #[.val (.long p0), .second, .val (.long p1), .second, .val (.long p2), .second, .val (.int p3), .val (.long x0), .second, .val (.long y1), .second, .val (.long y2), .second, .val (.int (1 : Int32)), .val (.long xt), .second, .val (.ref ob), .val (.ref ra), .val (.int z0), .val (.int z1), .val (.int z2), .val (.int xs)] [(.int z0)]))
        rcases g0 with ⟨rfl, q⟩ | ⟨rfl, q⟩
        · show own_Go p e below _ (T46.setTop (mkF m 290 #[.val (.long p0), .second, .val (.long p1), .second, .val (.long p2), .second, .val (.int p3), .val (.long x0), .second, .val (.long y1), .second, .val (.long y2), .second, .val (.int (1 : Int32)), .val (.long xt), .second, .val (.ref ob), .val (.ref ra), .val (.int (1 : Int32)), .val (.int z1), .val (.int z2), .val (.int xs)] [(.int (1 : Int32))]))
          refine own_Go.st (fun _ kt => XS.ifNo X46.here hx rfl (hb hby at_290) rfl ((if0 _ _).trans (feq (by decide)).1) kt) ?_
          show own_Go p e below _ (T46.setTop (mkF m 293 #[.val (.long p0), .second, .val (.long p1), .second, .val (.long p2), .second, .val (.int p3), .val (.long x0), .second, .val (.long y1), .second, .val (.long y2), .second, .val (.int (1 : Int32)), .val (.long xt), .second, .val (.ref ob), .val (.ref ra), .val (.int (1 : Int32)), .val (.int z1), .val (.int z2), .val (.int xs)] []))
          refine own_Go.st (fun _ kt => XS.aload X46.here hx rfl (hb hby at_293) rfl rfl kt) ?_
          show own_Go p e below _ (T46.setTop (mkF m 295 #[.val (.long p0), .second, .val (.long p1), .second, .val (.long p2), .second, .val (.int p3), .val (.long x0), .second, .val (.long y1), .second, .val (.long y2), .second, .val (.int (1 : Int32)), .val (.long xt), .second, .val (.ref ob), .val (.ref ra), .val (.int (1 : Int32)), .val (.int z1), .val (.int z2), .val (.int xs)] [(.ref ra)]))
          refine own_Go.st (fun _ kt => XS.lload X46.here hx rfl (hb hby at_295) rfl kt) ?_
          show own_Go p e below _ (T46.setTop (mkF m 297 #[.val (.long p0), .second, .val (.long p1), .second, .val (.long p2), .second, .val (.int p3), .val (.long x0), .second, .val (.long y1), .second, .val (.long y2), .second, .val (.int (1 : Int32)), .val (.long xt), .second, .val (.ref ob), .val (.ref ra), .val (.int (1 : Int32)), .val (.int z1), .val (.int z2), .val (.int xs)] [(.long x0), (.ref ra)]))
          obtain ⟨_, _, ⟨T47, L47, k47, n47⟩, -, X47, ⟨Lc47, hQ47, l47, y47, z47⟩, st47⟩ := Jvm.LawKit.callS X46 hx (y := (⟨"com/example/thicket/thicket/PageMapPagesPinLaw", "has", "([JJ)Z"⟩ : MethodName)) hown (mvT hZ (hw _ (List.mem_of_getElem? (i := 68) rfl))) (mvT hZ (hw _ (List.mem_of_getElem? (i := 69) rfl))) (mvT hZ (hw _ (List.mem_of_getElem? (i := 70) rfl))) (mvT hZ (hw _ (List.mem_of_getElem? (i := 71) rfl))) (by decide) (backOf (W := 0) (own_has l Z a0 hw [] ra x0 (own_pgs f3_ 16) T40.heap n0 zz41 ab al) hZ (hw _ (List.mem_of_getElem? (i := 71) rfl)) (hw _ (List.mem_of_getElem? (i := 70) rfl)) (by decide) (by decide)) (g := (mkF m 297 #[.val (.long p0), .second, .val (.long p1), .second, .val (.long p2), .second, .val (.int p3), .val (.long x0), .second, .val (.long y1), .second, .val (.long y2), .second, .val (.int (1 : Int32)), .val (.long xt), .second, .val (.ref ob), .val (.ref ra), .val (.int (1 : Int32)), .val (.int z1), .val (.int z2), .val (.int xs)] [(.long x0), (.ref ra)])) rfl (by rw [hml]; rfl) (argsL := [(.ref ra), (.long x0)]) (rest := []) (lenOf own_pd8 rfl) rfl (by show 2 * 0 + _ ≤ _; exact Nat.le_of_eq rfl) (hb hby at_297) (fun _ _ => ⟨rfl, e46, (by decide : 4 + 0 ≤ _), (by decide : 38 + 0 ≤ _)⟩)
          dsimp only [Pt.U, Pt.locs, Pt.cells, Pt.slots] at X47 l47 y47 z47 st47 hQ47
          subst l47 y47 z47
          obtain ⟨rfl, N47q, hh47⟩ := hQ47
          have N47 := Fr.app N46 N47q
          refine own_Go.st (fun _ kt => st47 _ kt) ?_
          show own_Go p e below _ (T47.setTop (mkF m 300 #[.val (.long p0), .second, .val (.long p1), .second, .val (.long p2), .second, .val (.int p3), .val (.long x0), .second, .val (.long y1), .second, .val (.long y2), .second, .val (.int (1 : Int32)), .val (.long xt), .second, .val (.ref ob), .val (.ref ra), .val (.int (1 : Int32)), .val (.int z1), .val (.int z2), .val (.int xs)] [(.int (if x0 ∈ own_pgs f3_ 16 then (1 : Int32) else 0))]))
          rw [show (if x0 ∈ own_pgs f3_ 16 then (1 : Int32) else 0) = (1 : Int32) from if_pos (ct38.mem hx0 ⟨own_m0 x0 y1 y2, q⟩)]
          show own_Go p e below _ (T47.setTop (mkF m 300 #[.val (.long p0), .second, .val (.long p1), .second, .val (.long p2), .second, .val (.int p3), .val (.long x0), .second, .val (.long y1), .second, .val (.long y2), .second, .val (.int (1 : Int32)), .val (.long xt), .second, .val (.ref ob), .val (.ref ra), .val (.int (1 : Int32)), .val (.int z1), .val (.int z2), .val (.int xs)] [(.int (1 : Int32))]))
          refine own_Go.st (fun _ kt => XS.ifNo X47.here hx rfl (hb hby at_300) rfl ((if0 _ _).trans (feq (by decide)).1) kt) ?_
          show own_Go p e below _ (T47.setTop (mkF m 303 #[.val (.long p0), .second, .val (.long p1), .second, .val (.long p2), .second, .val (.int p3), .val (.long x0), .second, .val (.long y1), .second, .val (.long y2), .second, .val (.int (1 : Int32)), .val (.long xt), .second, .val (.ref ob), .val (.ref ra), .val (.int (1 : Int32)), .val (.int z1), .val (.int z2), .val (.int xs)] []))
          exact J303 _ _ X47 hh47 N47 _ (Or.inl ⟨rfl, q⟩) _ g1 _ g2 _
        · show own_Go p e below _ (T46.setTop (mkF m 290 #[.val (.long p0), .second, .val (.long p1), .second, .val (.long p2), .second, .val (.int p3), .val (.long x0), .second, .val (.long y1), .second, .val (.long y2), .second, .val (.int (1 : Int32)), .val (.long xt), .second, .val (.ref ob), .val (.ref ra), .val (.int (0 : Int32)), .val (.int z1), .val (.int z2), .val (.int xs)] [(.int (0 : Int32))]))
          refine own_Go.st (fun _ kt => XS.ifYes X46.here hx rfl (pc0 := 290) (pc' := 303) rfl (hb hby at_290) rfl ((if0 _ _).trans (teq rfl).1) (by decide) (by decide) kt) ?_
          show own_Go p e below _ (T46.setTop (mkF m 303 #[.val (.long p0), .second, .val (.long p1), .second, .val (.long p2), .second, .val (.int p3), .val (.long x0), .second, .val (.long y1), .second, .val (.long y2), .second, .val (.int (1 : Int32)), .val (.long xt), .second, .val (.ref ob), .val (.ref ra), .val (.int (0 : Int32)), .val (.int z1), .val (.int z2), .val (.int xs)] []))
          exact J303 _ _ X46 e46 N46 _ (Or.inr ⟨rfl, q⟩) _ g1 _ g2 _
      have J260 : ∀ (T48 : State) (lc48 : List Loc) (X48 : Stand p l e room_1 s m #[(.long p0), (.long p1), (.long p2), (.int p3)] below meth c T48 lc48 4 38) (e48 : T48.heap = T40.heap) (N48 : Fr n0 lc48) (z0 : Int32) (g0 : own_B z0 (x0 ≠ xt)) (z1 : Int32) (g1 : own_B z1 (y1 ≠ x0 ∧ y1 ≠ xt)) (z2 : Int32) (g2 : own_B z2 (y2 ≠ x0 ∧ y2 ≠ y1 ∧ y2 ≠ xt)), own_Go p e below (fun o U' => ∃ v L, o = .returned v ∧ own_Q_own_law Z p0 p1 p2 p3 rc h0 n0 v U'.heap L ∧ FrameEnd s o U' L room_1.cells room_1.slots) (T48.setTop (mkF m 260 #[.val (.long p0), .second, .val (.long p1), .second, .val (.long p2), .second, .val (.int p3), .val (.long x0), .second, .val (.long y1), .second, .val (.long y2), .second, .val (.int (1 : Int32)), .val (.long xt), .second, .val (.ref ob), .val (.ref ra), .val (.int z0), .val (.int z1), .val (.int z2), .unset] [(.int (z0 + z1))])) := by
        intro T48 lc48 X48 e48 N48 z0 g0 z1 g1 z2 g2
        show own_Go p e below _ (T48.setTop (mkF m 260 #[.val (.long p0), .second, .val (.long p1), .second, .val (.long p2), .second, .val (.int p3), .val (.long x0), .second, .val (.long y1), .second, .val (.long y2), .second, .val (.int (1 : Int32)), .val (.long xt), .second, .val (.ref ob), .val (.ref ra), .val (.int z0), .val (.int z1), .val (.int z2), .unset] [(.int (z0 + z1))]))
        refine own_Go.st (fun _ kt => XS.iload X48.here hx rfl (hb hby at_260) rfl kt) ?_
        show own_Go p e below _ (T48.setTop (mkF m 262 #[.val (.long p0), .second, .val (.long p1), .second, .val (.long p2), .second, .val (.int p3), .val (.long x0), .second, .val (.long y1), .second, .val (.long y2), .second, .val (.int (1 : Int32)), .val (.long xt), .second, .val (.ref ob), .val (.ref ra), .val (.int z0), .val (.int z1), .val (.int z2), .unset] [(.int z2), (.int (z0 + z1))]))
        rcases g2 with ⟨rfl, q⟩ | ⟨rfl, q⟩
        · show own_Go p e below _ (T48.setTop (mkF m 262 #[.val (.long p0), .second, .val (.long p1), .second, .val (.long p2), .second, .val (.int p3), .val (.long x0), .second, .val (.long y1), .second, .val (.long y2), .second, .val (.int (1 : Int32)), .val (.long xt), .second, .val (.ref ob), .val (.ref ra), .val (.int z0), .val (.int z1), .val (.int (1 : Int32)), .unset] [(.int (1 : Int32)), (.int (z0 + z1))]))
          refine own_Go.st (fun _ kt => XS.ifNo X48.here hx rfl (hb hby at_262) rfl ((if0 _ _).trans (feq (by decide)).1) kt) ?_
          show own_Go p e below _ (T48.setTop (mkF m 265 #[.val (.long p0), .second, .val (.long p1), .second, .val (.long p2), .second, .val (.int p3), .val (.long x0), .second, .val (.long y1), .second, .val (.long y2), .second, .val (.int (1 : Int32)), .val (.long xt), .second, .val (.ref ob), .val (.ref ra), .val (.int z0), .val (.int z1), .val (.int (1 : Int32)), .unset] [(.int (z0 + z1))]))
          refine own_Go.st (fun _ kt => XS.iconst X48.here hx rfl (hb hby at_265) kt) ?_
          show own_Go p e below _ (T48.setTop (mkF m 266 #[.val (.long p0), .second, .val (.long p1), .second, .val (.long p2), .second, .val (.int p3), .val (.long x0), .second, .val (.long y1), .second, .val (.long y2), .second, .val (.int (1 : Int32)), .val (.long xt), .second, .val (.ref ob), .val (.ref ra), .val (.int z0), .val (.int z1), .val (.int (1 : Int32)), .unset] [(.int (1 : Int32)), (.int (z0 + z1))]))
          refine own_Go.st (fun _ kt => XS.goto X48.here hx rfl (pc0 := 266) (pc' := 270) rfl (hb hby at_266) (by decide) (by decide) kt) ?_
          show own_Go p e below _ (T48.setTop (mkF m 270 #[.val (.long p0), .second, .val (.long p1), .second, .val (.long p2), .second, .val (.int p3), .val (.long x0), .second, .val (.long y1), .second, .val (.long y2), .second, .val (.int (1 : Int32)), .val (.long xt), .second, .val (.ref ob), .val (.ref ra), .val (.int z0), .val (.int z1), .val (.int (1 : Int32)), .unset] [(.int (1 : Int32)), (.int (z0 + z1))]))
          exact J270 _ _ X48 e48 N48 _ g0 _ g1 _ (Or.inl ⟨rfl, q⟩)
        · show own_Go p e below _ (T48.setTop (mkF m 262 #[.val (.long p0), .second, .val (.long p1), .second, .val (.long p2), .second, .val (.int p3), .val (.long x0), .second, .val (.long y1), .second, .val (.long y2), .second, .val (.int (1 : Int32)), .val (.long xt), .second, .val (.ref ob), .val (.ref ra), .val (.int z0), .val (.int z1), .val (.int (0 : Int32)), .unset] [(.int (0 : Int32)), (.int (z0 + z1))]))
          refine own_Go.st (fun _ kt => XS.ifYes X48.here hx rfl (pc0 := 262) (pc' := 269) rfl (hb hby at_262) rfl ((if0 _ _).trans (teq rfl).1) (by decide) (by decide) kt) ?_
          show own_Go p e below _ (T48.setTop (mkF m 269 #[.val (.long p0), .second, .val (.long p1), .second, .val (.long p2), .second, .val (.int p3), .val (.long x0), .second, .val (.long y1), .second, .val (.long y2), .second, .val (.int (1 : Int32)), .val (.long xt), .second, .val (.ref ob), .val (.ref ra), .val (.int z0), .val (.int z1), .val (.int (0 : Int32)), .unset] [(.int (z0 + z1))]))
          refine own_Go.st (fun _ kt => XS.iconst X48.here hx rfl (hb hby at_269) kt) ?_
          show own_Go p e below _ (T48.setTop (mkF m 270 #[.val (.long p0), .second, .val (.long p1), .second, .val (.long p2), .second, .val (.int p3), .val (.long x0), .second, .val (.long y1), .second, .val (.long y2), .second, .val (.int (1 : Int32)), .val (.long xt), .second, .val (.ref ob), .val (.ref ra), .val (.int z0), .val (.int z1), .val (.int (0 : Int32)), .unset] [(.int (0 : Int32)), (.int (z0 + z1))]))
          exact J270 _ _ X48 e48 N48 _ g0 _ g1 _ (Or.inr ⟨rfl, q⟩)
      have J249 : ∀ (T49 : State) (lc49 : List Loc) (X49 : Stand p l e room_1 s m #[(.long p0), (.long p1), (.long p2), (.int p3)] below meth c T49 lc49 4 38) (e49 : T49.heap = T40.heap) (N49 : Fr n0 lc49) (z0 : Int32) (g0 : own_B z0 (x0 ≠ xt)) (z1 : Int32) (g1 : own_B z1 (y1 ≠ x0 ∧ y1 ≠ xt)) (z2 : Int32) (g2 : own_B z2 (y2 ≠ x0 ∧ y2 ≠ y1 ∧ y2 ≠ xt)), own_Go p e below (fun o U' => ∃ v L, o = .returned v ∧ own_Q_own_law Z p0 p1 p2 p3 rc h0 n0 v U'.heap L ∧ FrameEnd s o U' L room_1.cells room_1.slots) (T49.setTop (mkF m 249 #[.val (.long p0), .second, .val (.long p1), .second, .val (.long p2), .second, .val (.int p3), .val (.long x0), .second, .val (.long y1), .second, .val (.long y2), .second, .val (.int (1 : Int32)), .val (.long xt), .second, .val (.ref ob), .val (.ref ra), .val (.int z0), .val (.int z1), .val (.int z2), .unset] [(.int z0)])) := by
        intro T49 lc49 X49 e49 N49 z0 g0 z1 g1 z2 g2
        show own_Go p e below _ (T49.setTop (mkF m 249 #[.val (.long p0), .second, .val (.long p1), .second, .val (.long p2), .second, .val (.int p3), .val (.long x0), .second, .val (.long y1), .second, .val (.long y2), .second, .val (.int (1 : Int32)), .val (.long xt), .second, .val (.ref ob), .val (.ref ra), .val (.int z0), .val (.int z1), .val (.int z2), .unset] [(.int z0)]))
        refine own_Go.st (fun _ kt => XS.iload X49.here hx rfl (hb hby at_249) rfl kt) ?_
        show own_Go p e below _ (T49.setTop (mkF m 251 #[.val (.long p0), .second, .val (.long p1), .second, .val (.long p2), .second, .val (.int p3), .val (.long x0), .second, .val (.long y1), .second, .val (.long y2), .second, .val (.int (1 : Int32)), .val (.long xt), .second, .val (.ref ob), .val (.ref ra), .val (.int z0), .val (.int z1), .val (.int z2), .unset] [(.int z1), (.int z0)]))
        rcases g1 with ⟨rfl, q⟩ | ⟨rfl, q⟩
        · show own_Go p e below _ (T49.setTop (mkF m 251 #[.val (.long p0), .second, .val (.long p1), .second, .val (.long p2), .second, .val (.int p3), .val (.long x0), .second, .val (.long y1), .second, .val (.long y2), .second, .val (.int (1 : Int32)), .val (.long xt), .second, .val (.ref ob), .val (.ref ra), .val (.int z0), .val (.int (1 : Int32)), .val (.int z2), .unset] [(.int (1 : Int32)), (.int z0)]))
          refine own_Go.st (fun _ kt => XS.ifNo X49.here hx rfl (hb hby at_251) rfl ((if0 _ _).trans (feq (by decide)).1) kt) ?_
          show own_Go p e below _ (T49.setTop (mkF m 254 #[.val (.long p0), .second, .val (.long p1), .second, .val (.long p2), .second, .val (.int p3), .val (.long x0), .second, .val (.long y1), .second, .val (.long y2), .second, .val (.int (1 : Int32)), .val (.long xt), .second, .val (.ref ob), .val (.ref ra), .val (.int z0), .val (.int (1 : Int32)), .val (.int z2), .unset] [(.int z0)]))
          refine own_Go.st (fun _ kt => XS.iconst X49.here hx rfl (hb hby at_254) kt) ?_
          show own_Go p e below _ (T49.setTop (mkF m 255 #[.val (.long p0), .second, .val (.long p1), .second, .val (.long p2), .second, .val (.int p3), .val (.long x0), .second, .val (.long y1), .second, .val (.long y2), .second, .val (.int (1 : Int32)), .val (.long xt), .second, .val (.ref ob), .val (.ref ra), .val (.int z0), .val (.int (1 : Int32)), .val (.int z2), .unset] [(.int (1 : Int32)), (.int z0)]))
          refine own_Go.st (fun _ kt => XS.goto X49.here hx rfl (pc0 := 255) (pc' := 259) rfl (hb hby at_255) (by decide) (by decide) kt) ?_
          show own_Go p e below _ (T49.setTop (mkF m 259 #[.val (.long p0), .second, .val (.long p1), .second, .val (.long p2), .second, .val (.int p3), .val (.long x0), .second, .val (.long y1), .second, .val (.long y2), .second, .val (.int (1 : Int32)), .val (.long xt), .second, .val (.ref ob), .val (.ref ra), .val (.int z0), .val (.int (1 : Int32)), .val (.int z2), .unset] [(.int (1 : Int32)), (.int z0)]))
          refine own_Go.st (fun _ kt => XS.iadd X49.here hx rfl (hb hby at_259) rfl kt) ?_
          show own_Go p e below _ (T49.setTop (mkF m 260 #[.val (.long p0), .second, .val (.long p1), .second, .val (.long p2), .second, .val (.int p3), .val (.long x0), .second, .val (.long y1), .second, .val (.long y2), .second, .val (.int (1 : Int32)), .val (.long xt), .second, .val (.ref ob), .val (.ref ra), .val (.int z0), .val (.int (1 : Int32)), .val (.int z2), .unset] [(.int (z0 + (1 : Int32)))]))
          exact J260 _ _ X49 e49 N49 _ g0 _ (Or.inl ⟨rfl, q⟩) _ g2
        · show own_Go p e below _ (T49.setTop (mkF m 251 #[.val (.long p0), .second, .val (.long p1), .second, .val (.long p2), .second, .val (.int p3), .val (.long x0), .second, .val (.long y1), .second, .val (.long y2), .second, .val (.int (1 : Int32)), .val (.long xt), .second, .val (.ref ob), .val (.ref ra), .val (.int z0), .val (.int (0 : Int32)), .val (.int z2), .unset] [(.int (0 : Int32)), (.int z0)]))
          refine own_Go.st (fun _ kt => XS.ifYes X49.here hx rfl (pc0 := 251) (pc' := 258) rfl (hb hby at_251) rfl ((if0 _ _).trans (teq rfl).1) (by decide) (by decide) kt) ?_
          show own_Go p e below _ (T49.setTop (mkF m 258 #[.val (.long p0), .second, .val (.long p1), .second, .val (.long p2), .second, .val (.int p3), .val (.long x0), .second, .val (.long y1), .second, .val (.long y2), .second, .val (.int (1 : Int32)), .val (.long xt), .second, .val (.ref ob), .val (.ref ra), .val (.int z0), .val (.int (0 : Int32)), .val (.int z2), .unset] [(.int z0)]))
          refine own_Go.st (fun _ kt => XS.iconst X49.here hx rfl (hb hby at_258) kt) ?_
          show own_Go p e below _ (T49.setTop (mkF m 259 #[.val (.long p0), .second, .val (.long p1), .second, .val (.long p2), .second, .val (.int p3), .val (.long x0), .second, .val (.long y1), .second, .val (.long y2), .second, .val (.int (1 : Int32)), .val (.long xt), .second, .val (.ref ob), .val (.ref ra), .val (.int z0), .val (.int (0 : Int32)), .val (.int z2), .unset] [(.int (0 : Int32)), (.int z0)]))
          refine own_Go.st (fun _ kt => XS.iadd X49.here hx rfl (hb hby at_259) rfl kt) ?_
          show own_Go p e below _ (T49.setTop (mkF m 260 #[.val (.long p0), .second, .val (.long p1), .second, .val (.long p2), .second, .val (.int p3), .val (.long x0), .second, .val (.long y1), .second, .val (.long y2), .second, .val (.int (1 : Int32)), .val (.long xt), .second, .val (.ref ob), .val (.ref ra), .val (.int z0), .val (.int (0 : Int32)), .val (.int z2), .unset] [(.int (z0 + (0 : Int32)))]))
          exact J260 _ _ X49 e49 N49 _ g0 _ (Or.inr ⟨rfl, q⟩) _ g2
      have J239 : ∀ (T50 : State) (lc50 : List Loc) (X50 : Stand p l e room_1 s m #[(.long p0), (.long p1), (.long p2), (.int p3)] below meth c T50 lc50 4 38) (e50 : T50.heap = T40.heap) (N50 : Fr n0 lc50) (z0 : Int32) (g0 : own_B z0 (x0 ≠ xt)) (z1 : Int32) (g1 : own_B z1 (y1 ≠ x0 ∧ y1 ≠ xt)) (z2 : Int32) (g2 : own_B z2 (y2 ≠ x0 ∧ y2 ≠ y1 ∧ y2 ≠ xt)), own_Go p e below (fun o U' => ∃ v L, o = .returned v ∧ own_Q_own_law Z p0 p1 p2 p3 rc h0 n0 v U'.heap L ∧ FrameEnd s o U' L room_1.cells room_1.slots) (T50.setTop (mkF m 239 #[.val (.long p0), .second, .val (.long p1), .second, .val (.long p2), .second, .val (.int p3), .val (.long x0), .second, .val (.long y1), .second, .val (.long y2), .second, .val (.int (1 : Int32)), .val (.long xt), .second, .val (.ref ob), .val (.ref ra), .val (.int z0), .val (.int z1), .val (.int z2), .unset] [])) := by
        intro T50 lc50 X50 e50 N50 z0 g0 z1 g1 z2 g2
        show own_Go p e below _ (T50.setTop (mkF m 239 #[.val (.long p0), .second, .val (.long p1), .second, .val (.long p2), .second, .val (.int p3), .val (.long x0), .second, .val (.long y1), .second, .val (.long y2), .second, .val (.int (1 : Int32)), .val (.long xt), .second, .val (.ref ob), .val (.ref ra), .val (.int z0), .val (.int z1), .val (.int z2), .unset] []))
        refine own_Go.st (fun _ kt => XS.iload X50.here hx rfl (hb hby at_239) rfl kt) ?_
        show own_Go p e below _ (T50.setTop (mkF m 241 #[.val (.long p0), .second, .val (.long p1), .second, .val (.long p2), .second, .val (.int p3), .val (.long x0), .second, .val (.long y1), .second, .val (.long y2), .second, .val (.int (1 : Int32)), .val (.long xt), .second, .val (.ref ob), .val (.ref ra), .val (.int z0), .val (.int z1), .val (.int z2), .unset] [(.int z0)]))
        rcases g0 with ⟨rfl, q⟩ | ⟨rfl, q⟩
        · show own_Go p e below _ (T50.setTop (mkF m 241 #[.val (.long p0), .second, .val (.long p1), .second, .val (.long p2), .second, .val (.int p3), .val (.long x0), .second, .val (.long y1), .second, .val (.long y2), .second, .val (.int (1 : Int32)), .val (.long xt), .second, .val (.ref ob), .val (.ref ra), .val (.int (1 : Int32)), .val (.int z1), .val (.int z2), .unset] [(.int (1 : Int32))]))
          refine own_Go.st (fun _ kt => XS.ifNo X50.here hx rfl (hb hby at_241) rfl ((if0 _ _).trans (feq (by decide)).1) kt) ?_
          show own_Go p e below _ (T50.setTop (mkF m 244 #[.val (.long p0), .second, .val (.long p1), .second, .val (.long p2), .second, .val (.int p3), .val (.long x0), .second, .val (.long y1), .second, .val (.long y2), .second, .val (.int (1 : Int32)), .val (.long xt), .second, .val (.ref ob), .val (.ref ra), .val (.int (1 : Int32)), .val (.int z1), .val (.int z2), .unset] []))
          refine own_Go.st (fun _ kt => XS.iconst X50.here hx rfl (hb hby at_244) kt) ?_
          show own_Go p e below _ (T50.setTop (mkF m 245 #[.val (.long p0), .second, .val (.long p1), .second, .val (.long p2), .second, .val (.int p3), .val (.long x0), .second, .val (.long y1), .second, .val (.long y2), .second, .val (.int (1 : Int32)), .val (.long xt), .second, .val (.ref ob), .val (.ref ra), .val (.int (1 : Int32)), .val (.int z1), .val (.int z2), .unset] [(.int (1 : Int32))]))
          refine own_Go.st (fun _ kt => XS.goto X50.here hx rfl (pc0 := 245) (pc' := 249) rfl (hb hby at_245) (by decide) (by decide) kt) ?_
          show own_Go p e below _ (T50.setTop (mkF m 249 #[.val (.long p0), .second, .val (.long p1), .second, .val (.long p2), .second, .val (.int p3), .val (.long x0), .second, .val (.long y1), .second, .val (.long y2), .second, .val (.int (1 : Int32)), .val (.long xt), .second, .val (.ref ob), .val (.ref ra), .val (.int (1 : Int32)), .val (.int z1), .val (.int z2), .unset] [(.int (1 : Int32))]))
          exact J249 _ _ X50 e50 N50 _ (Or.inl ⟨rfl, q⟩) _ g1 _ g2
        · show own_Go p e below _ (T50.setTop (mkF m 241 #[.val (.long p0), .second, .val (.long p1), .second, .val (.long p2), .second, .val (.int p3), .val (.long x0), .second, .val (.long y1), .second, .val (.long y2), .second, .val (.int (1 : Int32)), .val (.long xt), .second, .val (.ref ob), .val (.ref ra), .val (.int (0 : Int32)), .val (.int z1), .val (.int z2), .unset] [(.int (0 : Int32))]))
          refine own_Go.st (fun _ kt => XS.ifYes X50.here hx rfl (pc0 := 241) (pc' := 248) rfl (hb hby at_241) rfl ((if0 _ _).trans (teq rfl).1) (by decide) (by decide) kt) ?_
          show own_Go p e below _ (T50.setTop (mkF m 248 #[.val (.long p0), .second, .val (.long p1), .second, .val (.long p2), .second, .val (.int p3), .val (.long x0), .second, .val (.long y1), .second, .val (.long y2), .second, .val (.int (1 : Int32)), .val (.long xt), .second, .val (.ref ob), .val (.ref ra), .val (.int (0 : Int32)), .val (.int z1), .val (.int z2), .unset] []))
          refine own_Go.st (fun _ kt => XS.iconst X50.here hx rfl (hb hby at_248) kt) ?_
          show own_Go p e below _ (T50.setTop (mkF m 249 #[.val (.long p0), .second, .val (.long p1), .second, .val (.long p2), .second, .val (.int p3), .val (.long x0), .second, .val (.long y1), .second, .val (.long y2), .second, .val (.int (1 : Int32)), .val (.long xt), .second, .val (.ref ob), .val (.ref ra), .val (.int (0 : Int32)), .val (.int z1), .val (.int z2), .unset] [(.int (0 : Int32))]))
          exact J249 _ _ X50 e50 N50 _ (Or.inr ⟨rfl, q⟩) _ g1 _ g2
      have J203 : ∀ (T51 : State) (lc51 : List Loc) (X51 : Stand p l e room_1 s m #[(.long p0), (.long p1), (.long p2), (.int p3)] below meth c T51 lc51 4 38) (e51 : T51.heap = T40.heap) (N51 : Fr n0 lc51) (z0 : Int32) (g0 : own_B z0 (x0 ≠ xt)) (z1 : Int32) (g1 : own_B z1 (y1 ≠ x0 ∧ y1 ≠ xt)), own_Go p e below (fun o U' => ∃ v L, o = .returned v ∧ own_Q_own_law Z p0 p1 p2 p3 rc h0 n0 v U'.heap L ∧ FrameEnd s o U' L room_1.cells room_1.slots) (T51.setTop (mkF m 203 #[.val (.long p0), .second, .val (.long p1), .second, .val (.long p2), .second, .val (.int p3), .val (.long x0), .second, .val (.long y1), .second, .val (.long y2), .second, .val (.int (1 : Int32)), .val (.long xt), .second, .val (.ref ob), .val (.ref ra), .val (.int z0), .val (.int z1), .unset, .unset] [])) := by
        intro T51 lc51 X51 e51 N51 z0 g0 z1 g1
        show own_Go p e below _ (T51.setTop (mkF m 203 #[.val (.long p0), .second, .val (.long p1), .second, .val (.long p2), .second, .val (.int p3), .val (.long x0), .second, .val (.long y1), .second, .val (.long y2), .second, .val (.int (1 : Int32)), .val (.long xt), .second, .val (.ref ob), .val (.ref ra), .val (.int z0), .val (.int z1), .unset, .unset] []))
        refine own_Go.st (fun _ kt => XS.lload X51.here hx rfl (hb hby at_203) rfl kt) ?_
        show own_Go p e below _ (T51.setTop (mkF m 205 #[.val (.long p0), .second, .val (.long p1), .second, .val (.long p2), .second, .val (.int p3), .val (.long x0), .second, .val (.long y1), .second, .val (.long y2), .second, .val (.int (1 : Int32)), .val (.long xt), .second, .val (.ref ob), .val (.ref ra), .val (.int z0), .val (.int z1), .unset, .unset] [(.long y2)]))
        refine own_Go.st (fun _ kt => XS.lload X51.here hx rfl (hb hby at_205) rfl kt) ?_
        show own_Go p e below _ (T51.setTop (mkF m 207 #[.val (.long p0), .second, .val (.long p1), .second, .val (.long p2), .second, .val (.int p3), .val (.long x0), .second, .val (.long y1), .second, .val (.long y2), .second, .val (.int (1 : Int32)), .val (.long xt), .second, .val (.ref ob), .val (.ref ra), .val (.int z0), .val (.int z1), .unset, .unset] [(.long x0), (.long y2)]))
        refine own_Go.st (fun _ kt => XS.lcmp X51.here hx rfl (hb hby at_207) rfl kt) ?_
        show own_Go p e below _ (T51.setTop (mkF m 208 #[.val (.long p0), .second, .val (.long p1), .second, .val (.long p2), .second, .val (.int p3), .val (.long x0), .second, .val (.long y1), .second, .val (.long y2), .second, .val (.int (1 : Int32)), .val (.long xt), .second, .val (.ref ob), .val (.ref ra), .val (.int z0), .val (.int z1), .unset, .unset] [(.int (lcmpW y2 x0))]))
        by_cases c1 : y2 = x0
        · refine own_Go.st (fun _ kt => XS.ifYes X51.here hx rfl (pc0 := 208) (pc' := 236) rfl (hb hby at_208) rfl ((if0 _ _).trans (teq ((lw_eq _ _).mpr c1)).1) (by decide) (by decide) kt) ?_
          show own_Go p e below _ (T51.setTop (mkF m 236 #[.val (.long p0), .second, .val (.long p1), .second, .val (.long p2), .second, .val (.int p3), .val (.long x0), .second, .val (.long y1), .second, .val (.long y2), .second, .val (.int (1 : Int32)), .val (.long xt), .second, .val (.ref ob), .val (.ref ra), .val (.int z0), .val (.int z1), .unset, .unset] []))
          refine own_Go.st (fun _ kt => XS.iconst X51.here hx rfl (hb hby at_236) kt) ?_
          show own_Go p e below _ (T51.setTop (mkF m 237 #[.val (.long p0), .second, .val (.long p1), .second, .val (.long p2), .second, .val (.int p3), .val (.long x0), .second, .val (.long y1), .second, .val (.long y2), .second, .val (.int (1 : Int32)), .val (.long xt), .second, .val (.ref ob), .val (.ref ra), .val (.int z0), .val (.int z1), .unset, .unset] [(.int (0 : Int32))]))
          refine own_Go.st (fun _ kt => XS.istore X51.here hx rfl (hb hby at_237) rfl (l' := #[.val (.long p0), .second, .val (.long p1), .second, .val (.long p2), .second, .val (.int p3), .val (.long x0), .second, .val (.long y1), .second, .val (.long y2), .second, .val (.int (1 : Int32)), .val (.long xt), .second, .val (.ref ob), .val (.ref ra), .val (.int z0), .val (.int z1), .val (.int (0 : Int32)), .unset]) rfl kt) ?_
          show own_Go p e below _ (T51.setTop (mkF m 239 #[.val (.long p0), .second, .val (.long p1), .second, .val (.long p2), .second, .val (.int p3), .val (.long x0), .second, .val (.long y1), .second, .val (.long y2), .second, .val (.int (1 : Int32)), .val (.long xt), .second, .val (.ref ob), .val (.ref ra), .val (.int z0), .val (.int z1), .val (.int (0 : Int32)), .unset] []))
          exact J239 _ _ X51 e51 N51 _ g0 _ g1 _ (Or.inr ⟨rfl, fun z => z.1 c1⟩)
        · refine own_Go.st (fun _ kt => XS.ifNo X51.here hx rfl (hb hby at_208) rfl ((if0 _ _).trans (feq (mt (lw_eq _ _).mp c1)).1) kt) ?_
          show own_Go p e below _ (T51.setTop (mkF m 211 #[.val (.long p0), .second, .val (.long p1), .second, .val (.long p2), .second, .val (.int p3), .val (.long x0), .second, .val (.long y1), .second, .val (.long y2), .second, .val (.int (1 : Int32)), .val (.long xt), .second, .val (.ref ob), .val (.ref ra), .val (.int z0), .val (.int z1), .unset, .unset] []))
          refine own_Go.st (fun _ kt => XS.lload X51.here hx rfl (hb hby at_211) rfl kt) ?_
          show own_Go p e below _ (T51.setTop (mkF m 213 #[.val (.long p0), .second, .val (.long p1), .second, .val (.long p2), .second, .val (.int p3), .val (.long x0), .second, .val (.long y1), .second, .val (.long y2), .second, .val (.int (1 : Int32)), .val (.long xt), .second, .val (.ref ob), .val (.ref ra), .val (.int z0), .val (.int z1), .unset, .unset] [(.long y2)]))
          refine own_Go.st (fun _ kt => XS.lload X51.here hx rfl (hb hby at_213) rfl kt) ?_
          show own_Go p e below _ (T51.setTop (mkF m 215 #[.val (.long p0), .second, .val (.long p1), .second, .val (.long p2), .second, .val (.int p3), .val (.long x0), .second, .val (.long y1), .second, .val (.long y2), .second, .val (.int (1 : Int32)), .val (.long xt), .second, .val (.ref ob), .val (.ref ra), .val (.int z0), .val (.int z1), .unset, .unset] [(.long y1), (.long y2)]))
          refine own_Go.st (fun _ kt => XS.lcmp X51.here hx rfl (hb hby at_215) rfl kt) ?_
          show own_Go p e below _ (T51.setTop (mkF m 216 #[.val (.long p0), .second, .val (.long p1), .second, .val (.long p2), .second, .val (.int p3), .val (.long x0), .second, .val (.long y1), .second, .val (.long y2), .second, .val (.int (1 : Int32)), .val (.long xt), .second, .val (.ref ob), .val (.ref ra), .val (.int z0), .val (.int z1), .unset, .unset] [(.int (lcmpW y2 y1))]))
          by_cases c2 : y2 = y1
          · refine own_Go.st (fun _ kt => XS.ifYes X51.here hx rfl (pc0 := 216) (pc' := 236) rfl (hb hby at_216) rfl ((if0 _ _).trans (teq ((lw_eq _ _).mpr c2)).1) (by decide) (by decide) kt) ?_
            show own_Go p e below _ (T51.setTop (mkF m 236 #[.val (.long p0), .second, .val (.long p1), .second, .val (.long p2), .second, .val (.int p3), .val (.long x0), .second, .val (.long y1), .second, .val (.long y2), .second, .val (.int (1 : Int32)), .val (.long xt), .second, .val (.ref ob), .val (.ref ra), .val (.int z0), .val (.int z1), .unset, .unset] []))
            refine own_Go.st (fun _ kt => XS.iconst X51.here hx rfl (hb hby at_236) kt) ?_
            show own_Go p e below _ (T51.setTop (mkF m 237 #[.val (.long p0), .second, .val (.long p1), .second, .val (.long p2), .second, .val (.int p3), .val (.long x0), .second, .val (.long y1), .second, .val (.long y2), .second, .val (.int (1 : Int32)), .val (.long xt), .second, .val (.ref ob), .val (.ref ra), .val (.int z0), .val (.int z1), .unset, .unset] [(.int (0 : Int32))]))
            refine own_Go.st (fun _ kt => XS.istore X51.here hx rfl (hb hby at_237) rfl (l' := #[.val (.long p0), .second, .val (.long p1), .second, .val (.long p2), .second, .val (.int p3), .val (.long x0), .second, .val (.long y1), .second, .val (.long y2), .second, .val (.int (1 : Int32)), .val (.long xt), .second, .val (.ref ob), .val (.ref ra), .val (.int z0), .val (.int z1), .val (.int (0 : Int32)), .unset]) rfl kt) ?_
            show own_Go p e below _ (T51.setTop (mkF m 239 #[.val (.long p0), .second, .val (.long p1), .second, .val (.long p2), .second, .val (.int p3), .val (.long x0), .second, .val (.long y1), .second, .val (.long y2), .second, .val (.int (1 : Int32)), .val (.long xt), .second, .val (.ref ob), .val (.ref ra), .val (.int z0), .val (.int z1), .val (.int (0 : Int32)), .unset] []))
            exact J239 _ _ X51 e51 N51 _ g0 _ g1 _ (Or.inr ⟨rfl, fun z => z.2.1 c2⟩)
          · refine own_Go.st (fun _ kt => XS.ifNo X51.here hx rfl (hb hby at_216) rfl ((if0 _ _).trans (feq (mt (lw_eq _ _).mp c2)).1) kt) ?_
            show own_Go p e below _ (T51.setTop (mkF m 219 #[.val (.long p0), .second, .val (.long p1), .second, .val (.long p2), .second, .val (.int p3), .val (.long x0), .second, .val (.long y1), .second, .val (.long y2), .second, .val (.int (1 : Int32)), .val (.long xt), .second, .val (.ref ob), .val (.ref ra), .val (.int z0), .val (.int z1), .unset, .unset] []))
            refine own_Go.st (fun _ kt => XS.iload X51.here hx rfl (hb hby at_219) rfl kt) ?_
            show own_Go p e below _ (T51.setTop (mkF m 221 #[.val (.long p0), .second, .val (.long p1), .second, .val (.long p2), .second, .val (.int p3), .val (.long x0), .second, .val (.long y1), .second, .val (.long y2), .second, .val (.int (1 : Int32)), .val (.long xt), .second, .val (.ref ob), .val (.ref ra), .val (.int z0), .val (.int z1), .unset, .unset] [(.int (1 : Int32))]))
            refine own_Go.st (fun _ kt => XS.ifNo X51.here hx rfl (hb hby at_221) rfl ((if0 _ _).trans (feq (by decide)).1) kt) ?_
            show own_Go p e below _ (T51.setTop (mkF m 224 #[.val (.long p0), .second, .val (.long p1), .second, .val (.long p2), .second, .val (.int p3), .val (.long x0), .second, .val (.long y1), .second, .val (.long y2), .second, .val (.int (1 : Int32)), .val (.long xt), .second, .val (.ref ob), .val (.ref ra), .val (.int z0), .val (.int z1), .unset, .unset] []))
            refine own_Go.st (fun _ kt => XS.lload X51.here hx rfl (hb hby at_224) rfl kt) ?_
            show own_Go p e below _ (T51.setTop (mkF m 226 #[.val (.long p0), .second, .val (.long p1), .second, .val (.long p2), .second, .val (.int p3), .val (.long x0), .second, .val (.long y1), .second, .val (.long y2), .second, .val (.int (1 : Int32)), .val (.long xt), .second, .val (.ref ob), .val (.ref ra), .val (.int z0), .val (.int z1), .unset, .unset] [(.long y2)]))
            refine own_Go.st (fun _ kt => XS.lload X51.here hx rfl (hb hby at_226) rfl kt) ?_
            show own_Go p e below _ (T51.setTop (mkF m 228 #[.val (.long p0), .second, .val (.long p1), .second, .val (.long p2), .second, .val (.int p3), .val (.long x0), .second, .val (.long y1), .second, .val (.long y2), .second, .val (.int (1 : Int32)), .val (.long xt), .second, .val (.ref ob), .val (.ref ra), .val (.int z0), .val (.int z1), .unset, .unset] [(.long xt), (.long y2)]))
            refine own_Go.st (fun _ kt => XS.lcmp X51.here hx rfl (hb hby at_228) rfl kt) ?_
            show own_Go p e below _ (T51.setTop (mkF m 229 #[.val (.long p0), .second, .val (.long p1), .second, .val (.long p2), .second, .val (.int p3), .val (.long x0), .second, .val (.long y1), .second, .val (.long y2), .second, .val (.int (1 : Int32)), .val (.long xt), .second, .val (.ref ob), .val (.ref ra), .val (.int z0), .val (.int z1), .unset, .unset] [(.int (lcmpW y2 xt))]))
            by_cases c3 : y2 = xt
            · refine own_Go.st (fun _ kt => XS.ifYes X51.here hx rfl (pc0 := 229) (pc' := 236) rfl (hb hby at_229) rfl ((if0 _ _).trans (teq ((lw_eq _ _).mpr c3)).1) (by decide) (by decide) kt) ?_
              show own_Go p e below _ (T51.setTop (mkF m 236 #[.val (.long p0), .second, .val (.long p1), .second, .val (.long p2), .second, .val (.int p3), .val (.long x0), .second, .val (.long y1), .second, .val (.long y2), .second, .val (.int (1 : Int32)), .val (.long xt), .second, .val (.ref ob), .val (.ref ra), .val (.int z0), .val (.int z1), .unset, .unset] []))
              refine own_Go.st (fun _ kt => XS.iconst X51.here hx rfl (hb hby at_236) kt) ?_
              show own_Go p e below _ (T51.setTop (mkF m 237 #[.val (.long p0), .second, .val (.long p1), .second, .val (.long p2), .second, .val (.int p3), .val (.long x0), .second, .val (.long y1), .second, .val (.long y2), .second, .val (.int (1 : Int32)), .val (.long xt), .second, .val (.ref ob), .val (.ref ra), .val (.int z0), .val (.int z1), .unset, .unset] [(.int (0 : Int32))]))
              refine own_Go.st (fun _ kt => XS.istore X51.here hx rfl (hb hby at_237) rfl (l' := #[.val (.long p0), .second, .val (.long p1), .second, .val (.long p2), .second, .val (.int p3), .val (.long x0), .second, .val (.long y1), .second, .val (.long y2), .second, .val (.int (1 : Int32)), .val (.long xt), .second, .val (.ref ob), .val (.ref ra), .val (.int z0), .val (.int z1), .val (.int (0 : Int32)), .unset]) rfl kt) ?_
              show own_Go p e below _ (T51.setTop (mkF m 239 #[.val (.long p0), .second, .val (.long p1), .second, .val (.long p2), .second, .val (.int p3), .val (.long x0), .second, .val (.long y1), .second, .val (.long y2), .second, .val (.int (1 : Int32)), .val (.long xt), .second, .val (.ref ob), .val (.ref ra), .val (.int z0), .val (.int z1), .val (.int (0 : Int32)), .unset] []))
              exact J239 _ _ X51 e51 N51 _ g0 _ g1 _ (Or.inr ⟨rfl, fun z => z.2.2 c3⟩)
            · refine own_Go.st (fun _ kt => XS.ifNo X51.here hx rfl (hb hby at_229) rfl ((if0 _ _).trans (feq (mt (lw_eq _ _).mp c3)).1) kt) ?_
              show own_Go p e below _ (T51.setTop (mkF m 232 #[.val (.long p0), .second, .val (.long p1), .second, .val (.long p2), .second, .val (.int p3), .val (.long x0), .second, .val (.long y1), .second, .val (.long y2), .second, .val (.int (1 : Int32)), .val (.long xt), .second, .val (.ref ob), .val (.ref ra), .val (.int z0), .val (.int z1), .unset, .unset] []))
              refine own_Go.st (fun _ kt => XS.iconst X51.here hx rfl (hb hby at_232) kt) ?_
              show own_Go p e below _ (T51.setTop (mkF m 233 #[.val (.long p0), .second, .val (.long p1), .second, .val (.long p2), .second, .val (.int p3), .val (.long x0), .second, .val (.long y1), .second, .val (.long y2), .second, .val (.int (1 : Int32)), .val (.long xt), .second, .val (.ref ob), .val (.ref ra), .val (.int z0), .val (.int z1), .unset, .unset] [(.int (1 : Int32))]))
              refine own_Go.st (fun _ kt => XS.goto X51.here hx rfl (pc0 := 233) (pc' := 237) rfl (hb hby at_233) (by decide) (by decide) kt) ?_
              show own_Go p e below _ (T51.setTop (mkF m 237 #[.val (.long p0), .second, .val (.long p1), .second, .val (.long p2), .second, .val (.int p3), .val (.long x0), .second, .val (.long y1), .second, .val (.long y2), .second, .val (.int (1 : Int32)), .val (.long xt), .second, .val (.ref ob), .val (.ref ra), .val (.int z0), .val (.int z1), .unset, .unset] [(.int (1 : Int32))]))
              refine own_Go.st (fun _ kt => XS.istore X51.here hx rfl (hb hby at_237) rfl (l' := #[.val (.long p0), .second, .val (.long p1), .second, .val (.long p2), .second, .val (.int p3), .val (.long x0), .second, .val (.long y1), .second, .val (.long y2), .second, .val (.int (1 : Int32)), .val (.long xt), .second, .val (.ref ob), .val (.ref ra), .val (.int z0), .val (.int z1), .val (.int (1 : Int32)), .unset]) rfl kt) ?_
              show own_Go p e below _ (T51.setTop (mkF m 239 #[.val (.long p0), .second, .val (.long p1), .second, .val (.long p2), .second, .val (.int p3), .val (.long x0), .second, .val (.long y1), .second, .val (.long y2), .second, .val (.int (1 : Int32)), .val (.long xt), .second, .val (.ref ob), .val (.ref ra), .val (.int z0), .val (.int z1), .val (.int (1 : Int32)), .unset] []))
              exact J239 _ _ X51 e51 N51 _ g0 _ g1 _ (Or.inl ⟨rfl, c1, c2, c3⟩)
      have J175 : ∀ (T52 : State) (lc52 : List Loc) (X52 : Stand p l e room_1 s m #[(.long p0), (.long p1), (.long p2), (.int p3)] below meth c T52 lc52 4 38) (e52 : T52.heap = T40.heap) (N52 : Fr n0 lc52) (z0 : Int32) (g0 : own_B z0 (x0 ≠ xt)), own_Go p e below (fun o U' => ∃ v L, o = .returned v ∧ own_Q_own_law Z p0 p1 p2 p3 rc h0 n0 v U'.heap L ∧ FrameEnd s o U' L room_1.cells room_1.slots) (T52.setTop (mkF m 175 #[.val (.long p0), .second, .val (.long p1), .second, .val (.long p2), .second, .val (.int p3), .val (.long x0), .second, .val (.long y1), .second, .val (.long y2), .second, .val (.int (1 : Int32)), .val (.long xt), .second, .val (.ref ob), .val (.ref ra), .val (.int z0), .unset, .unset, .unset] [])) := by
        intro T52 lc52 X52 e52 N52 z0 g0
        show own_Go p e below _ (T52.setTop (mkF m 175 #[.val (.long p0), .second, .val (.long p1), .second, .val (.long p2), .second, .val (.int p3), .val (.long x0), .second, .val (.long y1), .second, .val (.long y2), .second, .val (.int (1 : Int32)), .val (.long xt), .second, .val (.ref ob), .val (.ref ra), .val (.int z0), .unset, .unset, .unset] []))
        refine own_Go.st (fun _ kt => XS.lload X52.here hx rfl (hb hby at_175) rfl kt) ?_
        show own_Go p e below _ (T52.setTop (mkF m 177 #[.val (.long p0), .second, .val (.long p1), .second, .val (.long p2), .second, .val (.int p3), .val (.long x0), .second, .val (.long y1), .second, .val (.long y2), .second, .val (.int (1 : Int32)), .val (.long xt), .second, .val (.ref ob), .val (.ref ra), .val (.int z0), .unset, .unset, .unset] [(.long y1)]))
        refine own_Go.st (fun _ kt => XS.lload X52.here hx rfl (hb hby at_177) rfl kt) ?_
        show own_Go p e below _ (T52.setTop (mkF m 179 #[.val (.long p0), .second, .val (.long p1), .second, .val (.long p2), .second, .val (.int p3), .val (.long x0), .second, .val (.long y1), .second, .val (.long y2), .second, .val (.int (1 : Int32)), .val (.long xt), .second, .val (.ref ob), .val (.ref ra), .val (.int z0), .unset, .unset, .unset] [(.long x0), (.long y1)]))
        refine own_Go.st (fun _ kt => XS.lcmp X52.here hx rfl (hb hby at_179) rfl kt) ?_
        show own_Go p e below _ (T52.setTop (mkF m 180 #[.val (.long p0), .second, .val (.long p1), .second, .val (.long p2), .second, .val (.int p3), .val (.long x0), .second, .val (.long y1), .second, .val (.long y2), .second, .val (.int (1 : Int32)), .val (.long xt), .second, .val (.ref ob), .val (.ref ra), .val (.int z0), .unset, .unset, .unset] [(.int (lcmpW y1 x0))]))
        by_cases c1 : y1 = x0
        · refine own_Go.st (fun _ kt => XS.ifYes X52.here hx rfl (pc0 := 180) (pc' := 200) rfl (hb hby at_180) rfl ((if0 _ _).trans (teq ((lw_eq _ _).mpr c1)).1) (by decide) (by decide) kt) ?_
          show own_Go p e below _ (T52.setTop (mkF m 200 #[.val (.long p0), .second, .val (.long p1), .second, .val (.long p2), .second, .val (.int p3), .val (.long x0), .second, .val (.long y1), .second, .val (.long y2), .second, .val (.int (1 : Int32)), .val (.long xt), .second, .val (.ref ob), .val (.ref ra), .val (.int z0), .unset, .unset, .unset] []))
          refine own_Go.st (fun _ kt => XS.iconst X52.here hx rfl (hb hby at_200) kt) ?_
          show own_Go p e below _ (T52.setTop (mkF m 201 #[.val (.long p0), .second, .val (.long p1), .second, .val (.long p2), .second, .val (.int p3), .val (.long x0), .second, .val (.long y1), .second, .val (.long y2), .second, .val (.int (1 : Int32)), .val (.long xt), .second, .val (.ref ob), .val (.ref ra), .val (.int z0), .unset, .unset, .unset] [(.int (0 : Int32))]))
          refine own_Go.st (fun _ kt => XS.istore X52.here hx rfl (hb hby at_201) rfl (l' := #[.val (.long p0), .second, .val (.long p1), .second, .val (.long p2), .second, .val (.int p3), .val (.long x0), .second, .val (.long y1), .second, .val (.long y2), .second, .val (.int (1 : Int32)), .val (.long xt), .second, .val (.ref ob), .val (.ref ra), .val (.int z0), .val (.int (0 : Int32)), .unset, .unset]) rfl kt) ?_
          show own_Go p e below _ (T52.setTop (mkF m 203 #[.val (.long p0), .second, .val (.long p1), .second, .val (.long p2), .second, .val (.int p3), .val (.long x0), .second, .val (.long y1), .second, .val (.long y2), .second, .val (.int (1 : Int32)), .val (.long xt), .second, .val (.ref ob), .val (.ref ra), .val (.int z0), .val (.int (0 : Int32)), .unset, .unset] []))
          exact J203 _ _ X52 e52 N52 _ g0 _ (Or.inr ⟨rfl, fun z => z.1 c1⟩)
        · refine own_Go.st (fun _ kt => XS.ifNo X52.here hx rfl (hb hby at_180) rfl ((if0 _ _).trans (feq (mt (lw_eq _ _).mp c1)).1) kt) ?_
          show own_Go p e below _ (T52.setTop (mkF m 183 #[.val (.long p0), .second, .val (.long p1), .second, .val (.long p2), .second, .val (.int p3), .val (.long x0), .second, .val (.long y1), .second, .val (.long y2), .second, .val (.int (1 : Int32)), .val (.long xt), .second, .val (.ref ob), .val (.ref ra), .val (.int z0), .unset, .unset, .unset] []))
          refine own_Go.st (fun _ kt => XS.iload X52.here hx rfl (hb hby at_183) rfl kt) ?_
          show own_Go p e below _ (T52.setTop (mkF m 185 #[.val (.long p0), .second, .val (.long p1), .second, .val (.long p2), .second, .val (.int p3), .val (.long x0), .second, .val (.long y1), .second, .val (.long y2), .second, .val (.int (1 : Int32)), .val (.long xt), .second, .val (.ref ob), .val (.ref ra), .val (.int z0), .unset, .unset, .unset] [(.int (1 : Int32))]))
          refine own_Go.st (fun _ kt => XS.ifNo X52.here hx rfl (hb hby at_185) rfl ((if0 _ _).trans (feq (by decide)).1) kt) ?_
          show own_Go p e below _ (T52.setTop (mkF m 188 #[.val (.long p0), .second, .val (.long p1), .second, .val (.long p2), .second, .val (.int p3), .val (.long x0), .second, .val (.long y1), .second, .val (.long y2), .second, .val (.int (1 : Int32)), .val (.long xt), .second, .val (.ref ob), .val (.ref ra), .val (.int z0), .unset, .unset, .unset] []))
          refine own_Go.st (fun _ kt => XS.lload X52.here hx rfl (hb hby at_188) rfl kt) ?_
          show own_Go p e below _ (T52.setTop (mkF m 190 #[.val (.long p0), .second, .val (.long p1), .second, .val (.long p2), .second, .val (.int p3), .val (.long x0), .second, .val (.long y1), .second, .val (.long y2), .second, .val (.int (1 : Int32)), .val (.long xt), .second, .val (.ref ob), .val (.ref ra), .val (.int z0), .unset, .unset, .unset] [(.long y1)]))
          refine own_Go.st (fun _ kt => XS.lload X52.here hx rfl (hb hby at_190) rfl kt) ?_
          show own_Go p e below _ (T52.setTop (mkF m 192 #[.val (.long p0), .second, .val (.long p1), .second, .val (.long p2), .second, .val (.int p3), .val (.long x0), .second, .val (.long y1), .second, .val (.long y2), .second, .val (.int (1 : Int32)), .val (.long xt), .second, .val (.ref ob), .val (.ref ra), .val (.int z0), .unset, .unset, .unset] [(.long xt), (.long y1)]))
          refine own_Go.st (fun _ kt => XS.lcmp X52.here hx rfl (hb hby at_192) rfl kt) ?_
          show own_Go p e below _ (T52.setTop (mkF m 193 #[.val (.long p0), .second, .val (.long p1), .second, .val (.long p2), .second, .val (.int p3), .val (.long x0), .second, .val (.long y1), .second, .val (.long y2), .second, .val (.int (1 : Int32)), .val (.long xt), .second, .val (.ref ob), .val (.ref ra), .val (.int z0), .unset, .unset, .unset] [(.int (lcmpW y1 xt))]))
          by_cases c3 : y1 = xt
          · refine own_Go.st (fun _ kt => XS.ifYes X52.here hx rfl (pc0 := 193) (pc' := 200) rfl (hb hby at_193) rfl ((if0 _ _).trans (teq ((lw_eq _ _).mpr c3)).1) (by decide) (by decide) kt) ?_
            show own_Go p e below _ (T52.setTop (mkF m 200 #[.val (.long p0), .second, .val (.long p1), .second, .val (.long p2), .second, .val (.int p3), .val (.long x0), .second, .val (.long y1), .second, .val (.long y2), .second, .val (.int (1 : Int32)), .val (.long xt), .second, .val (.ref ob), .val (.ref ra), .val (.int z0), .unset, .unset, .unset] []))
            refine own_Go.st (fun _ kt => XS.iconst X52.here hx rfl (hb hby at_200) kt) ?_
            show own_Go p e below _ (T52.setTop (mkF m 201 #[.val (.long p0), .second, .val (.long p1), .second, .val (.long p2), .second, .val (.int p3), .val (.long x0), .second, .val (.long y1), .second, .val (.long y2), .second, .val (.int (1 : Int32)), .val (.long xt), .second, .val (.ref ob), .val (.ref ra), .val (.int z0), .unset, .unset, .unset] [(.int (0 : Int32))]))
            refine own_Go.st (fun _ kt => XS.istore X52.here hx rfl (hb hby at_201) rfl (l' := #[.val (.long p0), .second, .val (.long p1), .second, .val (.long p2), .second, .val (.int p3), .val (.long x0), .second, .val (.long y1), .second, .val (.long y2), .second, .val (.int (1 : Int32)), .val (.long xt), .second, .val (.ref ob), .val (.ref ra), .val (.int z0), .val (.int (0 : Int32)), .unset, .unset]) rfl kt) ?_
            show own_Go p e below _ (T52.setTop (mkF m 203 #[.val (.long p0), .second, .val (.long p1), .second, .val (.long p2), .second, .val (.int p3), .val (.long x0), .second, .val (.long y1), .second, .val (.long y2), .second, .val (.int (1 : Int32)), .val (.long xt), .second, .val (.ref ob), .val (.ref ra), .val (.int z0), .val (.int (0 : Int32)), .unset, .unset] []))
            exact J203 _ _ X52 e52 N52 _ g0 _ (Or.inr ⟨rfl, fun z => z.2 c3⟩)
          · refine own_Go.st (fun _ kt => XS.ifNo X52.here hx rfl (hb hby at_193) rfl ((if0 _ _).trans (feq (mt (lw_eq _ _).mp c3)).1) kt) ?_
            show own_Go p e below _ (T52.setTop (mkF m 196 #[.val (.long p0), .second, .val (.long p1), .second, .val (.long p2), .second, .val (.int p3), .val (.long x0), .second, .val (.long y1), .second, .val (.long y2), .second, .val (.int (1 : Int32)), .val (.long xt), .second, .val (.ref ob), .val (.ref ra), .val (.int z0), .unset, .unset, .unset] []))
            refine own_Go.st (fun _ kt => XS.iconst X52.here hx rfl (hb hby at_196) kt) ?_
            show own_Go p e below _ (T52.setTop (mkF m 197 #[.val (.long p0), .second, .val (.long p1), .second, .val (.long p2), .second, .val (.int p3), .val (.long x0), .second, .val (.long y1), .second, .val (.long y2), .second, .val (.int (1 : Int32)), .val (.long xt), .second, .val (.ref ob), .val (.ref ra), .val (.int z0), .unset, .unset, .unset] [(.int (1 : Int32))]))
            refine own_Go.st (fun _ kt => XS.goto X52.here hx rfl (pc0 := 197) (pc' := 201) rfl (hb hby at_197) (by decide) (by decide) kt) ?_
            show own_Go p e below _ (T52.setTop (mkF m 201 #[.val (.long p0), .second, .val (.long p1), .second, .val (.long p2), .second, .val (.int p3), .val (.long x0), .second, .val (.long y1), .second, .val (.long y2), .second, .val (.int (1 : Int32)), .val (.long xt), .second, .val (.ref ob), .val (.ref ra), .val (.int z0), .unset, .unset, .unset] [(.int (1 : Int32))]))
            refine own_Go.st (fun _ kt => XS.istore X52.here hx rfl (hb hby at_201) rfl (l' := #[.val (.long p0), .second, .val (.long p1), .second, .val (.long p2), .second, .val (.int p3), .val (.long x0), .second, .val (.long y1), .second, .val (.long y2), .second, .val (.int (1 : Int32)), .val (.long xt), .second, .val (.ref ob), .val (.ref ra), .val (.int z0), .val (.int (1 : Int32)), .unset, .unset]) rfl kt) ?_
            show own_Go p e below _ (T52.setTop (mkF m 203 #[.val (.long p0), .second, .val (.long p1), .second, .val (.long p2), .second, .val (.int p3), .val (.long x0), .second, .val (.long y1), .second, .val (.long y2), .second, .val (.int (1 : Int32)), .val (.long xt), .second, .val (.ref ob), .val (.ref ra), .val (.int z0), .val (.int (1 : Int32)), .unset, .unset] []))
            exact J203 _ _ X52 e52 N52 _ g0 _ (Or.inl ⟨rfl, c1, c3⟩)
      refine own_Go.st (fun _ kt => XS.iload X40.here hx rfl (hb hby at_155) rfl kt) ?_
      show own_Go p e below _ (T40.setTop (mkF m 157 #[.val (.long p0), .second, .val (.long p1), .second, .val (.long p2), .second, .val (.int p3), .val (.long x0), .second, .val (.long y1), .second, .val (.long y2), .second, .val (.int (1 : Int32)), .val (.long xt), .second, .val (.ref ob), .val (.ref ra), .unset, .unset, .unset, .unset] [(.int (1 : Int32))]))
      refine own_Go.st (fun _ kt => XS.ifNo X40.here hx rfl (hb hby at_157) rfl ((if0 _ _).trans (feq (by decide)).1) kt) ?_
      show own_Go p e below _ (T40.setTop (mkF m 160 #[.val (.long p0), .second, .val (.long p1), .second, .val (.long p2), .second, .val (.int p3), .val (.long x0), .second, .val (.long y1), .second, .val (.long y2), .second, .val (.int (1 : Int32)), .val (.long xt), .second, .val (.ref ob), .val (.ref ra), .unset, .unset, .unset, .unset] []))
      refine own_Go.st (fun _ kt => XS.lload X40.here hx rfl (hb hby at_160) rfl kt) ?_
      show own_Go p e below _ (T40.setTop (mkF m 162 #[.val (.long p0), .second, .val (.long p1), .second, .val (.long p2), .second, .val (.int p3), .val (.long x0), .second, .val (.long y1), .second, .val (.long y2), .second, .val (.int (1 : Int32)), .val (.long xt), .second, .val (.ref ob), .val (.ref ra), .unset, .unset, .unset, .unset] [(.long x0)]))
      refine own_Go.st (fun _ kt => XS.lload X40.here hx rfl (hb hby at_162) rfl kt) ?_
      show own_Go p e below _ (T40.setTop (mkF m 164 #[.val (.long p0), .second, .val (.long p1), .second, .val (.long p2), .second, .val (.int p3), .val (.long x0), .second, .val (.long y1), .second, .val (.long y2), .second, .val (.int (1 : Int32)), .val (.long xt), .second, .val (.ref ob), .val (.ref ra), .unset, .unset, .unset, .unset] [(.long xt), (.long x0)]))
      refine own_Go.st (fun _ kt => XS.lcmp X40.here hx rfl (hb hby at_164) rfl kt) ?_
      show own_Go p e below _ (T40.setTop (mkF m 165 #[.val (.long p0), .second, .val (.long p1), .second, .val (.long p2), .second, .val (.int p3), .val (.long x0), .second, .val (.long y1), .second, .val (.long y2), .second, .val (.int (1 : Int32)), .val (.long xt), .second, .val (.ref ob), .val (.ref ra), .unset, .unset, .unset, .unset] [(.int (lcmpW x0 xt))]))
      by_cases c3 : x0 = xt
      · refine own_Go.st (fun _ kt => XS.ifYes X40.here hx rfl (pc0 := 165) (pc' := 172) rfl (hb hby at_165) rfl ((if0 _ _).trans (teq ((lw_eq _ _).mpr c3)).1) (by decide) (by decide) kt) ?_
        show own_Go p e below _ (T40.setTop (mkF m 172 #[.val (.long p0), .second, .val (.long p1), .second, .val (.long p2), .second, .val (.int p3), .val (.long x0), .second, .val (.long y1), .second, .val (.long y2), .second, .val (.int (1 : Int32)), .val (.long xt), .second, .val (.ref ob), .val (.ref ra), .unset, .unset, .unset, .unset] []))
        refine own_Go.st (fun _ kt => XS.iconst X40.here hx rfl (hb hby at_172) kt) ?_
        show own_Go p e below _ (T40.setTop (mkF m 173 #[.val (.long p0), .second, .val (.long p1), .second, .val (.long p2), .second, .val (.int p3), .val (.long x0), .second, .val (.long y1), .second, .val (.long y2), .second, .val (.int (1 : Int32)), .val (.long xt), .second, .val (.ref ob), .val (.ref ra), .unset, .unset, .unset, .unset] [(.int (0 : Int32))]))
        refine own_Go.st (fun _ kt => XS.istore X40.here hx rfl (hb hby at_173) rfl (l' := #[.val (.long p0), .second, .val (.long p1), .second, .val (.long p2), .second, .val (.int p3), .val (.long x0), .second, .val (.long y1), .second, .val (.long y2), .second, .val (.int (1 : Int32)), .val (.long xt), .second, .val (.ref ob), .val (.ref ra), .val (.int (0 : Int32)), .unset, .unset, .unset]) rfl kt) ?_
        show own_Go p e below _ (T40.setTop (mkF m 175 #[.val (.long p0), .second, .val (.long p1), .second, .val (.long p2), .second, .val (.int p3), .val (.long x0), .second, .val (.long y1), .second, .val (.long y2), .second, .val (.int (1 : Int32)), .val (.long xt), .second, .val (.ref ob), .val (.ref ra), .val (.int (0 : Int32)), .unset, .unset, .unset] []))
        exact J175 _ _ X40 rfl N40 _ (Or.inr ⟨rfl, fun z => z c3⟩)
      · refine own_Go.st (fun _ kt => XS.ifNo X40.here hx rfl (hb hby at_165) rfl ((if0 _ _).trans (feq (mt (lw_eq _ _).mp c3)).1) kt) ?_
        show own_Go p e below _ (T40.setTop (mkF m 168 #[.val (.long p0), .second, .val (.long p1), .second, .val (.long p2), .second, .val (.int p3), .val (.long x0), .second, .val (.long y1), .second, .val (.long y2), .second, .val (.int (1 : Int32)), .val (.long xt), .second, .val (.ref ob), .val (.ref ra), .unset, .unset, .unset, .unset] []))
        refine own_Go.st (fun _ kt => XS.iconst X40.here hx rfl (hb hby at_168) kt) ?_
        show own_Go p e below _ (T40.setTop (mkF m 169 #[.val (.long p0), .second, .val (.long p1), .second, .val (.long p2), .second, .val (.int p3), .val (.long x0), .second, .val (.long y1), .second, .val (.long y2), .second, .val (.int (1 : Int32)), .val (.long xt), .second, .val (.ref ob), .val (.ref ra), .unset, .unset, .unset, .unset] [(.int (1 : Int32))]))
        refine own_Go.st (fun _ kt => XS.goto X40.here hx rfl (pc0 := 169) (pc' := 173) rfl (hb hby at_169) (by decide) (by decide) kt) ?_
        show own_Go p e below _ (T40.setTop (mkF m 173 #[.val (.long p0), .second, .val (.long p1), .second, .val (.long p2), .second, .val (.int p3), .val (.long x0), .second, .val (.long y1), .second, .val (.long y2), .second, .val (.int (1 : Int32)), .val (.long xt), .second, .val (.ref ob), .val (.ref ra), .unset, .unset, .unset, .unset] [(.int (1 : Int32))]))
        refine own_Go.st (fun _ kt => XS.istore X40.here hx rfl (hb hby at_173) rfl (l' := #[.val (.long p0), .second, .val (.long p1), .second, .val (.long p2), .second, .val (.int p3), .val (.long x0), .second, .val (.long y1), .second, .val (.long y2), .second, .val (.int (1 : Int32)), .val (.long xt), .second, .val (.ref ob), .val (.ref ra), .val (.int (1 : Int32)), .unset, .unset, .unset]) rfl kt) ?_
        show own_Go p e below _ (T40.setTop (mkF m 175 #[.val (.long p0), .second, .val (.long p1), .second, .val (.long p2), .second, .val (.int p3), .val (.long x0), .second, .val (.long y1), .second, .val (.long y2), .second, .val (.int (1 : Int32)), .val (.long xt), .second, .val (.ref ob), .val (.ref ra), .val (.int (1 : Int32)), .unset, .unset, .unset] []))
        exact J175 _ _ X40 rfl N40 _ (Or.inl ⟨rfl, c3⟩)
  have J73 : ∀ (T53 : State) (lc53 : List Loc) (X53 : Stand p l e room_1 s m #[(.long p0), (.long p1), (.long p2), (.int p3)] below meth c T53 lc53 0 0) (e53 : T53.heap = h0) (N53 : Fr n0 lc53) (y1 : Int64) (hy1 : y1 ≠ -1) (y2 : Int64) (hy2 : y2 ≠ -1) (xr : Int32) (hr : xr = 0 ∨ xr = 1), own_Go p e below (fun o U' => ∃ v L, o = .returned v ∧ own_Q_own_law Z p0 p1 p2 p3 rc h0 n0 v U'.heap L ∧ FrameEnd s o U' L room_1.cells room_1.slots) (T53.setTop (mkF m 73 #[.val (.long p0), .second, .val (.long p1), .second, .val (.long p2), .second, .val (.int p3), .val (.long x0), .second, .val (.long y1), .second, .val (.long y2), .second, .val (.int xr), .unset, .unset, .unset, .unset, .unset, .unset, .unset, .unset] [])) := by
    intro T53 lc53 X53 e53 N53 y1 hy1 y2 hy2 xr hr
    show own_Go p e below _ (T53.setTop (mkF m 73 #[.val (.long p0), .second, .val (.long p1), .second, .val (.long p2), .second, .val (.int p3), .val (.long x0), .second, .val (.long y1), .second, .val (.long y2), .second, .val (.int xr), .unset, .unset, .unset, .unset, .unset, .unset, .unset, .unset] []))
    refine own_Go.st (fun _ kt => XS.iload X53.here hx rfl (hb hby at_73) rfl kt) ?_
    show own_Go p e below _ (T53.setTop (mkF m 75 #[.val (.long p0), .second, .val (.long p1), .second, .val (.long p2), .second, .val (.int p3), .val (.long x0), .second, .val (.long y1), .second, .val (.long y2), .second, .val (.int xr), .unset, .unset, .unset, .unset, .unset, .unset, .unset, .unset] [(.int p3)]))
    refine own_Go.st (fun _ kt => XS.bipush X53.here hx rfl (hb hby at_75) kt) ?_
    show own_Go p e below _ (T53.setTop (mkF m 77 #[.val (.long p0), .second, .val (.long p1), .second, .val (.long p2), .second, .val (.int p3), .val (.long x0), .second, .val (.long y1), .second, .val (.long y2), .second, .val (.int xr), .unset, .unset, .unset, .unset, .unset, .unset, .unset, .unset] [(.int (8 : Int32)), (.int p3)]))
    refine own_Go.st (fun _ kt => XS.iand X53.here hx rfl (hb hby at_77) rfl kt) ?_
    show own_Go p e below _ (T53.setTop (mkF m 78 #[.val (.long p0), .second, .val (.long p1), .second, .val (.long p2), .second, .val (.int p3), .val (.long x0), .second, .val (.long y1), .second, .val (.long y2), .second, .val (.int xr), .unset, .unset, .unset, .unset, .unset, .unset, .unset, .unset] [(.int (p3 &&& (8 : Int32)))]))
    by_cases c1 : (p3 &&& (8 : Int32)) = (0 : Int32)
    · refine own_Go.st (fun _ kt => XS.ifYes X53.here hx rfl (pc0 := 78) (pc' := 86) rfl (hb hby at_78) rfl ((if0 _ _).trans (teq c1).1) (by decide) (by decide) kt) ?_
      show own_Go p e below _ (T53.setTop (mkF m 86 #[.val (.long p0), .second, .val (.long p1), .second, .val (.long p2), .second, .val (.int p3), .val (.long x0), .second, .val (.long y1), .second, .val (.long y2), .second, .val (.int xr), .unset, .unset, .unset, .unset, .unset, .unset, .unset, .unset] []))
      refine own_Go.st (fun _ kt => XS.lload X53.here hx rfl (hb hby at_86) rfl kt) ?_
      show own_Go p e below _ (T53.setTop (mkF m 88 #[.val (.long p0), .second, .val (.long p1), .second, .val (.long p2), .second, .val (.int p3), .val (.long x0), .second, .val (.long y1), .second, .val (.long y2), .second, .val (.int xr), .unset, .unset, .unset, .unset, .unset, .unset, .unset, .unset] [(.long y2)]))
      refine own_Go.st (fun _ kt => XS.lstore X53.here hx rfl (hb hby at_88) rfl (l' := #[.val (.long p0), .second, .val (.long p1), .second, .val (.long p2), .second, .val (.int p3), .val (.long x0), .second, .val (.long y1), .second, .val (.long y2), .second, .val (.int xr), .val (.long y2), .second, .unset, .unset, .unset, .unset, .unset, .unset]) rfl kt) ?_
      show own_Go p e below _ (T53.setTop (mkF m 90 #[.val (.long p0), .second, .val (.long p1), .second, .val (.long p2), .second, .val (.int p3), .val (.long x0), .second, .val (.long y1), .second, .val (.long y2), .second, .val (.int xr), .val (.long y2), .second, .unset, .unset, .unset, .unset, .unset, .unset] []))
      exact J90 _ _ X53 e53 N53 _ hy1 _ hy2 _ hr _ (Or.inr rfl)
    · refine own_Go.st (fun _ kt => XS.ifNo X53.here hx rfl (hb hby at_78) rfl ((if0 _ _).trans (feq c1).1) kt) ?_
      show own_Go p e below _ (T53.setTop (mkF m 81 #[.val (.long p0), .second, .val (.long p1), .second, .val (.long p2), .second, .val (.int p3), .val (.long x0), .second, .val (.long y1), .second, .val (.long y2), .second, .val (.int xr), .unset, .unset, .unset, .unset, .unset, .unset, .unset, .unset] []))
      refine own_Go.st (fun _ kt => XS.lload X53.here hx rfl (hb hby at_81) rfl kt) ?_
      show own_Go p e below _ (T53.setTop (mkF m 83 #[.val (.long p0), .second, .val (.long p1), .second, .val (.long p2), .second, .val (.int p3), .val (.long x0), .second, .val (.long y1), .second, .val (.long y2), .second, .val (.int xr), .unset, .unset, .unset, .unset, .unset, .unset, .unset, .unset] [(.long x0)]))
      refine own_Go.st (fun _ kt => XS.goto X53.here hx rfl (pc0 := 83) (pc' := 88) rfl (hb hby at_83) (by decide) (by decide) kt) ?_
      show own_Go p e below _ (T53.setTop (mkF m 88 #[.val (.long p0), .second, .val (.long p1), .second, .val (.long p2), .second, .val (.int p3), .val (.long x0), .second, .val (.long y1), .second, .val (.long y2), .second, .val (.int xr), .unset, .unset, .unset, .unset, .unset, .unset, .unset, .unset] [(.long x0)]))
      refine own_Go.st (fun _ kt => XS.lstore X53.here hx rfl (hb hby at_88) rfl (l' := #[.val (.long p0), .second, .val (.long p1), .second, .val (.long p2), .second, .val (.int p3), .val (.long x0), .second, .val (.long y1), .second, .val (.long y2), .second, .val (.int xr), .val (.long x0), .second, .unset, .unset, .unset, .unset, .unset, .unset]) rfl kt) ?_
      show own_Go p e below _ (T53.setTop (mkF m 90 #[.val (.long p0), .second, .val (.long p1), .second, .val (.long p2), .second, .val (.int p3), .val (.long x0), .second, .val (.long y1), .second, .val (.long y2), .second, .val (.int xr), .val (.long x0), .second, .unset, .unset, .unset, .unset, .unset, .unset] []))
      exact J90 _ _ X53 e53 N53 _ hy1 _ hy2 _ hr _ (Or.inl rfl)
  have J59 : ∀ (T54 : State) (lc54 : List Loc) (X54 : Stand p l e room_1 s m #[(.long p0), (.long p1), (.long p2), (.int p3)] below meth c T54 lc54 0 0) (e54 : T54.heap = h0) (N54 : Fr n0 lc54) (y1 : Int64) (hy1 : y1 ≠ -1) (y2 : Int64) (hy2 : y2 ≠ -1), own_Go p e below (fun o U' => ∃ v L, o = .returned v ∧ own_Q_own_law Z p0 p1 p2 p3 rc h0 n0 v U'.heap L ∧ FrameEnd s o U' L room_1.cells room_1.slots) (T54.setTop (mkF m 59 #[.val (.long p0), .second, .val (.long p1), .second, .val (.long p2), .second, .val (.int p3), .val (.long x0), .second, .val (.long y1), .second, .val (.long y2), .second, .unset, .unset, .unset, .unset, .unset, .unset, .unset, .unset, .unset] [])) := by
    intro T54 lc54 X54 e54 N54 y1 hy1 y2 hy2
    show own_Go p e below _ (T54.setTop (mkF m 59 #[.val (.long p0), .second, .val (.long p1), .second, .val (.long p2), .second, .val (.int p3), .val (.long x0), .second, .val (.long y1), .second, .val (.long y2), .second, .unset, .unset, .unset, .unset, .unset, .unset, .unset, .unset, .unset] []))
    refine own_Go.st (fun _ kt => XS.iload X54.here hx rfl (hb hby at_59) rfl kt) ?_
    show own_Go p e below _ (T54.setTop (mkF m 61 #[.val (.long p0), .second, .val (.long p1), .second, .val (.long p2), .second, .val (.int p3), .val (.long x0), .second, .val (.long y1), .second, .val (.long y2), .second, .unset, .unset, .unset, .unset, .unset, .unset, .unset, .unset, .unset] [(.int p3)]))
    refine own_Go.st (fun _ kt => XS.iconst X54.here hx rfl (hb hby at_61) kt) ?_
    show own_Go p e below _ (T54.setTop (mkF m 62 #[.val (.long p0), .second, .val (.long p1), .second, .val (.long p2), .second, .val (.int p3), .val (.long x0), .second, .val (.long y1), .second, .val (.long y2), .second, .unset, .unset, .unset, .unset, .unset, .unset, .unset, .unset, .unset] [(.int (4 : Int32)), (.int p3)]))
    refine own_Go.st (fun _ kt => XS.iand X54.here hx rfl (hb hby at_62) rfl kt) ?_
    show own_Go p e below _ (T54.setTop (mkF m 63 #[.val (.long p0), .second, .val (.long p1), .second, .val (.long p2), .second, .val (.int p3), .val (.long x0), .second, .val (.long y1), .second, .val (.long y2), .second, .unset, .unset, .unset, .unset, .unset, .unset, .unset, .unset, .unset] [(.int (p3 &&& (4 : Int32)))]))
    by_cases c1 : (p3 &&& (4 : Int32)) = (0 : Int32)
    · refine own_Go.st (fun _ kt => XS.ifYes X54.here hx rfl (pc0 := 63) (pc' := 70) rfl (hb hby at_63) rfl ((if0 _ _).trans (teq c1).1) (by decide) (by decide) kt) ?_
      show own_Go p e below _ (T54.setTop (mkF m 70 #[.val (.long p0), .second, .val (.long p1), .second, .val (.long p2), .second, .val (.int p3), .val (.long x0), .second, .val (.long y1), .second, .val (.long y2), .second, .unset, .unset, .unset, .unset, .unset, .unset, .unset, .unset, .unset] []))
      refine own_Go.st (fun _ kt => XS.iconst X54.here hx rfl (hb hby at_70) kt) ?_
      show own_Go p e below _ (T54.setTop (mkF m 71 #[.val (.long p0), .second, .val (.long p1), .second, .val (.long p2), .second, .val (.int p3), .val (.long x0), .second, .val (.long y1), .second, .val (.long y2), .second, .unset, .unset, .unset, .unset, .unset, .unset, .unset, .unset, .unset] [(.int (0 : Int32))]))
      refine own_Go.st (fun _ kt => XS.istore X54.here hx rfl (hb hby at_71) rfl (l' := #[.val (.long p0), .second, .val (.long p1), .second, .val (.long p2), .second, .val (.int p3), .val (.long x0), .second, .val (.long y1), .second, .val (.long y2), .second, .val (.int (0 : Int32)), .unset, .unset, .unset, .unset, .unset, .unset, .unset, .unset]) rfl kt) ?_
      show own_Go p e below _ (T54.setTop (mkF m 73 #[.val (.long p0), .second, .val (.long p1), .second, .val (.long p2), .second, .val (.int p3), .val (.long x0), .second, .val (.long y1), .second, .val (.long y2), .second, .val (.int (0 : Int32)), .unset, .unset, .unset, .unset, .unset, .unset, .unset, .unset] []))
      exact J73 _ _ X54 e54 N54 _ hy1 _ hy2 _ (Or.inl rfl)
    · refine own_Go.st (fun _ kt => XS.ifNo X54.here hx rfl (hb hby at_63) rfl ((if0 _ _).trans (feq c1).1) kt) ?_
      show own_Go p e below _ (T54.setTop (mkF m 66 #[.val (.long p0), .second, .val (.long p1), .second, .val (.long p2), .second, .val (.int p3), .val (.long x0), .second, .val (.long y1), .second, .val (.long y2), .second, .unset, .unset, .unset, .unset, .unset, .unset, .unset, .unset, .unset] []))
      refine own_Go.st (fun _ kt => XS.iconst X54.here hx rfl (hb hby at_66) kt) ?_
      show own_Go p e below _ (T54.setTop (mkF m 67 #[.val (.long p0), .second, .val (.long p1), .second, .val (.long p2), .second, .val (.int p3), .val (.long x0), .second, .val (.long y1), .second, .val (.long y2), .second, .unset, .unset, .unset, .unset, .unset, .unset, .unset, .unset, .unset] [(.int (1 : Int32))]))
      refine own_Go.st (fun _ kt => XS.goto X54.here hx rfl (pc0 := 67) (pc' := 71) rfl (hb hby at_67) (by decide) (by decide) kt) ?_
      show own_Go p e below _ (T54.setTop (mkF m 71 #[.val (.long p0), .second, .val (.long p1), .second, .val (.long p2), .second, .val (.int p3), .val (.long x0), .second, .val (.long y1), .second, .val (.long y2), .second, .unset, .unset, .unset, .unset, .unset, .unset, .unset, .unset, .unset] [(.int (1 : Int32))]))
      refine own_Go.st (fun _ kt => XS.istore X54.here hx rfl (hb hby at_71) rfl (l' := #[.val (.long p0), .second, .val (.long p1), .second, .val (.long p2), .second, .val (.int p3), .val (.long x0), .second, .val (.long y1), .second, .val (.long y2), .second, .val (.int (1 : Int32)), .unset, .unset, .unset, .unset, .unset, .unset, .unset, .unset]) rfl kt) ?_
      show own_Go p e below _ (T54.setTop (mkF m 73 #[.val (.long p0), .second, .val (.long p1), .second, .val (.long p2), .second, .val (.int p3), .val (.long x0), .second, .val (.long y1), .second, .val (.long y2), .second, .val (.int (1 : Int32)), .unset, .unset, .unset, .unset, .unset, .unset, .unset, .unset] []))
      exact J73 _ _ X54 e54 N54 _ hy1 _ hy2 _ (Or.inr rfl)
  have J33 : ∀ (T55 : State) (lc55 : List Loc) (X55 : Stand p l e room_1 s m #[(.long p0), (.long p1), (.long p2), (.int p3)] below meth c T55 lc55 0 0) (e55 : T55.heap = h0) (N55 : Fr n0 lc55) (y1 : Int64) (hy1 : y1 ≠ -1), own_Go p e below (fun o U' => ∃ v L, o = .returned v ∧ own_Q_own_law Z p0 p1 p2 p3 rc h0 n0 v U'.heap L ∧ FrameEnd s o U' L room_1.cells room_1.slots) (T55.setTop (mkF m 33 #[.val (.long p0), .second, .val (.long p1), .second, .val (.long p2), .second, .val (.int p3), .val (.long x0), .second, .val (.long y1), .second, .val (.long x2), .second, .unset, .unset, .unset, .unset, .unset, .unset, .unset, .unset, .unset] [])) := by
    intro T55 lc55 X55 e55 N55 y1 hy1
    show own_Go p e below _ (T55.setTop (mkF m 33 #[.val (.long p0), .second, .val (.long p1), .second, .val (.long p2), .second, .val (.int p3), .val (.long x0), .second, .val (.long y1), .second, .val (.long x2), .second, .unset, .unset, .unset, .unset, .unset, .unset, .unset, .unset, .unset] []))
    refine own_Go.st (fun _ kt => XS.iload X55.here hx rfl (hb hby at_33) rfl kt) ?_
    show own_Go p e below _ (T55.setTop (mkF m 35 #[.val (.long p0), .second, .val (.long p1), .second, .val (.long p2), .second, .val (.int p3), .val (.long x0), .second, .val (.long y1), .second, .val (.long x2), .second, .unset, .unset, .unset, .unset, .unset, .unset, .unset, .unset, .unset] [(.int p3)]))
    refine own_Go.st (fun _ kt => XS.iconst X55.here hx rfl (hb hby at_35) kt) ?_
    show own_Go p e below _ (T55.setTop (mkF m 36 #[.val (.long p0), .second, .val (.long p1), .second, .val (.long p2), .second, .val (.int p3), .val (.long x0), .second, .val (.long y1), .second, .val (.long x2), .second, .unset, .unset, .unset, .unset, .unset, .unset, .unset, .unset, .unset] [(.int (2 : Int32)), (.int p3)]))
    refine own_Go.st (fun _ kt => XS.iand X55.here hx rfl (hb hby at_36) rfl kt) ?_
    show own_Go p e below _ (T55.setTop (mkF m 37 #[.val (.long p0), .second, .val (.long p1), .second, .val (.long p2), .second, .val (.int p3), .val (.long x0), .second, .val (.long y1), .second, .val (.long x2), .second, .unset, .unset, .unset, .unset, .unset, .unset, .unset, .unset, .unset] [(.int (p3 &&& (2 : Int32)))]))
    by_cases c1 : (p3 &&& (2 : Int32)) = (0 : Int32)
    · refine own_Go.st (fun _ kt => XS.ifYes X55.here hx rfl (pc0 := 37) (pc' := 47) rfl (hb hby at_37) rfl ((if0 _ _).trans (teq c1).1) (by decide) (by decide) kt) ?_
      show own_Go p e below _ (T55.setTop (mkF m 47 #[.val (.long p0), .second, .val (.long p1), .second, .val (.long p2), .second, .val (.int p3), .val (.long x0), .second, .val (.long y1), .second, .val (.long x2), .second, .unset, .unset, .unset, .unset, .unset, .unset, .unset, .unset, .unset] []))
      refine own_Go.st (fun _ kt => XS.iload X55.here hx rfl (hb hby at_47) rfl kt) ?_
      show own_Go p e below _ (T55.setTop (mkF m 49 #[.val (.long p0), .second, .val (.long p1), .second, .val (.long p2), .second, .val (.int p3), .val (.long x0), .second, .val (.long y1), .second, .val (.long x2), .second, .unset, .unset, .unset, .unset, .unset, .unset, .unset, .unset, .unset] [(.int p3)]))
      refine own_Go.st (fun _ kt => XS.bipush X55.here hx rfl (hb hby at_49) kt) ?_
      show own_Go p e below _ (T55.setTop (mkF m 51 #[.val (.long p0), .second, .val (.long p1), .second, .val (.long p2), .second, .val (.int p3), .val (.long x0), .second, .val (.long y1), .second, .val (.long x2), .second, .unset, .unset, .unset, .unset, .unset, .unset, .unset, .unset, .unset] [(.int (16 : Int32)), (.int p3)]))
      refine own_Go.st (fun _ kt => XS.iand X55.here hx rfl (hb hby at_51) rfl kt) ?_
      show own_Go p e below _ (T55.setTop (mkF m 52 #[.val (.long p0), .second, .val (.long p1), .second, .val (.long p2), .second, .val (.int p3), .val (.long x0), .second, .val (.long y1), .second, .val (.long x2), .second, .unset, .unset, .unset, .unset, .unset, .unset, .unset, .unset, .unset] [(.int (p3 &&& (16 : Int32)))]))
      by_cases c2 : (p3 &&& (16 : Int32)) = (0 : Int32)
      · refine own_Go.st (fun _ kt => XS.ifYes X55.here hx rfl (pc0 := 52) (pc' := 59) rfl (hb hby at_52) rfl ((if0 _ _).trans (teq c2).1) (by decide) (by decide) kt) ?_
        show own_Go p e below _ (T55.setTop (mkF m 59 #[.val (.long p0), .second, .val (.long p1), .second, .val (.long p2), .second, .val (.int p3), .val (.long x0), .second, .val (.long y1), .second, .val (.long x2), .second, .unset, .unset, .unset, .unset, .unset, .unset, .unset, .unset, .unset] []))
        exact J59 _ _ X55 e55 N55 _ hy1 _ hx2
      · refine own_Go.st (fun _ kt => XS.ifNo X55.here hx rfl (hb hby at_52) rfl ((if0 _ _).trans (feq c2).1) kt) ?_
        show own_Go p e below _ (T55.setTop (mkF m 55 #[.val (.long p0), .second, .val (.long p1), .second, .val (.long p2), .second, .val (.int p3), .val (.long x0), .second, .val (.long y1), .second, .val (.long x2), .second, .unset, .unset, .unset, .unset, .unset, .unset, .unset, .unset, .unset] []))
        refine own_Go.st (fun _ kt => XS.lload X55.here hx rfl (hb hby at_55) rfl kt) ?_
        show own_Go p e below _ (T55.setTop (mkF m 57 #[.val (.long p0), .second, .val (.long p1), .second, .val (.long p2), .second, .val (.int p3), .val (.long x0), .second, .val (.long y1), .second, .val (.long x2), .second, .unset, .unset, .unset, .unset, .unset, .unset, .unset, .unset, .unset] [(.long x0)]))
        refine own_Go.st (fun _ kt => XS.lstore X55.here hx rfl (hb hby at_57) rfl (l' := #[.val (.long p0), .second, .val (.long p1), .second, .val (.long p2), .second, .val (.int p3), .val (.long x0), .second, .val (.long y1), .second, .val (.long x0), .second, .unset, .unset, .unset, .unset, .unset, .unset, .unset, .unset, .unset]) rfl kt) ?_
        show own_Go p e below _ (T55.setTop (mkF m 59 #[.val (.long p0), .second, .val (.long p1), .second, .val (.long p2), .second, .val (.int p3), .val (.long x0), .second, .val (.long y1), .second, .val (.long x0), .second, .unset, .unset, .unset, .unset, .unset, .unset, .unset, .unset, .unset] []))
        exact J59 _ _ X55 e55 N55 _ hy1 _ hx0
    · refine own_Go.st (fun _ kt => XS.ifNo X55.here hx rfl (hb hby at_37) rfl ((if0 _ _).trans (feq c1).1) kt) ?_
      show own_Go p e below _ (T55.setTop (mkF m 40 #[.val (.long p0), .second, .val (.long p1), .second, .val (.long p2), .second, .val (.int p3), .val (.long x0), .second, .val (.long y1), .second, .val (.long x2), .second, .unset, .unset, .unset, .unset, .unset, .unset, .unset, .unset, .unset] []))
      refine own_Go.st (fun _ kt => XS.lload X55.here hx rfl (hb hby at_40) rfl kt) ?_
      show own_Go p e below _ (T55.setTop (mkF m 42 #[.val (.long p0), .second, .val (.long p1), .second, .val (.long p2), .second, .val (.int p3), .val (.long x0), .second, .val (.long y1), .second, .val (.long x2), .second, .unset, .unset, .unset, .unset, .unset, .unset, .unset, .unset, .unset] [(.long y1)]))
      refine own_Go.st (fun _ kt => XS.lstore X55.here hx rfl (hb hby at_42) rfl (l' := #[.val (.long p0), .second, .val (.long p1), .second, .val (.long p2), .second, .val (.int p3), .val (.long x0), .second, .val (.long y1), .second, .val (.long y1), .second, .unset, .unset, .unset, .unset, .unset, .unset, .unset, .unset, .unset]) rfl kt) ?_
      show own_Go p e below _ (T55.setTop (mkF m 44 #[.val (.long p0), .second, .val (.long p1), .second, .val (.long p2), .second, .val (.int p3), .val (.long x0), .second, .val (.long y1), .second, .val (.long y1), .second, .unset, .unset, .unset, .unset, .unset, .unset, .unset, .unset, .unset] []))
      refine own_Go.st (fun _ kt => XS.goto X55.here hx rfl (pc0 := 44) (pc' := 59) rfl (hb hby at_44) (by decide) (by decide) kt) ?_
      show own_Go p e below _ (T55.setTop (mkF m 59 #[.val (.long p0), .second, .val (.long p1), .second, .val (.long p2), .second, .val (.int p3), .val (.long x0), .second, .val (.long y1), .second, .val (.long y1), .second, .unset, .unset, .unset, .unset, .unset, .unset, .unset, .unset, .unset] []))
      exact J59 _ _ X55 e55 N55 _ hy1 _ hy1
  by_cases c1 : (p3 &&& (1 : Int32)) = (0 : Int32)
  · refine own_Go.st (fun _ kt => XS.ifYes X0.here hx rfl (pc0 := 26) (pc' := 33) rfl (hb hby at_26) rfl ((if0 _ _).trans (teq c1).1) (by decide) (by decide) kt) ?_
    show own_Go p e below _ (s₁.setTop (mkF m 33 #[.val (.long p0), .second, .val (.long p1), .second, .val (.long p2), .second, .val (.int p3), .val (.long x0), .second, .val (.long x1), .second, .val (.long x2), .second, .unset, .unset, .unset, .unset, .unset, .unset, .unset, .unset, .unset] []))
    exact J33 _ _ X0 e0 N0 _ hx1
  · refine own_Go.st (fun _ kt => XS.ifNo X0.here hx rfl (hb hby at_26) rfl ((if0 _ _).trans (feq c1).1) kt) ?_
    show own_Go p e below _ (s₁.setTop (mkF m 29 #[.val (.long p0), .second, .val (.long p1), .second, .val (.long p2), .second, .val (.int p3), .val (.long x0), .second, .val (.long x1), .second, .val (.long x2), .second, .unset, .unset, .unset, .unset, .unset, .unset, .unset, .unset, .unset] []))
    refine own_Go.st (fun _ kt => XS.lload X0.here hx rfl (hb hby at_29) rfl kt) ?_
    show own_Go p e below _ (s₁.setTop (mkF m 31 #[.val (.long p0), .second, .val (.long p1), .second, .val (.long p2), .second, .val (.int p3), .val (.long x0), .second, .val (.long x1), .second, .val (.long x2), .second, .unset, .unset, .unset, .unset, .unset, .unset, .unset, .unset, .unset] [(.long x0)]))
    refine own_Go.st (fun _ kt => XS.lstore X0.here hx rfl (hb hby at_31) rfl (l' := #[.val (.long p0), .second, .val (.long p1), .second, .val (.long p2), .second, .val (.int p3), .val (.long x0), .second, .val (.long x0), .second, .val (.long x2), .second, .unset, .unset, .unset, .unset, .unset, .unset, .unset, .unset, .unset]) rfl kt) ?_
    show own_Go p e below _ (s₁.setTop (mkF m 33 #[.val (.long p0), .second, .val (.long p1), .second, .val (.long p2), .second, .val (.int p3), .val (.long x0), .second, .val (.long x0), .second, .val (.long x2), .second, .unset, .unset, .unset, .unset, .unset, .unset, .unset, .unset, .unset] []))
    exact J33 _ _ X0 e0 N0 _ hx0
set_option maxRecDepth 65536 in
set_option maxHeartbeats 40000000 in
theorem own_comes_1 {Post : Tables → Env → Array Value → State → Outcome → State → Prop} (hpost : ∀ tb e args s v u, (limb_1_1.after args s (.returned v) u = true ∧ limb_1_2.after args s (.returned v) u = true ∧ True) → FrameEnd s (.returned v) u (Jvm.fieldLocs frame_1_writes args s ++ Jvm.arrayLocs frame_1_arrays args s ++ Jvm.staticLocs frame_1_statics s) 16 192 → Post tb e args s (.returned v) u) :
    ArmFor flags0 classFile x code maxLocals ret World_1 tables_1 room_1 Calls_1 rest_1 Pre_1 Post := by
  intro l hfl _ _ p e ha hc hk s m args below hf hA hF happ hP
  obtain ⟨hcalls, hrest, hpre⟩ := hP
  obtain ⟨-, -, -, hnamed, -, -, -, hat⟩ := (Spec.applies_iff hf).mp happ
  obtain ⟨hg, hn⟩ := and_e (Cond.before_iff.mp (show (Jvm.Cond.and given_1 narrow_1).before args s = true from hpre))
  obtain ⟨hg0, hg1⟩ := and_e hg
  obtain ⟨ha0, hb0⟩ := and_e hg1
  obtain ⟨ha1, hb1⟩ := and_e hb0
  obtain ⟨ha2, hb2⟩ := and_e hb1
  obtain ⟨w0, w1, w2, w3, rfl⟩ : ∃ w0 w1 w2 w3 : Value, args = #[w0, w1, w2, w3] := by
    have hs : args.size = 4 := by simpa [Cond.value, given_1] using hg0
    obtain ⟨L⟩ := args
    match L, hs with
    | [w0, w1, w2, w3], _ => exact ⟨w0, w1, w2, w3, rfl⟩
  have hw := fun d (hd : d ∈ tables_1) => atoms_spec (ws := Jvm.Cond.code x code maxLocals ret :: tables_1) hat d (List.mem_cons_of_mem _ hd)
  have hfit : Fit s := fun {y c} hc i hi => by
    obtain ⟨ha, rfl⟩ := Array.getElem?_eq_some_iff.mp hc
    have q := List.all_eq_true.mp ((Array.all_eq_true_iff_forall_mem.mp hF) _ (Array.getElem_mem ha)) i (List.mem_range.mpr hi)
    simpa [Array.getElem?_eq_getElem hi] using q
  obtain ⟨p0, ep0⟩ := isL_v ha0
  obtain rfl : w0 = (.long p0) := Option.some.inj ep0
  obtain ⟨p1, ep1⟩ := isL_v ha1
  obtain rfl : w1 = (.long p1) := Option.some.inj ep1
  obtain ⟨p2, ep2⟩ := isL_v ha2
  obtain rfl : w2 = (.long p2) := Option.some.inj ep2
  obtain ⟨p3, ep3⟩ := is_v hb2
  obtain rfl : w3 = (.int p3) := Option.some.inj ep3
  obtain ⟨hsets, hown0⟩ := atoms_of _ (rest_1_c_eq ▸ (show rest_1_c.before _ s = true from hrest))
  have v_h := eqv_i (Term.int_eval (127)) (Cond.before_iff.mp (hsets _ (List.mem_of_getElem? (i := 3) rfl)))
  have s1 := Sta.start v_h (Or.inl (hsets _ (List.mem_of_getElem? (i := 1) rfl)))
  obtain ⟨rc, v_c⟩ := arr_v (Cond.before_iff.mp (hsets _ (List.mem_of_getElem? (i := 4) rfl)))
  have s2 := Sta.start v_c (Or.inr ⟨(hw _ (List.mem_of_getElem? (i := 34) rfl)), (hsets _ (List.mem_of_getElem? (i := 2) rfl))⟩)
  have ic := own_Ic.start (F := .int 0) (t := (Term.static "java/lang/Integer$IntegerCache" "cache" "[Ljava/lang/Integer;")) (fun idx => v_c) (Cond.before_iff.mp (hsets _ (List.mem_of_getElem? (i := 4) rfl))) (Cond.before_iff.mp (hsets _ (List.mem_of_getElem? (i := 6) rfl))) (Cond.before_iff.mp (hsets _ (List.mem_of_getElem? (i := 7) rfl)))
  obtain ⟨n, o, h1, h2, h3, _, L, rfl, ⟨rfl, N⟩, hq⟩ := own_law l s _ hw tables_1 p0 p1 p2 p3 rc s.heap s.heap.size (Nat.le_refl _) s1 s2 ic p e ha hc hk s m _ below hf ((Spec.applies_iff_loose hf).mp happ).1 ⟨rfl, State.Warmed39.refl s, rfl⟩ trivial
  refine ⟨n, _, h1, h2, h3, hpost _ _ _ _ _ _ ⟨Cond.after_iff.mpr rfl, Cond.after_iff.mpr (eq_i res_at (Term.int_eval (1)) rfl), trivial⟩ ⟨hq.1, hq.2.1, (hq.2.2.sift fun y hy => Or.inr (N y hy)).mono (by decide) (by decide)⟩⟩
theorem main_1_1 : Claimed_1_1 := own_comes_1 fun _ _ _ _ _ _ h hF => ⟨h.1, hF⟩
theorem main_1_2 : Claimed_1_2 := own_comes_1 fun _ _ _ _ _ _ h hF => ⟨h.2.1, hF⟩

end Jvm.Pilot.@@N@@
namespace Jvm.Pilot.@@N@@
open Jvm Jvm.ClassFile Sem Op Lib Jvm.Free Jvm.Stand Jvm.Pilot.@@N@@.Jvm.D
/-! MADE BY PROGRAM (witnessworld.py) out of the Statement's table words and the real class files: 21 classes; the members and pool entries that the words name. The judged class is class 1, her method 1. -/
namespace start1
open Jvm.ClassFile
def u (s : String) : CpInfo := .utf8 (stringToUtf16 s)
/-- a pool by its gaps: so many unusable entries, then the entry; so many at the end -/
def gap : Nat → List CpInfo → List CpInfo
  | 0, r => r
  | n + 1, r => .unusable :: gap n r
def poolList (es : List (Nat × CpInfo)) (last : Nat) : List CpInfo := es.foldr (fun e r => gap e.1 (e.2 :: r)) (gap last [])
def pool (es : List (Nat × CpInfo)) (last : Nat) : Array CpInfo := ⟨poolList es last⟩
def fileOf (pool : Array CpInfo) (this : Nat) (attrs : Array Attribute := #[]) (ms : Array MethodInfo := #[]) (fl : Nat := 33) (sup : Nat := 0) (ifs : Array Nat := #[]) (fds : Array FieldInfo := #[]) : ClassFile where
  minorVersion := 0
  majorVersion := 65
  constantPool := pool
  accessFlags := fl
  thisClass := this
  superClass := sup
  interfaces := ifs
  fields := fds
  methods := ms
  attributes := attrs
def plain (name : String) (sup : Option ClassId) : Class where
  name := name
  kind := .ordinary
  loader := none
  accessFlags := 33
  super := sup
  interfaces := #[]
  cf := none
  fields := #[]
  methods := #[]
  instanceTypes := #[]
  staticTypes := #[]
  resolved := #[]
  callSites := []
  init := .initialized
  statics := none
  mirror := none

def pool0 : Array CpInfo := pool [(5, u "<init>"), (0, u "()V"), (1, .class_ 10), (1, u "java/lang/Object")] 113

def k0c0 : Code := { maxStack := 0, maxLocals := 1, code := object_method_1_code, exceptionTable := #[], attributes := #[] }
def k0m0 : Method := { name := "<init>", desc := "()V", sig := { parameters := [], returnType := none }, accessFlags := 1, code := some k0c0 }
/-- java/lang/Object -/
def k0 : Class := { plain "java/lang/Object" none with
  accessFlags := 33
  interfaces := #[]
  cf := some (fileOf pool0 8 #[] #[{ accessFlags := 1, nameIndex := 5, descriptorIndex := 6, attributes := #[] }] 33 0 #[] #[])
  fields := #[]
  methods := #[k0m0]
  instanceTypes := #[]
  staticTypes := #[]
  resolved := Array.replicate 124 none
  statics := none }

def pool1 : Array CpInfo := pool [(2, .class_ 4), (0, .nameAndType 5 6), (0, u "java/lang/Object"), (0, u "<init>"), (0, u "()V"), (2, .long 9223372036854775807), (1, .class_ 12), (0, u "com/example/thicket/thicket/PageMap"), (0, .methodref 11 3), (0, .methodref 15 16), (0, .class_ 17), (0, .nameAndType 18 19), (0, u "java/lang/Integer"), (0, u "valueOf"), (0, u "(I)Ljava/lang/Integer;"), (0, .methodref 11 21), (0, .nameAndType 22 23), (0, u "put"), (0, u "(JLjava/lang/Object;)Ljava/lang/Object;"), (0, .methodref 11 25), (0, .nameAndType 26 27), (0, u "remove"), (0, u "(J)Ljava/lang/Object;"), (0, .methodref 11 29), (0, .nameAndType 30 31), (0, u "pages"), (0, u "()[J"), (0, .methodref 33 34), (0, .class_ 35), (0, .nameAndType 36 37), (0, u "com/example/thicket/thicket/PageMapPagesPinLaw"), (0, u "has"), (0, u "([JJ)Z"), (2, u "law"), (0, u "(JJJI)Z")] 5

def k1m0 : Method := { name := "<init>", desc := "()V", sig := { parameters := [], returnType := none }, accessFlags := 1, code := none }
def k1c1 : Code := { maxStack := 4, maxLocals := 22, code := code, exceptionTable := #[], attributes := #[] }
def k1m1 : Method := { name := "law", desc := "(JJJI)Z", sig := { parameters := [.long, .long, .long, .int], returnType := some .boolean }, accessFlags := 9, code := some k1c1 }
def k1c2 : Code := { maxStack := 4, maxLocals := 3, code := method_3_code, exceptionTable := #[], attributes := #[] }
def k1m2 : Method := { name := "has", desc := "([JJ)Z", sig := { parameters := [(.array .long), .long], returnType := some .boolean }, accessFlags := 10, code := some k1c2 }
/-- com/example/thicket/thicket/PageMapPagesPinLaw -/
def k1 : Class := { plain "com/example/thicket/thicket/PageMapPagesPinLaw" (some 0) with
  accessFlags := 49
  interfaces := #[]
  cf := some (fileOf pool1 33 #[] #[{ accessFlags := 1, nameIndex := 5, descriptorIndex := 6, attributes := #[] }, { accessFlags := 9, nameIndex := 40, descriptorIndex := 41, attributes := #[] }, { accessFlags := 10, nameIndex := 36, descriptorIndex := 37, attributes := #[] }] 49 2 #[] #[])
  fields := #[]
  methods := #[k1m0, k1m1, k1m2]
  instanceTypes := #[]
  staticTypes := #[]
  resolved := Array.replicate 47 none
  statics := none }

def pool2 : Array CpInfo := pool [(1, .methodref 2 3), (0, .class_ 4), (0, .nameAndType 5 6), (0, u "java/lang/Object"), (0, u "<init>"), (0, u "()V"), (0, .methodref 8 9), (0, .class_ 10), (0, .nameAndType 11 6), (0, u "com/example/thicket/thicket/PageMap"), (0, u "clear"), (0, .fieldref 8 13), (0, .nameAndType 14 15), (0, u "size"), (0, u "I"), (0, .methodref 8 17), (0, .nameAndType 18 19), (0, u "find"), (0, u "(J)I"), (0, .fieldref 8 21), (0, .nameAndType 22 23), (0, u "pages"), (0, u "[J"), (0, .methodref 8 25), (0, .nameAndType 26 27), (0, u "value"), (0, u "(I)Ljava/lang/Object;"), (0, .fieldref 8 29), (0, .nameAndType 30 31), (0, u "values"), (0, u "[Ljava/lang/Object;"), (3, .long 18446744073709551615), (1, .methodref 8 38), (0, .nameAndType 39 19), (0, u "home"), (11, .methodref 52 53), (0, .class_ 54), (0, .nameAndType 55 56), (0, u "java/util/Arrays"), (0, u "fill"), (0, u "([JJ)V"), (0, .long 11400714819323198485), (1, .methodref 60 61), (0, .class_ 62), (0, .nameAndType 63 19), (0, u "java/lang/Long"), (0, u "numberOfTrailingZeros"), (0, u "FREE"), (0, u "J"), (1, u "INITIAL_SLOTS"), (5, u "(J)Ljava/lang/Object;"), (5, u "put"), (0, u "(JLjava/lang/Object;)Ljava/lang/Object;"), (1, u "remove"), (0, u "()[J")] 8

def k2c0 : Code := { maxStack := 1, maxLocals := 1, code := prog_77_method_1_code, exceptionTable := #[], attributes := #[] }
def k2m0 : Method := { name := "<init>", desc := "()V", sig := { parameters := [], returnType := none }, accessFlags := 0, code := some k2c0 }
def k2c1 : Code := { maxStack := 4, maxLocals := 6, code := prog_77_method_5_code, exceptionTable := #[], attributes := #[] }
def k2m1 : Method := { name := "put", desc := "(JLjava/lang/Object;)Ljava/lang/Object;", sig := { parameters := [.long, (.object "java/lang/Object")], returnType := some (.object "java/lang/Object") }, accessFlags := 0, code := some k2c1 }
def k2c2 : Code := { maxStack := 4, maxLocals := 9, code := prog_77_method_6_code, exceptionTable := #[], attributes := #[] }
def k2m2 : Method := { name := "remove", desc := "(J)Ljava/lang/Object;", sig := { parameters := [.long], returnType := some (.object "java/lang/Object") }, accessFlags := 0, code := some k2c2 }
def k2c3 : Code := { maxStack := 4, maxLocals := 8, code := prog_77_method_7_code, exceptionTable := #[], attributes := #[] }
def k2m3 : Method := { name := "pages", desc := "()[J", sig := { parameters := [], returnType := some (.array .long) }, accessFlags := 0, code := some k2c3 }
def k2c4 : Code := { maxStack := 3, maxLocals := 1, code := prog_77_method_9_code, exceptionTable := #[], attributes := #[] }
def k2m4 : Method := { name := "clear", desc := "()V", sig := { parameters := [], returnType := none }, accessFlags := 0, code := some k2c4 }
def k2c5 : Code := { maxStack := 4, maxLocals := 5, code := prog_77_method_10_code, exceptionTable := #[], attributes := #[] }
def k2m5 : Method := { name := "find", desc := "(J)I", sig := { parameters := [.long], returnType := some .int }, accessFlags := 2, code := some k2c5 }
def k2c6 : Code := { maxStack := 5, maxLocals := 3, code := prog_77_method_11_code, exceptionTable := #[], attributes := #[] }
def k2m6 : Method := { name := "home", desc := "(J)I", sig := { parameters := [.long], returnType := some .int }, accessFlags := 2, code := some k2c6 }
def k2c7 : Code := { maxStack := 2, maxLocals := 2, code := prog_77_method_13_code, exceptionTable := #[], attributes := #[] }
def k2m7 : Method := { name := "value", desc := "(I)Ljava/lang/Object;", sig := { parameters := [.int], returnType := some (.object "java/lang/Object") }, accessFlags := 2, code := some k2c7 }
/-- com/example/thicket/thicket/PageMap -/
def k2 : Class := { plain "com/example/thicket/thicket/PageMap" (some 0) with
  accessFlags := 48
  interfaces := #[]
  cf := some (fileOf pool2 8 #[] #[{ accessFlags := 0, nameIndex := 5, descriptorIndex := 6, attributes := #[] }, { accessFlags := 0, nameIndex := 79, descriptorIndex := 80, attributes := #[] }, { accessFlags := 0, nameIndex := 82, descriptorIndex := 73, attributes := #[] }, { accessFlags := 0, nameIndex := 22, descriptorIndex := 83, attributes := #[] }, { accessFlags := 0, nameIndex := 11, descriptorIndex := 6, attributes := #[] }, { accessFlags := 2, nameIndex := 18, descriptorIndex := 19, attributes := #[] }, { accessFlags := 2, nameIndex := 39, descriptorIndex := 19, attributes := #[] }, { accessFlags := 2, nameIndex := 26, descriptorIndex := 27, attributes := #[] }] 48 2 #[] #[{ accessFlags := 26, nameIndex := 64, descriptorIndex := 65, attributes := #[] }, { accessFlags := 26, nameIndex := 67, descriptorIndex := 15, attributes := #[] }, { accessFlags := 2, nameIndex := 22, descriptorIndex := 23, attributes := #[] }, { accessFlags := 2, nameIndex := 30, descriptorIndex := 31, attributes := #[] }, { accessFlags := 2, nameIndex := 14, descriptorIndex := 15, attributes := #[] }])
  fields := #[{ name := "FREE", type := .long, accessFlags := 26, slot := 0, constantValue := 0 }, { name := "INITIAL_SLOTS", type := .int, accessFlags := 26, slot := 1, constantValue := 0 }, { name := "pages", type := (.array .long), accessFlags := 2, slot := 0, constantValue := 0 }, { name := "values", type := (.array (.object "java/lang/Object")), accessFlags := 2, slot := 1, constantValue := 0 }, { name := "size", type := .int, accessFlags := 2, slot := 2, constantValue := 0 }]
  methods := #[k2m0, k2m1, k2m2, k2m3, k2m4, k2m5, k2m6, k2m7]
  instanceTypes := #[(.array .long), (.array (.object "java/lang/Object")), .int]
  staticTypes := #[.long, .int]
  resolved := Array.replicate 92 none
  statics := none }

def pool3 : Array CpInfo := pool [(2, .class_ 4), (1, u "java/lang/Object"), (0, u "<init>"), (0, u "()V"), (7, .class_ 16), (1, u "java/util/Arrays"), (57, .class_ 76), (1, u "java/util/Arrays$NaturalOrder"), (36, .class_ 115), (1, u "java/util/Arrays$LegacyMergeSort"), (1, u "Z"), (257, .class_ 376), (0, u "java/util/Arrays$ArrayList"), (68, u "$assertionsDisabled"), (269, u "MIN_ARRAY_SORT_GRAN"), (0, u "I"), (2, u "INSERTIONSORT_THRESHOLD"), (120, u "fill"), (0, u "([JJ)V"), (133, .class_ 976), (0, u "java/util/Arrays$ArrayItr")] 52

def k3m0 : Method := { name := "<init>", desc := "()V", sig := { parameters := [], returnType := none }, accessFlags := 2, code := none }
def k3c1 : Code := { maxStack := 4, maxLocals := 5, code := jdk_65_method_101_code, exceptionTable := #[], attributes := #[] }
def k3m1 : Method := { name := "fill", desc := "([JJ)V", sig := { parameters := [(.array .long), .long], returnType := none }, accessFlags := 9, code := some k3c1 }
/-- java/util/Arrays -/
def k3 : Class := { plain "java/util/Arrays" (some 0) with
  accessFlags := 49
  interfaces := #[]
  cf := some (fileOf pool3 14 #[.nestMembers #[975, 375, 113, 74]] #[{ accessFlags := 2, nameIndex := 5, descriptorIndex := 6, attributes := #[] }, { accessFlags := 9, nameIndex := 840, descriptorIndex := 841, attributes := #[] }] 49 2 #[] #[{ accessFlags := 26, nameIndex := 715, descriptorIndex := 716, attributes := #[] }, { accessFlags := 26, nameIndex := 719, descriptorIndex := 716, attributes := #[] }, { accessFlags := 4120, nameIndex := 445, descriptorIndex := 117, attributes := #[] }])
  fields := #[{ name := "MIN_ARRAY_SORT_GRAN", type := .int, accessFlags := 26, slot := 0, constantValue := 0 }, { name := "INSERTIONSORT_THRESHOLD", type := .int, accessFlags := 26, slot := 1, constantValue := 0 }, { name := "$assertionsDisabled", type := .boolean, accessFlags := 4120, slot := 2, constantValue := 0 }]
  methods := #[k3m0, k3m1]
  instanceTypes := #[]
  staticTypes := #[.int, .int, .boolean]
  resolved := Array.replicate 1029 none
  statics := none }

def pool4 : Array CpInfo := pool [(1, .class_ 2), (0, u "java/io/Serializable"), (0, .class_ 4), (0, u "java/lang/Object")] 2

/-- java/io/Serializable -/
def k4 : Class := { plain "java/io/Serializable" (some 0) with
  accessFlags := 1537
  interfaces := #[]
  cf := some (fileOf pool4 1 #[] #[] 1537 3 #[] #[])
  fields := #[]
  methods := #[]
  instanceTypes := #[]
  staticTypes := #[]
  resolved := Array.replicate 7 none
  statics := none }

def pool5 : Array CpInfo := pool [(2, .class_ 4), (1, u "java/lang/Object"), (0, u "<init>"), (0, u "()V"), (1, .class_ 10), (1, u "java/lang/Number"), (2, .class_ 14), (0, u "java/io/Serializable"), (0, u "serialVersionUID"), (0, u "J")] 20

def k5m0 : Method := { name := "<init>", desc := "()V", sig := { parameters := [], returnType := none }, accessFlags := 1, code := none }
/-- java/lang/Number -/
def k5 : Class := { plain "java/lang/Number" (some 0) with
  accessFlags := 1057
  interfaces := #[4]
  cf := some (fileOf pool5 8 #[] #[{ accessFlags := 1, nameIndex := 5, descriptorIndex := 6, attributes := #[] }] 1057 2 #[13] #[{ accessFlags := 26, nameIndex := 15, descriptorIndex := 16, attributes := #[] }])
  fields := #[{ name := "serialVersionUID", type := .long, accessFlags := 26, slot := 0, constantValue := 0 }]
  methods := #[k5m0]
  instanceTypes := #[]
  staticTypes := #[.long]
  resolved := Array.replicate 37 none
  statics := none }

def pool6 : Array CpInfo := pool [(1, .class_ 2), (0, u "java/lang/Comparable"), (0, .class_ 4), (0, u "java/lang/Object")] 7

/-- java/lang/Comparable -/
def k6 : Class := { plain "java/lang/Comparable" (some 0) with
  accessFlags := 1537
  interfaces := #[]
  cf := some (fileOf pool6 1 #[] #[] 1537 3 #[] #[])
  fields := #[]
  methods := #[]
  instanceTypes := #[]
  staticTypes := #[]
  resolved := Array.replicate 12 none
  statics := none }

def pool7 : Array CpInfo := pool [(1, .class_ 2), (0, u "java/lang/constant/Constable"), (0, .class_ 4), (0, u "java/lang/Object")] 6

/-- java/lang/constant/Constable -/
def k7 : Class := { plain "java/lang/constant/Constable" (some 0) with
  accessFlags := 1537
  interfaces := #[]
  cf := some (fileOf pool7 1 #[] #[] 1537 3 #[] #[])
  fields := #[]
  methods := #[]
  instanceTypes := #[]
  staticTypes := #[]
  resolved := Array.replicate 11 none
  statics := none }

def pool8 : Array CpInfo := pool [(1, .class_ 2), (0, u "java/lang/constant/ConstantDesc"), (0, .class_ 4), (0, u "java/lang/Object")] 32

/-- java/lang/constant/ConstantDesc -/
def k8 : Class := { plain "java/lang/constant/ConstantDesc" (some 0) with
  accessFlags := 1537
  interfaces := #[]
  cf := some (fileOf pool8 1 #[] #[] 1537 3 #[] #[])
  fields := #[]
  methods := #[]
  instanceTypes := #[]
  staticTypes := #[]
  resolved := Array.replicate 37 none
  statics := none }

def pool9 : Array CpInfo := pool [(1, .class_ 2), (0, u "java/lang/Integer"), (16, u "digits"), (0, u "[C"), (33, u "(I)I"), (30, u "DigitOnes"), (0, u "[B"), (2, u "DigitTens"), (97, u "valueOf"), (0, u "(I)Ljava/lang/Integer;"), (0, .class_ 190), (0, u "java/lang/Integer$IntegerCache"), (0, .fieldref 189 192), (0, .nameAndType 193 194), (0, u "high"), (0, u "I"), (0, .fieldref 189 196), (0, .nameAndType 197 198), (0, u "cache"), (0, u "[Ljava/lang/Integer;"), (4, .class_ 204), (0, u "java/lang/Number"), (2, u "value"), (56, .integer 65536), (37, u "TYPE"), (0, u "Ljava/lang/Class;"), (0, .class_ 305), (0, u "java/lang/Comparable"), (0, .class_ 307), (0, u "java/lang/constant/Constable"), (0, .class_ 309), (0, u "java/lang/constant/ConstantDesc"), (0, u "MIN_VALUE"), (1, u "MAX_VALUE"), (3, u "SIZE"), (1, u "BYTES"), (1, u "serialVersionUID"), (0, u "J"), (84, u "numberOfTrailingZeros")] 46

def k9c0 : Code := { maxStack := 3, maxLocals := 1, code := jdk_33_method_22_code, exceptionTable := #[], attributes := #[] }
def k9m0 : Method := { name := "valueOf", desc := "(I)Ljava/lang/Integer;", sig := { parameters := [.int], returnType := some (.object "java/lang/Integer") }, accessFlags := 9, code := some k9c0 }
def k9c1 : Code := { maxStack := 3, maxLocals := 2, code := jdk_33_method_48_code, exceptionTable := #[], attributes := #[] }
def k9m1 : Method := { name := "numberOfTrailingZeros", desc := "(I)I", sig := { parameters := [.int], returnType := some .int }, accessFlags := 9, code := some k9c1 }
/-- java/lang/Integer -/
def k9 : Class := { plain "java/lang/Integer" (some 5) with
  accessFlags := 49
  interfaces := #[6, 7, 8]
  cf := some (fileOf pool9 1 #[.nestMembers #[189]] #[{ accessFlags := 9, nameIndex := 187, descriptorIndex := 188, attributes := #[] }, { accessFlags := 9, nameIndex := 406, descriptorIndex := 54, attributes := #[] }] 49 203 #[304, 306, 308] #[{ accessFlags := 25, nameIndex := 310, descriptorIndex := 194, attributes := #[] }, { accessFlags := 25, nameIndex := 312, descriptorIndex := 194, attributes := #[] }, { accessFlags := 25, nameIndex := 302, descriptorIndex := 303, attributes := #[] }, { accessFlags := 24, nameIndex := 19, descriptorIndex := 20, attributes := #[] }, { accessFlags := 24, nameIndex := 89, descriptorIndex := 86, attributes := #[] }, { accessFlags := 24, nameIndex := 85, descriptorIndex := 86, attributes := #[] }, { accessFlags := 18, nameIndex := 207, descriptorIndex := 194, attributes := #[] }, { accessFlags := 25, nameIndex := 316, descriptorIndex := 194, attributes := #[] }, { accessFlags := 25, nameIndex := 318, descriptorIndex := 194, attributes := #[] }, { accessFlags := 26, nameIndex := 320, descriptorIndex := 321, attributes := #[] }])
  fields := #[{ name := "MIN_VALUE", type := .int, accessFlags := 25, slot := 0, constantValue := 0 }, { name := "MAX_VALUE", type := .int, accessFlags := 25, slot := 1, constantValue := 0 }, { name := "TYPE", type := (.object "java/lang/Class"), accessFlags := 25, slot := 2, constantValue := 0 }, { name := "digits", type := (.array .char), accessFlags := 24, slot := 3, constantValue := 0 }, { name := "DigitTens", type := (.array .byte), accessFlags := 24, slot := 4, constantValue := 0 }, { name := "DigitOnes", type := (.array .byte), accessFlags := 24, slot := 5, constantValue := 0 }, { name := "value", type := .int, accessFlags := 18, slot := 0, constantValue := 0 }, { name := "SIZE", type := .int, accessFlags := 25, slot := 6, constantValue := 0 }, { name := "BYTES", type := .int, accessFlags := 25, slot := 7, constantValue := 0 }, { name := "serialVersionUID", type := .long, accessFlags := 26, slot := 8, constantValue := 0 }]
  methods := #[k9m0, k9m1]
  instanceTypes := #[.int]
  staticTypes := #[.int, .int, (.object "java/lang/Class"), (.array .char), (.array .byte), (.array .byte), .int, .int, .long]
  resolved := Array.replicate 453 none
  statics := none }

def pool10 : Array CpInfo := pool [(2, .class_ 4), (1, u "java/lang/Object"), (0, u "<init>"), (0, u "()V"), (0, .class_ 8), (0, u "java/lang/Integer"), (7, .class_ 18), (1, u "java/lang/Integer$IntegerCache"), (0, u "$assertionsDisabled"), (0, u "Z"), (26, u "high"), (0, u "I"), (8, u "archivedCache"), (0, u "[Ljava/lang/Integer;"), (12, u "cache"), (0, u "low")] 27

def k10m0 : Method := { name := "<init>", desc := "()V", sig := { parameters := [], returnType := none }, accessFlags := 2, code := none }
/-- java/lang/Integer$IntegerCache -/
def k10 : Class := { plain "java/lang/Integer$IntegerCache" (some 0) with
  accessFlags := 48
  interfaces := #[]
  cf := some (fileOf pool10 16 #[.nestHost 7] #[{ accessFlags := 2, nameIndex := 5, descriptorIndex := 6, attributes := #[] }] 48 2 #[] #[{ accessFlags := 24, nameIndex := 72, descriptorIndex := 48, attributes := #[] }, { accessFlags := 24, nameIndex := 47, descriptorIndex := 48, attributes := #[] }, { accessFlags := 24, nameIndex := 71, descriptorIndex := 58, attributes := #[] }, { accessFlags := 8, nameIndex := 57, descriptorIndex := 58, attributes := #[] }, { accessFlags := 4120, nameIndex := 19, descriptorIndex := 20, attributes := #[] }])
  fields := #[{ name := "low", type := .int, accessFlags := 24, slot := 0, constantValue := 0 }, { name := "high", type := .int, accessFlags := 24, slot := 1, constantValue := 0 }, { name := "cache", type := (.array (.object "java/lang/Integer")), accessFlags := 24, slot := 2, constantValue := 0 }, { name := "archivedCache", type := (.array (.object "java/lang/Integer")), accessFlags := 8, slot := 3, constantValue := 0 }, { name := "$assertionsDisabled", type := .boolean, accessFlags := 4120, slot := 4, constantValue := 0 }]
  methods := #[k10m0]
  instanceTypes := #[]
  staticTypes := #[.int, .int, (.array (.object "java/lang/Integer")), (.array (.object "java/lang/Integer")), .boolean]
  resolved := Array.replicate 100 none
  statics := some 0 }

def pool11 : Array CpInfo := pool [(1, .class_ 2), (0, u "java/lang/Long"), (15, .class_ 20), (1, u "java/lang/Integer"), (80, u "(J)I"), (133, .class_ 237), (1, u "java/lang/Long$LongCache"), (33, .class_ 272), (0, u "java/lang/Number"), (2, u "value"), (0, u "J"), (33, u "(I)I"), (0, .methodref 18 312), (0, .nameAndType 313 310), (0, u "numberOfTrailingZeros"), (47, u "TYPE"), (0, u "Ljava/lang/Class;"), (0, .class_ 364), (0, u "java/lang/Comparable"), (0, .class_ 366), (0, u "java/lang/constant/Constable"), (0, .class_ 368), (0, u "java/lang/constant/ConstantDesc"), (0, u "MIN_VALUE"), (1, u "MAX_VALUE"), (4, u "SIZE"), (0, u "I"), (1, u "BYTES"), (1, u "serialVersionUID")] 142

def k11c0 : Code := { maxStack := 4, maxLocals := 3, code := jdk_35_method_49_code, exceptionTable := #[], attributes := #[] }
def k11m0 : Method := { name := "numberOfTrailingZeros", desc := "(J)I", sig := { parameters := [.long], returnType := some .int }, accessFlags := 9, code := some k11c0 }
/-- java/lang/Long -/
def k11 : Class := { plain "java/lang/Long" (some 5) with
  accessFlags := 49
  interfaces := #[6, 7, 8]
  cf := some (fileOf pool11 1 #[.nestMembers #[235]] #[{ accessFlags := 9, nameIndex := 313, descriptorIndex := 101, attributes := #[] }] 49 271 #[363, 365, 367] #[{ accessFlags := 25, nameIndex := 369, descriptorIndex := 276, attributes := #[] }, { accessFlags := 25, nameIndex := 371, descriptorIndex := 276, attributes := #[] }, { accessFlags := 25, nameIndex := 361, descriptorIndex := 362, attributes := #[] }, { accessFlags := 18, nameIndex := 275, descriptorIndex := 276, attributes := #[] }, { accessFlags := 25, nameIndex := 376, descriptorIndex := 377, attributes := #[] }, { accessFlags := 25, nameIndex := 379, descriptorIndex := 377, attributes := #[] }, { accessFlags := 26, nameIndex := 381, descriptorIndex := 276, attributes := #[] }])
  fields := #[{ name := "MIN_VALUE", type := .long, accessFlags := 25, slot := 0, constantValue := 0 }, { name := "MAX_VALUE", type := .long, accessFlags := 25, slot := 1, constantValue := 0 }, { name := "TYPE", type := (.object "java/lang/Class"), accessFlags := 25, slot := 2, constantValue := 0 }, { name := "value", type := .long, accessFlags := 18, slot := 0, constantValue := 0 }, { name := "SIZE", type := .int, accessFlags := 25, slot := 3, constantValue := 0 }, { name := "BYTES", type := .int, accessFlags := 25, slot := 4, constantValue := 0 }, { name := "serialVersionUID", type := .long, accessFlags := 26, slot := 5, constantValue := 0 }]
  methods := #[k11m0]
  instanceTypes := #[.long]
  staticTypes := #[.long, .long, (.object "java/lang/Class"), .int, .int, .long]
  resolved := Array.replicate 524 none
  statics := none }

def pool12 : Array CpInfo := pool [(1, u "java/lang/Cloneable"), (0, .class_ 1), (0, u "java/lang/Object"), (0, .class_ 3)] 3

/-- java/lang/Cloneable -/
def k12 : Class := { plain "java/lang/Cloneable" (some 0) with
  accessFlags := 1537
  interfaces := #[]
  cf := some (fileOf pool12 2 #[] #[] 1537 4 #[] #[])
  fields := #[]
  methods := #[]
  instanceTypes := #[]
  staticTypes := #[]
  resolved := Array.replicate 8 none
  statics := none }

/-- the primitive byte -/
def k13 : Class := { plain "byte" none with kind := .primitive 'B', accessFlags := 0x411 }
/-- [B -/
def k14 : Class := { plain "[B" (some 0) with kind := .array 13 .byte, interfaces := #[12, 4], accessFlags := 1041 }

/-- the primitive int -/
def k15 : Class := { plain "int" none with kind := .primitive 'I', accessFlags := 0x411 }
/-- [I -/
def k16 : Class := { plain "[I" (some 0) with kind := .array 15 .int, interfaces := #[12, 4], accessFlags := 1041 }

/-- the primitive long -/
def k17 : Class := { plain "long" none with kind := .primitive 'J', accessFlags := 0x411 }
/-- [J -/
def k18 : Class := { plain "[J" (some 0) with kind := .array 17 .long, interfaces := #[12, 4], accessFlags := 1041 }

/-- [Ljava/lang/Integer; -/
def k19 : Class := { plain "[Ljava/lang/Integer;" (some 0) with kind := .array 9 (.object "java/lang/Integer"), interfaces := #[12, 4], accessFlags := 1041 }

/-- [Ljava/lang/Object; -/
def k20 : Class := { plain "[Ljava/lang/Object;" (some 0) with kind := .array 0 (.object "java/lang/Object"), interfaces := #[12, 4], accessFlags := 1041 }

def heap : Heap := #[{ cls := 10, slots := #[.int 0, .int 127, .ref 1, .null, .int 0], vm := .statics 10 },
  { cls := 19, slots := #[.ref 2, .ref 3, .ref 4, .ref 5, .ref 6, .ref 7, .ref 8, .ref 9, .ref 10, .ref 11, .ref 12, .ref 13, .ref 14, .ref 15, .ref 16, .ref 17, .ref 18, .ref 19, .ref 20, .ref 21, .ref 22, .ref 23, .ref 24, .ref 25, .ref 26, .ref 27, .ref 28, .ref 29, .ref 30, .ref 31, .ref 32, .ref 33, .ref 34, .ref 35, .ref 36, .ref 37, .ref 38, .ref 39, .ref 40, .ref 41, .ref 42, .ref 43, .ref 44, .ref 45, .ref 46, .ref 47, .ref 48, .ref 49, .ref 50, .ref 51, .ref 52, .ref 53, .ref 54, .ref 55, .ref 56, .ref 57, .ref 58, .ref 59, .ref 60, .ref 61, .ref 62, .ref 63, .ref 64, .ref 65, .ref 66, .ref 67, .ref 68, .ref 69, .ref 70, .ref 71, .ref 72, .ref 73, .ref 74, .ref 75, .ref 76, .ref 77, .ref 78, .ref 79, .ref 80, .ref 81, .ref 82, .ref 83, .ref 84, .ref 85, .ref 86, .ref 87, .ref 88, .ref 89, .ref 90, .ref 91, .ref 92, .ref 93, .ref 94, .ref 95, .ref 96, .ref 97, .ref 98, .ref 99, .ref 100, .ref 101, .ref 102, .ref 103, .ref 104, .ref 105, .ref 106, .ref 107, .ref 108, .ref 109, .ref 110, .ref 111, .ref 112, .ref 113, .ref 114, .ref 115, .ref 116, .ref 117, .ref 118, .ref 119, .ref 120, .ref 121, .ref 122, .ref 123, .ref 124, .ref 125, .ref 126, .ref 127, .ref 128, .ref 129, .ref 130, .ref 131, .ref 132, .ref 133, .ref 134, .ref 135, .ref 136, .ref 137, .ref 138, .ref 139, .ref 140, .ref 141, .ref 142, .ref 143, .ref 144, .ref 145, .ref 146, .ref 147, .ref 148, .ref 149, .ref 150, .ref 151, .ref 152, .ref 153, .ref 154, .ref 155, .ref 156, .ref 157, .ref 158, .ref 159, .ref 160, .ref 161, .ref 162, .ref 163, .ref 164, .ref 165, .ref 166, .ref 167, .ref 168, .ref 169, .ref 170, .ref 171, .ref 172, .ref 173, .ref 174, .ref 175, .ref 176, .ref 177, .ref 178, .ref 179, .ref 180, .ref 181, .ref 182, .ref 183, .ref 184, .ref 185, .ref 186, .ref 187, .ref 188, .ref 189, .ref 190, .ref 191, .ref 192, .ref 193, .ref 194, .ref 195, .ref 196, .ref 197, .ref 198, .ref 199, .ref 200, .ref 201, .ref 202, .ref 203, .ref 204, .ref 205, .ref 206, .ref 207, .ref 208, .ref 209, .ref 210, .ref 211, .ref 212, .ref 213, .ref 214, .ref 215, .ref 216, .ref 217, .ref 218, .ref 219, .ref 220, .ref 221, .ref 222, .ref 223, .ref 224, .ref 225, .ref 226, .ref 227, .ref 228, .ref 229, .ref 230, .ref 231, .ref 232, .ref 233, .ref 234, .ref 235, .ref 236, .ref 237, .ref 238, .ref 239, .ref 240, .ref 241, .ref 242, .ref 243, .ref 244, .ref 245, .ref 246, .ref 247, .ref 248, .ref 249, .ref 250, .ref 251, .ref 252, .ref 253, .ref 254, .ref 255, .ref 256, .ref 257], vm := .none },
  { cls := 9, slots := #[.int (-128)], vm := .none },
  { cls := 9, slots := #[.int (-127)], vm := .none },
  { cls := 9, slots := #[.int (-126)], vm := .none },
  { cls := 9, slots := #[.int (-125)], vm := .none },
  { cls := 9, slots := #[.int (-124)], vm := .none },
  { cls := 9, slots := #[.int (-123)], vm := .none },
  { cls := 9, slots := #[.int (-122)], vm := .none },
  { cls := 9, slots := #[.int (-121)], vm := .none },
  { cls := 9, slots := #[.int (-120)], vm := .none },
  { cls := 9, slots := #[.int (-119)], vm := .none },
  { cls := 9, slots := #[.int (-118)], vm := .none },
  { cls := 9, slots := #[.int (-117)], vm := .none },
  { cls := 9, slots := #[.int (-116)], vm := .none },
  { cls := 9, slots := #[.int (-115)], vm := .none },
  { cls := 9, slots := #[.int (-114)], vm := .none },
  { cls := 9, slots := #[.int (-113)], vm := .none },
  { cls := 9, slots := #[.int (-112)], vm := .none },
  { cls := 9, slots := #[.int (-111)], vm := .none },
  { cls := 9, slots := #[.int (-110)], vm := .none },
  { cls := 9, slots := #[.int (-109)], vm := .none },
  { cls := 9, slots := #[.int (-108)], vm := .none },
  { cls := 9, slots := #[.int (-107)], vm := .none },
  { cls := 9, slots := #[.int (-106)], vm := .none },
  { cls := 9, slots := #[.int (-105)], vm := .none },
  { cls := 9, slots := #[.int (-104)], vm := .none },
  { cls := 9, slots := #[.int (-103)], vm := .none },
  { cls := 9, slots := #[.int (-102)], vm := .none },
  { cls := 9, slots := #[.int (-101)], vm := .none },
  { cls := 9, slots := #[.int (-100)], vm := .none },
  { cls := 9, slots := #[.int (-99)], vm := .none },
  { cls := 9, slots := #[.int (-98)], vm := .none },
  { cls := 9, slots := #[.int (-97)], vm := .none },
  { cls := 9, slots := #[.int (-96)], vm := .none },
  { cls := 9, slots := #[.int (-95)], vm := .none },
  { cls := 9, slots := #[.int (-94)], vm := .none },
  { cls := 9, slots := #[.int (-93)], vm := .none },
  { cls := 9, slots := #[.int (-92)], vm := .none },
  { cls := 9, slots := #[.int (-91)], vm := .none },
  { cls := 9, slots := #[.int (-90)], vm := .none },
  { cls := 9, slots := #[.int (-89)], vm := .none },
  { cls := 9, slots := #[.int (-88)], vm := .none },
  { cls := 9, slots := #[.int (-87)], vm := .none },
  { cls := 9, slots := #[.int (-86)], vm := .none },
  { cls := 9, slots := #[.int (-85)], vm := .none },
  { cls := 9, slots := #[.int (-84)], vm := .none },
  { cls := 9, slots := #[.int (-83)], vm := .none },
  { cls := 9, slots := #[.int (-82)], vm := .none },
  { cls := 9, slots := #[.int (-81)], vm := .none },
  { cls := 9, slots := #[.int (-80)], vm := .none },
  { cls := 9, slots := #[.int (-79)], vm := .none },
  { cls := 9, slots := #[.int (-78)], vm := .none },
  { cls := 9, slots := #[.int (-77)], vm := .none },
  { cls := 9, slots := #[.int (-76)], vm := .none },
  { cls := 9, slots := #[.int (-75)], vm := .none },
  { cls := 9, slots := #[.int (-74)], vm := .none },
  { cls := 9, slots := #[.int (-73)], vm := .none },
  { cls := 9, slots := #[.int (-72)], vm := .none },
  { cls := 9, slots := #[.int (-71)], vm := .none },
  { cls := 9, slots := #[.int (-70)], vm := .none },
  { cls := 9, slots := #[.int (-69)], vm := .none },
  { cls := 9, slots := #[.int (-68)], vm := .none },
  { cls := 9, slots := #[.int (-67)], vm := .none },
  { cls := 9, slots := #[.int (-66)], vm := .none },
  { cls := 9, slots := #[.int (-65)], vm := .none },
  { cls := 9, slots := #[.int (-64)], vm := .none },
  { cls := 9, slots := #[.int (-63)], vm := .none },
  { cls := 9, slots := #[.int (-62)], vm := .none },
  { cls := 9, slots := #[.int (-61)], vm := .none },
  { cls := 9, slots := #[.int (-60)], vm := .none },
  { cls := 9, slots := #[.int (-59)], vm := .none },
  { cls := 9, slots := #[.int (-58)], vm := .none },
  { cls := 9, slots := #[.int (-57)], vm := .none },
  { cls := 9, slots := #[.int (-56)], vm := .none },
  { cls := 9, slots := #[.int (-55)], vm := .none },
  { cls := 9, slots := #[.int (-54)], vm := .none },
  { cls := 9, slots := #[.int (-53)], vm := .none },
  { cls := 9, slots := #[.int (-52)], vm := .none },
  { cls := 9, slots := #[.int (-51)], vm := .none },
  { cls := 9, slots := #[.int (-50)], vm := .none },
  { cls := 9, slots := #[.int (-49)], vm := .none },
  { cls := 9, slots := #[.int (-48)], vm := .none },
  { cls := 9, slots := #[.int (-47)], vm := .none },
  { cls := 9, slots := #[.int (-46)], vm := .none },
  { cls := 9, slots := #[.int (-45)], vm := .none },
  { cls := 9, slots := #[.int (-44)], vm := .none },
  { cls := 9, slots := #[.int (-43)], vm := .none },
  { cls := 9, slots := #[.int (-42)], vm := .none },
  { cls := 9, slots := #[.int (-41)], vm := .none },
  { cls := 9, slots := #[.int (-40)], vm := .none },
  { cls := 9, slots := #[.int (-39)], vm := .none },
  { cls := 9, slots := #[.int (-38)], vm := .none },
  { cls := 9, slots := #[.int (-37)], vm := .none },
  { cls := 9, slots := #[.int (-36)], vm := .none },
  { cls := 9, slots := #[.int (-35)], vm := .none },
  { cls := 9, slots := #[.int (-34)], vm := .none },
  { cls := 9, slots := #[.int (-33)], vm := .none },
  { cls := 9, slots := #[.int (-32)], vm := .none },
  { cls := 9, slots := #[.int (-31)], vm := .none },
  { cls := 9, slots := #[.int (-30)], vm := .none },
  { cls := 9, slots := #[.int (-29)], vm := .none },
  { cls := 9, slots := #[.int (-28)], vm := .none },
  { cls := 9, slots := #[.int (-27)], vm := .none },
  { cls := 9, slots := #[.int (-26)], vm := .none },
  { cls := 9, slots := #[.int (-25)], vm := .none },
  { cls := 9, slots := #[.int (-24)], vm := .none },
  { cls := 9, slots := #[.int (-23)], vm := .none },
  { cls := 9, slots := #[.int (-22)], vm := .none },
  { cls := 9, slots := #[.int (-21)], vm := .none },
  { cls := 9, slots := #[.int (-20)], vm := .none },
  { cls := 9, slots := #[.int (-19)], vm := .none },
  { cls := 9, slots := #[.int (-18)], vm := .none },
  { cls := 9, slots := #[.int (-17)], vm := .none },
  { cls := 9, slots := #[.int (-16)], vm := .none },
  { cls := 9, slots := #[.int (-15)], vm := .none },
  { cls := 9, slots := #[.int (-14)], vm := .none },
  { cls := 9, slots := #[.int (-13)], vm := .none },
  { cls := 9, slots := #[.int (-12)], vm := .none },
  { cls := 9, slots := #[.int (-11)], vm := .none },
  { cls := 9, slots := #[.int (-10)], vm := .none },
  { cls := 9, slots := #[.int (-9)], vm := .none },
  { cls := 9, slots := #[.int (-8)], vm := .none },
  { cls := 9, slots := #[.int (-7)], vm := .none },
  { cls := 9, slots := #[.int (-6)], vm := .none },
  { cls := 9, slots := #[.int (-5)], vm := .none },
  { cls := 9, slots := #[.int (-4)], vm := .none },
  { cls := 9, slots := #[.int (-3)], vm := .none },
  { cls := 9, slots := #[.int (-2)], vm := .none },
  { cls := 9, slots := #[.int (-1)], vm := .none },
  { cls := 9, slots := #[.int 0], vm := .none },
  { cls := 9, slots := #[.int 1], vm := .none },
  { cls := 9, slots := #[.int 2], vm := .none },
  { cls := 9, slots := #[.int 3], vm := .none },
  { cls := 9, slots := #[.int 4], vm := .none },
  { cls := 9, slots := #[.int 5], vm := .none },
  { cls := 9, slots := #[.int 6], vm := .none },
  { cls := 9, slots := #[.int 7], vm := .none },
  { cls := 9, slots := #[.int 8], vm := .none },
  { cls := 9, slots := #[.int 9], vm := .none },
  { cls := 9, slots := #[.int 10], vm := .none },
  { cls := 9, slots := #[.int 11], vm := .none },
  { cls := 9, slots := #[.int 12], vm := .none },
  { cls := 9, slots := #[.int 13], vm := .none },
  { cls := 9, slots := #[.int 14], vm := .none },
  { cls := 9, slots := #[.int 15], vm := .none },
  { cls := 9, slots := #[.int 16], vm := .none },
  { cls := 9, slots := #[.int 17], vm := .none },
  { cls := 9, slots := #[.int 18], vm := .none },
  { cls := 9, slots := #[.int 19], vm := .none },
  { cls := 9, slots := #[.int 20], vm := .none },
  { cls := 9, slots := #[.int 21], vm := .none },
  { cls := 9, slots := #[.int 22], vm := .none },
  { cls := 9, slots := #[.int 23], vm := .none },
  { cls := 9, slots := #[.int 24], vm := .none },
  { cls := 9, slots := #[.int 25], vm := .none },
  { cls := 9, slots := #[.int 26], vm := .none },
  { cls := 9, slots := #[.int 27], vm := .none },
  { cls := 9, slots := #[.int 28], vm := .none },
  { cls := 9, slots := #[.int 29], vm := .none },
  { cls := 9, slots := #[.int 30], vm := .none },
  { cls := 9, slots := #[.int 31], vm := .none },
  { cls := 9, slots := #[.int 32], vm := .none },
  { cls := 9, slots := #[.int 33], vm := .none },
  { cls := 9, slots := #[.int 34], vm := .none },
  { cls := 9, slots := #[.int 35], vm := .none },
  { cls := 9, slots := #[.int 36], vm := .none },
  { cls := 9, slots := #[.int 37], vm := .none },
  { cls := 9, slots := #[.int 38], vm := .none },
  { cls := 9, slots := #[.int 39], vm := .none },
  { cls := 9, slots := #[.int 40], vm := .none },
  { cls := 9, slots := #[.int 41], vm := .none },
  { cls := 9, slots := #[.int 42], vm := .none },
  { cls := 9, slots := #[.int 43], vm := .none },
  { cls := 9, slots := #[.int 44], vm := .none },
  { cls := 9, slots := #[.int 45], vm := .none },
  { cls := 9, slots := #[.int 46], vm := .none },
  { cls := 9, slots := #[.int 47], vm := .none },
  { cls := 9, slots := #[.int 48], vm := .none },
  { cls := 9, slots := #[.int 49], vm := .none },
  { cls := 9, slots := #[.int 50], vm := .none },
  { cls := 9, slots := #[.int 51], vm := .none },
  { cls := 9, slots := #[.int 52], vm := .none },
  { cls := 9, slots := #[.int 53], vm := .none },
  { cls := 9, slots := #[.int 54], vm := .none },
  { cls := 9, slots := #[.int 55], vm := .none },
  { cls := 9, slots := #[.int 56], vm := .none },
  { cls := 9, slots := #[.int 57], vm := .none },
  { cls := 9, slots := #[.int 58], vm := .none },
  { cls := 9, slots := #[.int 59], vm := .none },
  { cls := 9, slots := #[.int 60], vm := .none },
  { cls := 9, slots := #[.int 61], vm := .none },
  { cls := 9, slots := #[.int 62], vm := .none },
  { cls := 9, slots := #[.int 63], vm := .none },
  { cls := 9, slots := #[.int 64], vm := .none },
  { cls := 9, slots := #[.int 65], vm := .none },
  { cls := 9, slots := #[.int 66], vm := .none },
  { cls := 9, slots := #[.int 67], vm := .none },
  { cls := 9, slots := #[.int 68], vm := .none },
  { cls := 9, slots := #[.int 69], vm := .none },
  { cls := 9, slots := #[.int 70], vm := .none },
  { cls := 9, slots := #[.int 71], vm := .none },
  { cls := 9, slots := #[.int 72], vm := .none },
  { cls := 9, slots := #[.int 73], vm := .none },
  { cls := 9, slots := #[.int 74], vm := .none },
  { cls := 9, slots := #[.int 75], vm := .none },
  { cls := 9, slots := #[.int 76], vm := .none },
  { cls := 9, slots := #[.int 77], vm := .none },
  { cls := 9, slots := #[.int 78], vm := .none },
  { cls := 9, slots := #[.int 79], vm := .none },
  { cls := 9, slots := #[.int 80], vm := .none },
  { cls := 9, slots := #[.int 81], vm := .none },
  { cls := 9, slots := #[.int 82], vm := .none },
  { cls := 9, slots := #[.int 83], vm := .none },
  { cls := 9, slots := #[.int 84], vm := .none },
  { cls := 9, slots := #[.int 85], vm := .none },
  { cls := 9, slots := #[.int 86], vm := .none },
  { cls := 9, slots := #[.int 87], vm := .none },
  { cls := 9, slots := #[.int 88], vm := .none },
  { cls := 9, slots := #[.int 89], vm := .none },
  { cls := 9, slots := #[.int 90], vm := .none },
  { cls := 9, slots := #[.int 91], vm := .none },
  { cls := 9, slots := #[.int 92], vm := .none },
  { cls := 9, slots := #[.int 93], vm := .none },
  { cls := 9, slots := #[.int 94], vm := .none },
  { cls := 9, slots := #[.int 95], vm := .none },
  { cls := 9, slots := #[.int 96], vm := .none },
  { cls := 9, slots := #[.int 97], vm := .none },
  { cls := 9, slots := #[.int 98], vm := .none },
  { cls := 9, slots := #[.int 99], vm := .none },
  { cls := 9, slots := #[.int 100], vm := .none },
  { cls := 9, slots := #[.int 101], vm := .none },
  { cls := 9, slots := #[.int 102], vm := .none },
  { cls := 9, slots := #[.int 103], vm := .none },
  { cls := 9, slots := #[.int 104], vm := .none },
  { cls := 9, slots := #[.int 105], vm := .none },
  { cls := 9, slots := #[.int 106], vm := .none },
  { cls := 9, slots := #[.int 107], vm := .none },
  { cls := 9, slots := #[.int 108], vm := .none },
  { cls := 9, slots := #[.int 109], vm := .none },
  { cls := 9, slots := #[.int 110], vm := .none },
  { cls := 9, slots := #[.int 111], vm := .none },
  { cls := 9, slots := #[.int 112], vm := .none },
  { cls := 9, slots := #[.int 113], vm := .none },
  { cls := 9, slots := #[.int 114], vm := .none },
  { cls := 9, slots := #[.int 115], vm := .none },
  { cls := 9, slots := #[.int 116], vm := .none },
  { cls := 9, slots := #[.int 117], vm := .none },
  { cls := 9, slots := #[.int 118], vm := .none },
  { cls := 9, slots := #[.int 119], vm := .none },
  { cls := 9, slots := #[.int 120], vm := .none },
  { cls := 9, slots := #[.int 121], vm := .none },
  { cls := 9, slots := #[.int 122], vm := .none },
  { cls := 9, slots := #[.int 123], vm := .none },
  { cls := 9, slots := #[.int 124], vm := .none },
  { cls := 9, slots := #[.int 125], vm := .none },
  { cls := 9, slots := #[.int 126], vm := .none },
  { cls := 9, slots := #[.int 127], vm := .none }]
def classes : Array Class := #[k0, k1, k2, k3, k4, k5, k6, k7, k8, k9, k10, k11, k12, k13, k14, k15, k16, k17, k18, k19, k20]
def interned : List (Array UInt16 × Addr) := []
def slotsUsed : Nat := 517
def theMethod : MethodId := ⟨1, 1⟩
def args0 : Array Value := #[.long 5, .long 9, .long 7, .int 12]
def aboutOver (below : List Frame) : State where
  vm := { classes := classes, interned := interned.toArray }
  heap := heap
  slotsUsed := slotsUsed
  threads := #[{ frames := .invoking theMethod args0 :: below }]
def below0 : List Frame := [.native { method := ⟨0, 0⟩, args := #[] }]
def about1 : State := aboutOver below0
def p0 : Program := .bare "" "" ""
def e0 : Env := launch0.env 0 0 0
theorem w_frames : about1.frames = Frame.invoking theMethod args0 :: below0 := rfl
set_option maxRecDepth 65536 in
theorem w_args : argsFit about1.vm theMethod args0 = true := by decide +kernel
set_option maxRecDepth 65536 in
theorem w_heap : heapFits about1 = true := by decide +kernel
set_option maxRecDepth 65536 in
theorem w_runnable : about1.curStatus? = some .runnable := by decide +kernel
set_option maxRecDepth 65536 in
theorem w_alone : about1.alone = true := by decide +kernel
set_option maxRecDepth 65536 in
theorem w_named : about1.methodNamed? x = some theMethod := by decide +kernel
set_option maxRecDepth 65536 in
theorem w_hears : about1.hears theMethod below0 = true := by decide +kernel
set_option maxRecDepth 65536 in
theorem w_ripe : about1.ripe theMethod args0 below0 = true := by decide +kernel
theorem w_running : about1.status = .running := rfl
set_option maxRecDepth 65536 in
theorem w_room : about1.hasRoom e0.platform room_1 = true :=
  launch0.hasRoom_least _ room_1 (by decide +kernel) (by decide +kernel) (by decide +kernel) (by decide +kernel) (by decide +kernel) (by decide +kernel)
theorem allAtoms_all (ts : List Jvm.Cond) (a : Array Jvm.Value) (st : Jvm.State) : (allAtoms ts).before a st = ts.all (fun c => c.before a st) := by
  induction ts with
  | nil => rfl
  | cons c t ih =>
    show (Jvm.Cond.and c (allAtoms t)).before a st = _
    rw [Jvm.Cond.before_and, ih, List.all_cons]
def words1 : List Jvm.Cond := Jvm.Cond.code x code maxLocals ret :: tables_1
/-- a 'code' word, met by the world's own term for the bytes: nothing is compared byte by byte -/
theorem code_word {y : MethodName} {bytes : ByteArray} {mx : Nat} {rt : Option FieldType} {a : Array Value} {s : State} {m : MethodId} {meth : Method} {c : Code} (h1 : s.methodNamed? y = some m) (h2 : s.vm.method? m = some meth) (h3 : meth.code = some c) (h4 : c.code = bytes)
    (h5 : (c.maxLocals == mx && c.exceptionTable.isEmpty && decide (c.maxStack ≤ mostOperands) && decide (meth.sig.returnType = rt) && !meth.locks && decide (parseMethodDescriptor y.desc = some meth.sig)) = true) : (Jvm.Cond.code y bytes mx rt).before a s = true := by
  simp only [Bool.and_eq_true, beq_iff_eq, Bool.not_eq_true', decide_eq_true_eq] at h5
  obtain ⟨⟨⟨⟨⟨g1, g2⟩, g3⟩, g4⟩, g5⟩, g6⟩ := h5
  simp [Cond.before, Cond.holds, Cond.value, h1, h2, h3, h4, g1, g2, g3, g4, g5, g6]
def isCode : Jvm.Cond → Bool
  | .code _ _ _ _ => true
  | _ => false
theorem all_split {L : List Jvm.Cond} {P : Jvm.Cond → Bool} (h1 : L.all (fun c => isCode c || P c) = true) (h2 : ∀ c ∈ L.filter isCode, P c = true) : L.all P = true := by
  refine List.all_eq_true.mpr fun c hc => ?_
  have h := List.all_eq_true.mp h1 c hc
  rcases Bool.eq_false_or_eq_true (isCode c) with hi | hi
  · exact h2 c (List.mem_filter.mpr ⟨hc, hi⟩)
  · simpa [hi] using h
set_option maxRecDepth 65536 in
theorem w_c0 : (Jvm.Cond.code x code maxLocals ret).before args0 about1 = true := code_word (m := ⟨1, 1⟩) (meth := k1m1) (c := k1c1) (by decide +kernel) rfl rfl rfl (by decide +kernel)
set_option maxRecDepth 65536 in
theorem w_c1 : (Jvm.Cond.code ({ cls := "com/example/thicket/thicket/PageMap", name := "<init>", desc := "()V" } : Jvm.MethodName) prog_77_method_1_code (1 : Nat) (Option.none : Option Jvm.ClassFile.FieldType)).before args0 about1 = true := code_word (m := ⟨2, 0⟩) (meth := k2m0) (c := k2c0) (by decide +kernel) rfl rfl rfl (by decide +kernel)
set_option maxRecDepth 65536 in
theorem w_c2 : (Jvm.Cond.code ({ cls := "java/lang/Object", name := "<init>", desc := "()V" } : Jvm.MethodName) object_method_1_code (1 : Nat) (Option.none : Option Jvm.ClassFile.FieldType)).before args0 about1 = true := code_word (m := ⟨0, 0⟩) (meth := k0m0) (c := k0c0) (by decide +kernel) rfl rfl rfl (by decide +kernel)
set_option maxRecDepth 65536 in
theorem w_c3 : (Jvm.Cond.code ({ cls := "com/example/thicket/thicket/PageMap", name := "clear", desc := "()V" } : Jvm.MethodName) prog_77_method_9_code (1 : Nat) (Option.none : Option Jvm.ClassFile.FieldType)).before args0 about1 = true := code_word (m := ⟨2, 4⟩) (meth := k2m4) (c := k2c4) (by decide +kernel) rfl rfl rfl (by decide +kernel)
set_option maxRecDepth 65536 in
theorem w_c4 : (Jvm.Cond.code ({ cls := "java/util/Arrays", name := "fill", desc := "([JJ)V" } : Jvm.MethodName) jdk_65_method_101_code (5 : Nat) (Option.none : Option Jvm.ClassFile.FieldType)).before args0 about1 = true := code_word (m := ⟨3, 1⟩) (meth := k3m1) (c := k3c1) (by decide +kernel) rfl rfl rfl (by decide +kernel)
set_option maxRecDepth 65536 in
theorem w_c5 : (Jvm.Cond.code ({ cls := "java/lang/Integer", name := "valueOf", desc := "(I)Ljava/lang/Integer;" } : Jvm.MethodName) jdk_33_method_22_code (1 : Nat) (Option.some (Jvm.ClassFile.FieldType.object "java/lang/Integer"))).before args0 about1 = true := code_word (m := ⟨9, 0⟩) (meth := k9m0) (c := k9c0) (by decide +kernel) rfl rfl rfl (by decide +kernel)
set_option maxRecDepth 65536 in
theorem w_c6 : (Jvm.Cond.code ({ cls := "com/example/thicket/thicket/PageMap", name := "put", desc := "(JLjava/lang/Object;)Ljava/lang/Object;" } : Jvm.MethodName) prog_77_method_5_code (6 : Nat) (Option.some (Jvm.ClassFile.FieldType.object "java/lang/Object"))).before args0 about1 = true := code_word (m := ⟨2, 1⟩) (meth := k2m1) (c := k2c1) (by decide +kernel) rfl rfl rfl (by decide +kernel)
set_option maxRecDepth 65536 in
theorem w_c7 : (Jvm.Cond.code ({ cls := "com/example/thicket/thicket/PageMap", name := "find", desc := "(J)I" } : Jvm.MethodName) prog_77_method_10_code (5 : Nat) (Option.some Jvm.ClassFile.FieldType.int)).before args0 about1 = true := code_word (m := ⟨2, 5⟩) (meth := k2m5) (c := k2c5) (by decide +kernel) rfl rfl rfl (by decide +kernel)
set_option maxRecDepth 65536 in
theorem w_c8 : (Jvm.Cond.code ({ cls := "com/example/thicket/thicket/PageMap", name := "home", desc := "(J)I" } : Jvm.MethodName) prog_77_method_11_code (3 : Nat) (Option.some Jvm.ClassFile.FieldType.int)).before args0 about1 = true := code_word (m := ⟨2, 6⟩) (meth := k2m6) (c := k2c6) (by decide +kernel) rfl rfl rfl (by decide +kernel)
set_option maxRecDepth 65536 in
theorem w_c9 : (Jvm.Cond.code ({ cls := "java/lang/Long", name := "numberOfTrailingZeros", desc := "(J)I" } : Jvm.MethodName) jdk_35_method_49_code (3 : Nat) (Option.some Jvm.ClassFile.FieldType.int)).before args0 about1 = true := code_word (m := ⟨11, 0⟩) (meth := k11m0) (c := k11c0) (by decide +kernel) rfl rfl rfl (by decide +kernel)
set_option maxRecDepth 65536 in
theorem w_c10 : (Jvm.Cond.code ({ cls := "java/lang/Integer", name := "numberOfTrailingZeros", desc := "(I)I" } : Jvm.MethodName) jdk_33_method_48_code (2 : Nat) (Option.some Jvm.ClassFile.FieldType.int)).before args0 about1 = true := code_word (m := ⟨9, 1⟩) (meth := k9m1) (c := k9c1) (by decide +kernel) rfl rfl rfl (by decide +kernel)
set_option maxRecDepth 65536 in
theorem w_c11 : (Jvm.Cond.code ({ cls := "com/example/thicket/thicket/PageMap", name := "value", desc := "(I)Ljava/lang/Object;" } : Jvm.MethodName) prog_77_method_13_code (2 : Nat) (Option.some (Jvm.ClassFile.FieldType.object "java/lang/Object"))).before args0 about1 = true := code_word (m := ⟨2, 7⟩) (meth := k2m7) (c := k2c7) (by decide +kernel) rfl rfl rfl (by decide +kernel)
set_option maxRecDepth 65536 in
theorem w_c12 : (Jvm.Cond.code ({ cls := "com/example/thicket/thicket/PageMap", name := "pages", desc := "()[J" } : Jvm.MethodName) prog_77_method_7_code (8 : Nat) (Option.some (Jvm.ClassFile.FieldType.array Jvm.ClassFile.FieldType.long))).before args0 about1 = true := code_word (m := ⟨2, 3⟩) (meth := k2m3) (c := k2c3) (by decide +kernel) rfl rfl rfl (by decide +kernel)
set_option maxRecDepth 65536 in
theorem w_c13 : (Jvm.Cond.code ({ cls := "com/example/thicket/thicket/PageMapPagesPinLaw", name := "has", desc := "([JJ)Z" } : Jvm.MethodName) method_3_code (3 : Nat) (Option.some Jvm.ClassFile.FieldType.boolean)).before args0 about1 = true := code_word (m := ⟨1, 2⟩) (meth := k1m2) (c := k1c2) (by decide +kernel) rfl rfl rfl (by decide +kernel)
set_option maxRecDepth 65536 in
theorem w_c14 : (Jvm.Cond.code ({ cls := "com/example/thicket/thicket/PageMap", name := "remove", desc := "(J)Ljava/lang/Object;" } : Jvm.MethodName) prog_77_method_6_code (9 : Nat) (Option.some (Jvm.ClassFile.FieldType.object "java/lang/Object"))).before args0 about1 = true := code_word (m := ⟨2, 2⟩) (meth := k2m2) (c := k2c2) (by decide +kernel) rfl rfl rfl (by decide +kernel)
def codes1 : List Jvm.Cond := [Jvm.Cond.code x code maxLocals ret, Jvm.Cond.code ({ cls := "com/example/thicket/thicket/PageMap", name := "<init>", desc := "()V" } : Jvm.MethodName) prog_77_method_1_code (1 : Nat) (Option.none : Option Jvm.ClassFile.FieldType), Jvm.Cond.code ({ cls := "java/lang/Object", name := "<init>", desc := "()V" } : Jvm.MethodName) object_method_1_code (1 : Nat) (Option.none : Option Jvm.ClassFile.FieldType), Jvm.Cond.code ({ cls := "com/example/thicket/thicket/PageMap", name := "clear", desc := "()V" } : Jvm.MethodName) prog_77_method_9_code (1 : Nat) (Option.none : Option Jvm.ClassFile.FieldType), Jvm.Cond.code ({ cls := "java/util/Arrays", name := "fill", desc := "([JJ)V" } : Jvm.MethodName) jdk_65_method_101_code (5 : Nat) (Option.none : Option Jvm.ClassFile.FieldType), Jvm.Cond.code ({ cls := "java/lang/Integer", name := "valueOf", desc := "(I)Ljava/lang/Integer;" } : Jvm.MethodName) jdk_33_method_22_code (1 : Nat) (Option.some (Jvm.ClassFile.FieldType.object "java/lang/Integer")), Jvm.Cond.code ({ cls := "com/example/thicket/thicket/PageMap", name := "put", desc := "(JLjava/lang/Object;)Ljava/lang/Object;" } : Jvm.MethodName) prog_77_method_5_code (6 : Nat) (Option.some (Jvm.ClassFile.FieldType.object "java/lang/Object")), Jvm.Cond.code ({ cls := "com/example/thicket/thicket/PageMap", name := "find", desc := "(J)I" } : Jvm.MethodName) prog_77_method_10_code (5 : Nat) (Option.some Jvm.ClassFile.FieldType.int), Jvm.Cond.code ({ cls := "com/example/thicket/thicket/PageMap", name := "home", desc := "(J)I" } : Jvm.MethodName) prog_77_method_11_code (3 : Nat) (Option.some Jvm.ClassFile.FieldType.int), Jvm.Cond.code ({ cls := "java/lang/Long", name := "numberOfTrailingZeros", desc := "(J)I" } : Jvm.MethodName) jdk_35_method_49_code (3 : Nat) (Option.some Jvm.ClassFile.FieldType.int), Jvm.Cond.code ({ cls := "java/lang/Integer", name := "numberOfTrailingZeros", desc := "(I)I" } : Jvm.MethodName) jdk_33_method_48_code (2 : Nat) (Option.some Jvm.ClassFile.FieldType.int), Jvm.Cond.code ({ cls := "com/example/thicket/thicket/PageMap", name := "value", desc := "(I)Ljava/lang/Object;" } : Jvm.MethodName) prog_77_method_13_code (2 : Nat) (Option.some (Jvm.ClassFile.FieldType.object "java/lang/Object")), Jvm.Cond.code ({ cls := "com/example/thicket/thicket/PageMap", name := "pages", desc := "()[J" } : Jvm.MethodName) prog_77_method_7_code (8 : Nat) (Option.some (Jvm.ClassFile.FieldType.array Jvm.ClassFile.FieldType.long)), Jvm.Cond.code ({ cls := "com/example/thicket/thicket/PageMapPagesPinLaw", name := "has", desc := "([JJ)Z" } : Jvm.MethodName) method_3_code (3 : Nat) (Option.some Jvm.ClassFile.FieldType.boolean), Jvm.Cond.code ({ cls := "com/example/thicket/thicket/PageMap", name := "remove", desc := "(J)Ljava/lang/Object;" } : Jvm.MethodName) prog_77_method_6_code (9 : Nat) (Option.some (Jvm.ClassFile.FieldType.object "java/lang/Object"))]
set_option maxRecDepth 65536 in
theorem codes_eq : words1.filter isCode = codes1 := rfl
theorem w_codes : ∀ c ∈ words1.filter isCode, c.before args0 about1 = true := by
  rw [codes_eq]
  intro c hc
  simp only [codes1, List.mem_cons, List.not_mem_nil, or_false] at hc
  rcases hc with rfl | rfl | rfl | rfl | rfl | rfl | rfl | rfl | rfl | rfl | rfl | rfl | rfl | rfl | rfl
  · exact w_c0
  · exact w_c1
  · exact w_c2
  · exact w_c3
  · exact w_c4
  · exact w_c5
  · exact w_c6
  · exact w_c7
  · exact w_c8
  · exact w_c9
  · exact w_c10
  · exact w_c11
  · exact w_c12
  · exact w_c13
  · exact w_c14
set_option maxRecDepth 65536 in
theorem w_t1 : (words1.take 24).all (fun c => isCode c || c.before args0 about1) = true := by decide +kernel
set_option maxRecDepth 65536 in
theorem w_t2 : ((words1.drop 24).take 24).all (fun c => isCode c || c.before args0 about1) = true := by decide +kernel
set_option maxRecDepth 65536 in
theorem w_t3 : (((words1.drop 24).drop 24).take 24).all (fun c => isCode c || c.before args0 about1) = true := by decide +kernel
set_option maxRecDepth 65536 in
theorem w_t4 : (((words1.drop 24).drop 24).drop 24).all (fun c => isCode c || c.before args0 about1) = true := by decide +kernel
theorem w_tables : (allAtoms (Jvm.Cond.code x code maxLocals ret :: tables_1)).before args0 about1 = true := by
  rw [allAtoms_all]
  show words1.all (fun c => c.before args0 about1) = true
  refine all_split ?_ w_codes
  rw [← List.take_append_drop 24 words1, List.all_append, w_t1, ← List.take_append_drop 24 (words1.drop 24), List.all_append, w_t2, ← List.take_append_drop 24 ((words1.drop 24).drop 24), List.all_append, w_t3, w_t4]
  rfl
set_option maxRecDepth 65536 in
theorem w_rest : rest_1_c.before args0 about1 = true := by decide +kernel
set_option maxRecDepth 65536 in
theorem w_case : (Jvm.Cond.and given_1 narrow_1).before args0 about1 = true := by decide +kernel
theorem w_applies : (headSpec (Jvm.Cond.code x code maxLocals ret :: tables_1) room_1).applies x e0.platform about1 = true :=
  (Spec.applies_iff w_frames).mpr ⟨w_running, w_runnable, w_alone, w_named, w_hears, w_ripe, w_room, w_tables⟩
theorem atStart : AtStart classFile x code maxLocals ret World_1 tables_1 room_1 Calls_1 rest_1 Pre_1 launch0 p0 e0 about1 theMethod args0 below0 :=
  ⟨lists_1, trivial, launch0.admits_env _ _ _, launch0.least_env, fairChoices_fair.cas, fairChoices_fair.clock, w_frames, w_args, w_heap, w_applies, trivial, w_rest, w_case⟩
end start1
theorem witness_1 : WitnessClaimed_1 := ⟨start1.p0, start1.e0, start1.about1, start1.theMethod, start1.args0, start1.below0, start1.atStart⟩
end Jvm.Pilot.@@N@@
