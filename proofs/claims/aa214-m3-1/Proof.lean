import JvmDerived
import JvmDerived.Pilot.@@N@@Statement
import JvmDerived.Pilot.@@N@@Code
set_option linter.unusedVariables false
set_option linter.unusedSimpArgs false
namespace Jvm.RoadKit
open Sem ClassFile Op Lib Jvm.Stand Jvm.Free Jvm.LawKit
section Own
variable {p : Program} {l : Launch} {e : Env} {R : Room} {s : State} {m : MethodId} {args : Array Value} {below : List Frame} {meth : Method} {c : Code} {T T' : State} {locs : List Loc} {cells slots kc ks : Nat} {Q : Option Value → Heap → List Loc → Prop} {g g' : JFrame} {FE : Outcome → State → List Loc → Prop}
/-- from T with the frame g on top the body comes to its end: what it returns, the heap and the places written are as Q says; FE: the frame's own word of that end -/
def OFin (p : Program) (e : Env) (below : List Frame) (FE : Outcome → State → List Loc → Prop) (Q : Option Value → Heap → List Loc → Prop) (T : State) (g : JFrame) : Prop :=
  ∃ s₂ o, Steps p.tables e below (T.setTop g) s₂ ∧ s₂.status = .running ∧ Ended s₂ below o ∧ ∃ v L, o = .returned v ∧ Q v s₂.heap L ∧ FE o s₂ L
theorem OFin.st (st : ∀ target, Steps p.tables e below (T'.setTop g') target → Steps p.tables e below (T.setTop g) target) (h : OFin p e below FE Q T' g') : OFin p e below FE Q T g := by
  obtain ⟨s₂, o, h1, r⟩ := h; exact ⟨s₂, o, st _ h1, r⟩
theorem OFin.tr (st : Steps p.tables e below (T.setTop g) (T'.setTop g')) (h : OFin p e below FE Q T' g') : OFin p e below FE Q T g := h.st fun _ k => st.trans k
theorem OFin.cast (q : g = g') (h : OFin p e below FE Q T g') : OFin p e below FE Q T g := q ▸ h
/-- the end's frame: narrow (nothing interned), and wide (over the tables at hand) -/
theorem own_endN {v : Option Value} (hc : cells ≤ kc) (hs : slots ≤ ks) : ∀ fs : List Frame, s.WarmedH (T.setFrames fs).vm → s.sameButNew ({ T.setFrames fs with vm := s.vm } : State) locs cells slots → FrameEnd s (.returned v) (T.setFrames fs) locs kc ks :=
  fun fs hW h => ⟨⟨v, rfl⟩, hW, h.mono hc hs⟩
theorem own_endW {vm₁ : Vm} {n : Nat} {v : Option Value} (hS : s.Since vm₁ n) (hn : n ≤ T.heap.size) (hc : cells ≤ kc) (hs : slots ≤ ks) : ∀ fs : List Frame, (s.setVm vm₁).WarmedH (T.setFrames fs).vm → (s.setVm vm₁).sameButNew ({ T.setFrames fs with vm := vm₁ } : State) locs cells slots → ReturnedEndW s (.returned v) (T.setFrames fs) locs kc ks :=
  fun fs hW h => by
    obtain ⟨a, b, c'⟩ := hS.ended (U := T.setFrames fs) hW hn h
    exact ⟨⟨v, rfl⟩, a, b, c'.mono hc hs⟩
theorem own_retV (X : Stand p l e R s m args below meth c T locs cells slots) (hx : p.tables.exec = Jvm.exec) {pc : Nat} {Ls : Array Slot} (hret : meth.sig.returnType = none) (hlk : meth.locks = false) (hd : decode c.code pc = .ok (.return_, 1)) (hQ : Q none T.heap locs) (hE : ∀ fs : List Frame, s.WarmedH (T.setFrames fs).vm → s.sameButNew ({ T.setFrames fs with vm := s.vm } : State) locs cells slots → FE (.returned none) (T.setFrames fs) locs) : OFin p e below FE Q T (mkF m pc Ls []) := by
  obtain ⟨fs, hr, hrun, hended, hW, hsame⟩ := X.leave (v := none) (fun _ => rfl) hlk
  exact ⟨_, _, X.returnOut hx hret hd hr, hrun, hended, _, _, rfl, hQ, hE fs hW hsame⟩
theorem own_retI (X : Stand p l e R s m args below meth c T locs cells slots) (hx : p.tables.exec = Jvm.exec) {pc : Nat} {Ls : Array Slot} {z : Int32} {rest : List Value} (hret : meth.sig.returnType = some .int) (hlk : meth.locks = false) (hd : decode c.code pc = .ok (.ireturn, 1)) (hQ : Q (some (.int z)) T.heap locs) (hE : ∀ fs : List Frame, s.WarmedH (T.setFrames fs).vm → s.sameButNew ({ T.setFrames fs with vm := s.vm } : State) locs cells slots → FE (.returned (some (.int z))) (T.setFrames fs) locs) : OFin p e below FE Q T (mkF m pc Ls (.int z :: rest)) := by
  obtain ⟨fs, hr, hrun, hended, hW, hsame⟩ := X.leave (v := some (.int z)) (fun h => by rw [hret] at h; cases h) hlk
  exact ⟨_, _, retOut X hx hret rfl (Or.inl ⟨rfl, Or.inl rfl, z, rfl⟩) hd hr, hrun, hended, _, _, rfl, hQ, hE fs hW hsame⟩
theorem own_retN (X : Stand p l e R s m args below meth c T locs cells slots) (hx : p.tables.exec = Jvm.exec) {pc : Nat} {Ls : Array Slot} {z z' : Int32} {rest : List Value} {t : FieldType} (hret : meth.sig.returnType = some t) (hlk : meth.locks = false) (ht : t = .boolean ∨ t = .byte ∨ t = .char ∨ t = .short) (hz : nar t z = z') (hd : decode c.code pc = .ok (.ireturn, 1)) (hQ : Q (some (.int z')) T.heap locs) (hE : ∀ fs : List Frame, s.WarmedH (T.setFrames fs).vm → s.sameButNew ({ T.setFrames fs with vm := s.vm } : State) locs cells slots → FE (.returned (some (.int z'))) (T.setFrames fs) locs) : OFin p e below FE Q T (mkF m pc Ls (.int z :: rest)) := by
  subst hz
  obtain ⟨fs, hr, hrun, hended, hW, hsame⟩ := X.leave (v := some (.int (nar t z))) (fun h => by rw [hret] at h; cases h) hlk
  exact ⟨_, _, retN X hx hret ht hd hr, hrun, hended, _, _, rfl, hQ, hE fs hW hsame⟩
theorem own_retJ (X : Stand p l e R s m args below meth c T locs cells slots) (hx : p.tables.exec = Jvm.exec) {pc : Nat} {Ls : Array Slot} {z : Int64} {rest : List Value} (hret : meth.sig.returnType = some .long) (hlk : meth.locks = false) (hd : decode c.code pc = .ok (.lreturn, 1)) (hQ : Q (some (.long z)) T.heap locs) (hE : ∀ fs : List Frame, s.WarmedH (T.setFrames fs).vm → s.sameButNew ({ T.setFrames fs with vm := s.vm } : State) locs cells slots → FE (.returned (some (.long z))) (T.setFrames fs) locs) : OFin p e below FE Q T (mkF m pc Ls (.long z :: rest)) := by
  obtain ⟨fs, hr, hrun, hended, hW, hsame⟩ := X.leave (v := some (.long z)) (fun h => by rw [hret] at h; cases h) hlk
  exact ⟨_, _, retOut X hx hret rfl (Or.inr (Or.inl ⟨rfl, rfl, z, rfl⟩)) hd hr, hrun, hended, _, _, rfl, hQ, hE fs hW hsame⟩
theorem own_retR (X : Stand p l e R s m args below meth c T locs cells slots) (hx : p.tables.exec = Jvm.exec) {pc : Nat} {Ls : Array Slot} {w : Value} {t : FieldType} {rest : List Value} (hret : meth.sig.returnType = some t) (hlk : meth.locks = false) (ht : t.isReference = true) (hn : narrow t w = w) (hw : w.isRef = true) (hd : decode c.code pc = .ok (.areturn, 1)) (hQ : Q (some w) T.heap locs) (hE : ∀ fs : List Frame, s.WarmedH (T.setFrames fs).vm → s.sameButNew ({ T.setFrames fs with vm := s.vm } : State) locs cells slots → FE (.returned (some w)) (T.setFrames fs) locs) : OFin p e below FE Q T (mkF m pc Ls (w :: rest)) := by
  obtain ⟨fs, hr, hrun, hended, hW, hsame⟩ := X.leave (v := some w) (fun h => by rw [hret] at h; cases h) hlk
  exact ⟨_, _, retOut X hx hret hn (Or.inr (Or.inr (Or.inr (Or.inr ⟨rfl, ht, hw⟩)))) hd hr, hrun, hended, _, _, rfl, hQ, hE fs hW hsame⟩
end Own
end Jvm.RoadKit
namespace Jvm.RoadKit
open Sem ClassFile Op Lib Jvm.Stand Jvm.Free Jvm.LawKit
theorem own_fldI {args : Array Value} {s : State} {t : Term} {C n d : String} {a : Addr} {x : Int32} (ev : t.eval args s none [] s = some (.ref a)) (h : (Jvm.Cond.eq (Term.field t C n d) (Term.int x)).value args s none s [] = some true) : Fld s s.heap a C n d (.int x) := by
  obtain ⟨u, y, e1, e2, -, k2⟩ := cmp_v (Or.inl h)
  cases (Option.some.inj (e2.symm.trans (Term.int_eval x)) : y = .int x)
  obtain ⟨z, rfl⟩ := k2
  have q : z = x := by simpa [Jvm.Cond.value, e1, e2] using h
  subst q
  exact Fld.start ((fld_at ev).symm.trans e1)
theorem own_fldJ {args : Array Value} {s : State} {t : Term} {C n d : String} {a : Addr} {x : Int64} (ev : t.eval args s none [] s = some (.ref a)) (h : (Jvm.Cond.eq (Term.field t C n d) (Term.long x)).value args s none s [] = some true) : Fld s s.heap a C n d (.long x) := by
  obtain ⟨u, y, e1, e2, -, k2⟩ := cmp_v (Or.inl h)
  cases (Option.some.inj (e2.symm.trans (long_at x)) : y = .long x)
  obtain ⟨z, rfl⟩ := k2
  have q : z = x := by simpa [Jvm.Cond.value, e1, e2] using h
  subst q
  exact Fld.start ((fld_at ev).symm.trans e1)
end Jvm.RoadKit
namespace Jvm.RoadKit
theorem own_ite {α : Sort _} {P : α → Prop} {c : Prop} [Decidable c] {a b : α} (ha : P a) (hb : P b) : P (if c then a else b) := by split <;> assumption
theorem own_ite2 {α β : Sort _} {P : α → β → Prop} {c : Prop} [Decidable c] {a b : α} {a' b' : β} (ha : P a a') (hb : P b b') : P (if c then a else b) (if c then a' else b') := by split <;> assumption
/-- (x &&& 0x7fffffff) % d lies between 0 and d -/
theorem own_rem (x d : Int32) (n : Int) (hn : d.toInt = n) (h0 : 0 < n) : 0 ≤ ((x &&& (2147483647 : Int32)) % d).toInt ∧ ((x &&& (2147483647 : Int32)) % d).toInt < n := by
  have h1 := c_mask x (2147483647 : Int32) 31 (by decide) (by decide)
  have h2 := (c_irem (x &&& (2147483647 : Int32)) d n hn).1 (by rw [h1]; omega)
  rw [h2, h1]
  exact ⟨Int.emod_nonneg _ (by omega), Int.emod_lt_of_pos _ h0⟩
end Jvm.RoadKit
namespace Jvm.RoadKit
open Sem ClassFile Op Lib Jvm.Stand Jvm.Free Jvm.LawKit
theorem own_lremM {p : Program} {l : Launch} {e : Env} {R : Room} {s : State} {m : MethodId} {args : Array Value} {below : List Frame} {meth : Method} {c : Code} {T : State} {locs : List Loc} {cells slots : Nat} {g : JFrame} {target : State} (X : Stand p l e R s m args below meth c T locs cells slots) (hx : p.tables.exec = Jvm.exec) (hg : g.method = m) {x y : Int64} {rest : List Value} (hd : decode c.code g.pc = .ok (.lrem, 1)) (hs : g.stack = .long y :: .long x :: rest) (hy : y ≠ 0)
    (hr : Steps p.tables e below (T.setTop { g with pc := g.pc + 1, stack := .long (x % y) :: rest }) target) : Steps p.tables e below (T.setTop g) target :=
  XS.lrem X.here hx hg hd hs hy (by rw [lrem_mod]; exact hr)
end Jvm.RoadKit
namespace Jvm.RoadKit
open Sem ClassFile Op Lib Jvm.Stand Jvm.Free Jvm.LawKit
theorem own_pop2L {p : Program} {l : Launch} {e : Env} {R : Room} {s : State} {m : MethodId} {args : Array Value} {below : List Frame} {meth : Method} {c : Code} {T : State} {locs : List Loc} {cells slots : Nat} {g : JFrame} {target : State} (X : Stand p l e R s m args below meth c T locs cells slots) (hx : p.tables.exec = Jvm.exec) (hg : g.method = m) {x : Int64} {rest : List Value} (hd : decode c.code g.pc = .ok (.pop2, 1)) (hs : g.stack = .long x :: rest)
    (hr : Steps p.tables e below (T.setTop { g with pc := g.pc + 1, stack := rest }) target) : Steps p.tables e below (T.setTop g) target := by
  subst hg
  jvm_step X.here [X.here.top, hx, hd, hs, Value.category]
  exact hr
end Jvm.RoadKit
namespace Jvm.RoadKit
open Sem ClassFile Op Lib Jvm.Stand Jvm.Free Jvm.LawKit
section OwnArr
variable {p : Program} {l : Launch} {e : Env} {R : Room} {s : State} {m : MethodId} {args : Array Value} {below : List Frame} {meth : Method} {c : Code} {T T' : State} {locs : List Loc} {cells slots kc ks : Nat} {Q : Option Value → Heap → List Loc → Prop} {FE : Outcome → State → List Loc → Prop} {Z : State} {h h' : Heap} {a b : Addr} {k : ClassId} {ty : FieldType} {vs : List Value} {ws : List Addr} {i sl : Nat} {j : Int32} {v : Value}
/-- the array at a holds just vs -/
def Oar (Z : State) (h : Heap) (a : Addr) (k : ClassId) (ty : FieldType) (vs : List Value) : Prop := ∃ c : Cell, Arr Z h a c ty ∧ c.cls = k ∧ c.slots = vs.toArray ∧ vs.length < 2 ^ 31
theorem Oar.lt (F : Oar Z h a k ty vs) : a < h.size := by obtain ⟨c, A, -⟩ := F; exact A.lt
theorem Oar.len (F : Oar Z h a k ty vs) : vs.length < 2 ^ 31 := by obtain ⟨c, -, -, -, q⟩ := F; exact q
theorem Oar.ext (E : Ext h h') (F : Oar Z h a k ty vs) : Oar Z h' a k ty vs := by obtain ⟨c, A, r⟩ := F; exact ⟨c, A.ext E, r⟩
theorem Oar.other (W : Wr h h' b sl v) (F : Oar Z h a k ty vs) (q : a ≠ b) : Oar Z h' a k ty vs := by obtain ⟨c, A, r⟩ := F; exact ⟨c, A.other W q, r⟩
theorem Oar.keep (F : Oar Z h a k ty vs) (K : Keep h h' ws) (q : a ∉ ws) : Oar Z h' a k ty vs := by obtain ⟨c, A, r⟩ := F; exact ⟨c, ⟨K.2.1 a c A.1 q, A.2⟩, r⟩
theorem own_idx (hj : j.toInt = (i : Int)) : ¬ j < 0 ∧ j.toNatClampNeg = i := by
  constructor
  · rw [Int32.lt_iff_toInt_lt, hj]; simp
  · rw [Int32.toNatClampNeg, hj]; simp
theorem own_inb {c : Cell} (hs : c.slots = vs.toArray) (hj : j.toInt = (i : Int)) (hi : i < vs.length) : ¬ (j < 0 ∨ c.slots.size ≤ j.toNatClampNeg) := by
  obtain ⟨q1, q2⟩ := own_idx hj
  rw [q2, hs]; simp only [List.size_toArray]; intro q; rcases q with q | q
  · exact q1 q
  · omega
theorem own_lt_of {x : Value} (hv : vs[i]? = some x) : i < vs.length := (List.getElem?_eq_some_iff.mp hv).1
theorem Oar.set (F : Oar Z h a k ty vs) (W : Wr h h' a sl v) : Oar Z h' a k ty (vs.set sl v) := by
  obtain ⟨c, A, q1, q2, q3⟩ := F
  exact ⟨_, A.same W, q1, by simp [Cell.setSlot, q2], by simpa using q3⟩
theorem Oar.new {z : Int32} {n : Nat} (A : Arr Z h a (newA k ty z) ty) (hz : z.toInt = (n : Int)) : Oar Z h a k ty (List.replicate n (defaultValue ty)) := by
  obtain ⟨q1, q2⟩ := own_idx hz
  refine ⟨_, A, rfl, by simp [newA, q2], ?_⟩
  have := z.toInt_lt
  simp; omega
theorem own_iaload (X : Stand p l e R s m args below meth c T locs cells slots) (hx : p.tables.exec = Jvm.exec) (hZ : Z.Warmed39 s.vm) (eT : T.heap = h) (F : Oar Z h a k .int vs) (hj : j.toInt = (i : Int)) (hv : vs[i]? = some v) {pc pc' : Nat} {Ls : Array Slot} {rest : List Value} (hd : decode c.code pc = .ok (.iaload, 1)) (hp : pc + 1 = pc')
    (hr : OFin p e below FE Q T (mkF m pc' Ls (v :: rest))) : OFin p e below FE Q T (mkF m pc Ls (.int j :: .ref a :: rest)) := by
  subst hp; obtain ⟨cl, A, -, q2, -⟩ := F
  exact hr.st (X.iaload hx (j := j) (v := v) (by rw [eT]; exact A.1) (State.isArrayOf_alike hZ.alike A.2.1) A.2.2 (own_inb q2 hj (own_lt_of hv)) (by rw [(own_idx hj).2, q2]; simpa using hv) (g := mkF m pc Ls (.int j :: .ref a :: rest)) rfl rfl hd)
theorem own_laload (X : Stand p l e R s m args below meth c T locs cells slots) (hx : p.tables.exec = Jvm.exec) (hZ : Z.Warmed39 s.vm) (eT : T.heap = h) (F : Oar Z h a k .long vs) (hj : j.toInt = (i : Int)) (hv : vs[i]? = some v) {pc pc' : Nat} {Ls : Array Slot} {rest : List Value} (hd : decode c.code pc = .ok (.laload, 1)) (hp : pc + 1 = pc')
    (hr : OFin p e below FE Q T (mkF m pc' Ls (v :: rest))) : OFin p e below FE Q T (mkF m pc Ls (.int j :: .ref a :: rest)) := by
  subst hp; obtain ⟨cl, A, -, q2, -⟩ := F
  exact hr.st (X.laload hx (j := j) (v := v) (by rw [eT]; exact A.1) (State.isArrayOf_alike hZ.alike A.2.1) A.2.2 (own_inb q2 hj (own_lt_of hv)) (by rw [(own_idx hj).2, q2]; simpa using hv) (g := mkF m pc Ls (.int j :: .ref a :: rest)) rfl rfl hd)
theorem own_baload (X : Stand p l e R s m args below meth c T locs cells slots) (hx : p.tables.exec = Jvm.exec) (hZ : Z.Warmed39 s.vm) (eT : T.heap = h) (F : Oar Z h a k .byte vs) (hj : j.toInt = (i : Int)) (hv : vs[i]? = some v) {pc pc' : Nat} {Ls : Array Slot} {rest : List Value} (hd : decode c.code pc = .ok (.baload, 1)) (hp : pc + 1 = pc')
    (hr : OFin p e below FE Q T (mkF m pc' Ls (v :: rest))) : OFin p e below FE Q T (mkF m pc Ls (.int j :: .ref a :: rest)) := by
  subst hp; obtain ⟨cl, A, -, q2, -⟩ := F
  exact hr.st (X.baloadBytes hx (j := j) (v := v) (by rw [eT]; exact A.1) (State.isArrayOf_alike hZ.alike A.2.1) A.2.2 (own_inb q2 hj (own_lt_of hv)) (by rw [(own_idx hj).2, q2]; simpa using hv) (g := mkF m pc Ls (.int j :: .ref a :: rest)) rfl rfl hd)
theorem own_zaload (X : Stand p l e R s m args below meth c T locs cells slots) (hx : p.tables.exec = Jvm.exec) (hZ : Z.Warmed39 s.vm) (eT : T.heap = h) (F : Oar Z h a k .boolean vs) (hj : j.toInt = (i : Int)) (hv : vs[i]? = some v) {pc pc' : Nat} {Ls : Array Slot} {rest : List Value} (hd : decode c.code pc = .ok (.baload, 1)) (hp : pc + 1 = pc')
    (hr : OFin p e below FE Q T (mkF m pc' Ls (v :: rest))) : OFin p e below FE Q T (mkF m pc Ls (.int j :: .ref a :: rest)) := by
  subst hp; obtain ⟨cl, A, -, q2, -⟩ := F
  exact hr.st (X.baloadBooleans hx (j := j) (v := v) (by rw [eT]; exact A.1) (State.isArrayOf_alike hZ.alike A.2.1) A.2.2 (own_inb q2 hj (own_lt_of hv)) (by rw [(own_idx hj).2, q2]; simpa using hv) (g := mkF m pc Ls (.int j :: .ref a :: rest)) rfl rfl hd)
theorem own_aaload (X : Stand p l e R s m args below meth c T locs cells slots) (hx : p.tables.exec = Jvm.exec) (hZ : Z.Warmed39 s.vm) (eT : T.heap = h) (F : Oar Z h a k ty vs) (hty : ty.isReference = true) (hj : j.toInt = (i : Int)) (hv : vs[i]? = some v) {pc pc' : Nat} {Ls : Array Slot} {rest : List Value} (hd : decode c.code pc = .ok (.aaload, 1)) (hp : pc + 1 = pc')
    (hr : OFin p e below FE Q T (mkF m pc' Ls (v :: rest))) : OFin p e below FE Q T (mkF m pc Ls (.int j :: .ref a :: rest)) := by
  subst hp; obtain ⟨cl, A, -, q2, -⟩ := F
  exact hr.st (X.aaload hx (j := j) (v := v) (by rw [eT]; exact A.1) (State.isArrayOf_alike hZ.alike A.2.1) hty A.2.2 (own_inb q2 hj (own_lt_of hv)) (by rw [(own_idx hj).2, q2]; simpa using hv) (g := mkF m pc Ls (.int j :: .ref a :: rest)) rfl rfl hd)
theorem own_alen (X : Stand p l e R s m args below meth c T locs cells slots) (hx : p.tables.exec = Jvm.exec) (hZ : Z.Warmed39 s.vm) (eT : T.heap = h) (F : Oar Z h a k ty vs) {z : Int32} (hz : z.toInt = (vs.length : Int)) {pc pc' : Nat} {Ls : Array Slot} {rest : List Value} (hd : decode c.code pc = .ok (.arraylength, 1)) (hp : pc + 1 = pc')
    (hr : OFin p e below FE Q T (mkF m pc' Ls (.int z :: rest))) : OFin p e below FE Q T (mkF m pc Ls (.ref a :: rest)) := by
  subst hp; obtain ⟨cl, A, -, q2, q3⟩ := F
  have q : cl.slots.size.toInt32 = z := by
    rw [q2, List.size_toArray, ← Int32.toInt_inj, hz]; exact Int32.toInt_ofNat_small q3
  subst q
  exact hr.st (X.arraylength hx (by rw [eT]; exact A.1) (State.isArrayOf_alike hZ.alike A.2.1) (g := mkF m pc Ls (.ref a :: rest)) rfl rfl hd)
/-- a store: what each law of a store gives, over Oar -/
theorem own_lastore (X : Stand p l e R s m args below meth c T locs cells slots) (hx : p.tables.exec = Jvm.exec) (hZ : Z.Warmed39 s.vm) (eT : T.heap = h) (F : Oar Z h a k .long vs) (hj : j.toInt = (i : Int)) (hi : i < vs.length) {x : Int64} {pc : Nat} {Ls : Array Slot} {rest : List Value} (hd : decode c.code pc = .ok (.lastore, 1)) :
    ∃ T' h', Stand p l e R s m args below meth c T' (locs ++ [⟨a, i⟩]) cells slots ∧ T'.heap = h' ∧ Wr h h' a i (.long x) ∧ Oar Z h' a k .long (vs.set i (.long x)) ∧ ∀ target, Steps p.tables e below (T'.setTop (mkF m (pc + 1) Ls rest)) target → Steps p.tables e below (T.setTop (mkF m pc Ls (.long x :: .int j :: .ref a :: rest))) target := by
  have F' := F
  obtain ⟨cl, A, -, q2, -⟩ := F
  obtain ⟨T', h', X', e', W, st⟩ := stJ X hx hZ eT A (j := j) (x := x) (own_inb q2 hj hi) (g := mkF m pc Ls (.long x :: .int j :: .ref a :: rest)) rfl rfl hd
  rw [(own_idx hj).2] at X' W
  exact ⟨T', h', X', e', W, F'.set W, st⟩
theorem own_iastore (X : Stand p l e R s m args below meth c T locs cells slots) (hx : p.tables.exec = Jvm.exec) (hZ : Z.Warmed39 s.vm) (eT : T.heap = h) (F : Oar Z h a k .int vs) (hj : j.toInt = (i : Int)) (hi : i < vs.length) {x : Int32} {pc : Nat} {Ls : Array Slot} {rest : List Value} (hd : decode c.code pc = .ok (.iastore, 1)) :
    ∃ T' h', Stand p l e R s m args below meth c T' (locs ++ [⟨a, i⟩]) cells slots ∧ T'.heap = h' ∧ Wr h h' a i (.int x) ∧ Oar Z h' a k .int (vs.set i (.int x)) ∧ ∀ target, Steps p.tables e below (T'.setTop (mkF m (pc + 1) Ls rest)) target → Steps p.tables e below (T.setTop (mkF m pc Ls (.int x :: .int j :: .ref a :: rest))) target := by
  have F' := F
  obtain ⟨cl, A, -, q2, -⟩ := F
  obtain ⟨T', h', X', e', W, st⟩ := stI X hx hZ eT A (j := j) (x := x) (own_inb q2 hj hi) (g := mkF m pc Ls (.int x :: .int j :: .ref a :: rest)) rfl rfl hd
  rw [(own_idx hj).2] at X' W
  exact ⟨T', h', X', e', W, F'.set W, st⟩
theorem own_bastore (X : Stand p l e R s m args below meth c T locs cells slots) (hx : p.tables.exec = Jvm.exec) (hZ : Z.Warmed39 s.vm) (eT : T.heap = h) (F : Oar Z h a k .byte vs) (hj : j.toInt = (i : Int)) (hi : i < vs.length) {x y : Int32} (hy : x.toInt8.toInt32 = y) {pc : Nat} {Ls : Array Slot} {rest : List Value} (hd : decode c.code pc = .ok (.bastore, 1)) :
    ∃ T' h', Stand p l e R s m args below meth c T' (locs ++ [⟨a, i⟩]) cells slots ∧ T'.heap = h' ∧ Wr h h' a i (.int y) ∧ Oar Z h' a k .byte (vs.set i (.int y)) ∧ ∀ target, Steps p.tables e below (T'.setTop (mkF m (pc + 1) Ls rest)) target → Steps p.tables e below (T.setTop (mkF m pc Ls (.int x :: .int j :: .ref a :: rest))) target := by
  have F' := F
  obtain ⟨cl, A, -, q2, -⟩ := F
  obtain ⟨T', h', X', e', W, st⟩ := stB X hx hZ eT A (j := j) (x := x) (own_inb q2 hj hi) (g := mkF m pc Ls (.int x :: .int j :: .ref a :: rest)) rfl rfl hd
  subst hy
  rw [(own_idx hj).2] at X' W
  exact ⟨T', h', X', e', W, F'.set W, st⟩
theorem own_zastore (X : Stand p l e R s m args below meth c T locs cells slots) (hx : p.tables.exec = Jvm.exec) (hZ : Z.Warmed39 s.vm) (eT : T.heap = h) (F : Oar Z h a k .boolean vs) (hj : j.toInt = (i : Int)) (hi : i < vs.length) {x y : Int32} (hy : x &&& 1 = y) {pc : Nat} {Ls : Array Slot} {rest : List Value} (hd : decode c.code pc = .ok (.bastore, 1)) :
    ∃ T' h', Stand p l e R s m args below meth c T' (locs ++ [⟨a, i⟩]) cells slots ∧ T'.heap = h' ∧ Wr h h' a i (.int y) ∧ Oar Z h' a k .boolean (vs.set i (.int y)) ∧ ∀ target, Steps p.tables e below (T'.setTop (mkF m (pc + 1) Ls rest)) target → Steps p.tables e below (T.setTop (mkF m pc Ls (.int x :: .int j :: .ref a :: rest))) target := by
  have F' := F
  obtain ⟨cl, A, -, q2, -⟩ := F
  obtain ⟨T', h', X', e', W, st⟩ := stZ X hx hZ eT A (j := j) (x := x) (own_inb q2 hj hi) (g := mkF m pc Ls (.int x :: .int j :: .ref a :: rest)) rfl rfl hd
  subst hy
  rw [(own_idx hj).2] at X' W
  exact ⟨T', h', X', e', W, F'.set W, st⟩
theorem own_aastore (X : Stand p l e R s m args below meth c T locs cells slots) (hx : p.tables.exec = Jvm.exec) (hZ : Z.Warmed39 s.vm) (eT : T.heap = h) (F : Oar Z h a k ty vs) (hty : ty.isReference = true) (hj : j.toInt = (i : Int)) (hi : i < vs.length) (O : Sto Z h a v) {pc : Nat} {Ls : Array Slot} {rest : List Value} (hd : decode c.code pc = .ok (.aastore, 1)) :
    ∃ T' h', Stand p l e R s m args below meth c T' (locs ++ [⟨a, i⟩]) cells slots ∧ T'.heap = h' ∧ Wr h h' a i v ∧ Oar Z h' a k ty (vs.set i v) ∧ ∀ target, Steps p.tables e below (T'.setTop (mkF m (pc + 1) Ls rest)) target → Steps p.tables e below (T.setTop (mkF m pc Ls (v :: .int j :: .ref a :: rest))) target := by
  have F' := F
  obtain ⟨cl, A, -, q2, -⟩ := F
  obtain ⟨T', h', X', e', W, st⟩ := stR X hx hZ eT A (j := j) (v := v) (own_inb q2 hj hi) hty O (g := mkF m pc Ls (v :: .int j :: .ref a :: rest)) rfl rfl hd
  rw [(own_idx hj).2] at X' W
  exact ⟨T', h', X', e', W, F'.set W, st⟩
theorem own_newP (X : Stand p l e R s m args below meth c T locs cells slots) (hx : p.tables.exec = Jvm.exec) (hZ : Z.Warmed39 s.vm) {a0 : Array Value} {aty : ArrayType} (w : (Jvm.Cond.arrayClass (newarray.typeOf aty)).before a0 Z = true) (eT : T.heap = h) {z : Int32} {n cap : Nat} (hz : z.toInt = (n : Int)) (hcap : n ≤ cap) (hb : cap * 8 ≤ 536870912) (hc : cells + 1 ≤ R.cells) (hl : slots + cap ≤ R.slots) {pc : Nat} {Ls : Array Slot} {rest : List Value} (hd : decode c.code pc = .ok (.newarray aty, 2)) :
    ∃ T' h' cA, Stand p l e R s m args below meth c T' locs (cells + 1) (slots + cap) ∧ T'.heap = h' ∧ Ext h h' ∧ Oar Z h' h.size cA (newarray.typeOf aty) (List.replicate n (defaultValue (newarray.typeOf aty))) ∧ ∀ target, Steps p.tables e below (T'.setTop (mkF m (pc + 2) Ls (.ref h.size :: rest))) target → Steps p.tables e below (T.setTop (mkF m pc Ls (.int z :: rest))) target := by
  obtain ⟨q1, q2⟩ := own_idx hz
  obtain ⟨T', h', cA, X', e', E, A, st⟩ := newP X hx hZ w eT (g := mkF m pc Ls (.int z :: rest)) rfl hd rfl q1 (cap := cap) (by rw [q2]; exact hcap) hb hc hl
  exact ⟨T', h', cA, X', e', E, Oar.new A hz, st⟩
theorem own_newR (X : Stand p l e R s m args below meth c T locs cells slots) (hx : p.tables.exec = Jvm.exec) (hZ : Z.Warmed39 s.vm) {a0 : Array Value} {own C : String} {index : Nat} (hown : s.vm.findClass own = some m.cls) (w1 : (Jvm.Cond.classLink own index C).before a0 Z = true) (w2 : (Jvm.Cond.arrayOver (.object C)).before a0 Z = true) (eT : T.heap = h) {z : Int32} {n cap : Nat} (hz : z.toInt = (n : Int)) (hcap : n ≤ cap) (hb : cap * 8 ≤ 536870912) (hc : cells + 1 ≤ R.cells) (hl : slots + cap ≤ R.slots) {ad : String} (had : "[" ++ (FieldType.object C).toString = ad) {pc : Nat} {Ls : Array Slot} {rest : List Value} (hd : decode c.code pc = .ok (.anewarray index, 3)) :
    ∃ T' h' cA, Stand p l e R s m args below meth c T' locs (cells + 1) (slots + cap) ∧ T'.heap = h' ∧ Ext h h' ∧ Oar Z h' h.size cA (.object C) (List.replicate n .null) ∧ Exa Z h' h.size ad ∧ Ovr Z cA C ∧ ∀ target, Steps p.tables e below (T'.setTop (mkF m (pc + 3) Ls (.ref h.size :: rest))) target → Steps p.tables e below (T.setTop (mkF m pc Ls (.int z :: rest))) target := by
  obtain ⟨q1, q2⟩ := own_idx hz
  obtain ⟨T', h', cA, X', e', E, A, EE, O, st⟩ := newRE X hx hZ hown w1 w2 eT (g := mkF m pc Ls (.int z :: rest)) rfl hd rfl q1 (cap := cap) (by rw [q2]; exact hcap) hb hc hl had
  exact ⟨T', h', cA, X', e', E, Oar.new A hz, EE, O, st⟩
theorem own_newRA (X : Stand p l e R s m args below meth c T locs cells slots) (hx : p.tables.exec = Jvm.exec) (hZ : Z.Warmed39 s.vm) {a0 : Array Value} {own C : String} {t : FieldType} {index : Nat} (hown : s.vm.findClass own = some m.cls) (hC : (FieldType.array t).toString = C) (w1 : (Jvm.Cond.classLink own index C).before a0 Z = true) (w2 : (Jvm.Cond.arrayOver (.array t)).before a0 Z = true) (eT : T.heap = h) {z : Int32} {n cap : Nat} (hz : z.toInt = (n : Int)) (hcap : n ≤ cap) (hb : cap * 8 ≤ 536870912) (hc : cells + 1 ≤ R.cells) (hl : slots + cap ≤ R.slots) {ad : String} (had : "[" ++ C = ad) {pc : Nat} {Ls : Array Slot} {rest : List Value} (hd : decode c.code pc = .ok (.anewarray index, 3)) :
    ∃ T' h' cA, Stand p l e R s m args below meth c T' locs (cells + 1) (slots + cap) ∧ T'.heap = h' ∧ Ext h h' ∧ Oar Z h' h.size cA (.array t) (List.replicate n .null) ∧ Exa Z h' h.size ad ∧ OvrA Z cA t C ∧ ∀ target, Steps p.tables e below (T'.setTop (mkF m (pc + 3) Ls (.ref h.size :: rest))) target → Steps p.tables e below (T.setTop (mkF m pc Ls (.int z :: rest))) target := by
  obtain ⟨q1, q2⟩ := own_idx hz
  obtain ⟨T', h', cA, X', e', E, A, EE, O, st⟩ := newRA X hx hZ hown hC w1 w2 eT (g := mkF m pc Ls (.int z :: rest)) rfl hd rfl q1 (cap := cap) (by rw [q2]; exact hcap) hb hc hl had
  exact ⟨T', h', cA, X', e', E, Oar.new A hz, EE, O, st⟩
theorem own_sto {y : Addr} {C : String} (F : Oar Z h a k ty vs) (O : Ovr Z k C) (I : Ins Z h y C true) : Sto Z h a (.ref y) := by
  obtain ⟨cl, A, q, -, -⟩ := F; exact Sto.ofV A q O I
theorem own_clone (X : Stand p l e R s m args below meth c T locs cells slots) (hx : p.tables.exec = Jvm.exec) (hZ : Z.Warmed39 s.vm) {a0 : Array Value} {own ad : String} {index : Nat} (hown : s.vm.findClass own = some m.cls)
    (w1 : (Jvm.Cond.methodLink own index ⟨ad, "clone", "()Ljava/lang/Object;"⟩).before a0 Z = true) (w2 : (Jvm.Cond.sameMethod ad "java/lang/Object" "clone" "()Ljava/lang/Object;").before a0 Z = true) (w3 : (Jvm.Cond.native ⟨"java/lang/Object", "clone", "()Ljava/lang/Object;"⟩).before a0 Z = true)
    (w4 : (Jvm.Cond.instanceMethod ⟨"java/lang/Object", "clone", "()Ljava/lang/Object;"⟩).before a0 Z = true) (w5 : (Jvm.Cond.selects ad ⟨ad, "clone", "()Ljava/lang/Object;"⟩ ⟨"java/lang/Object", "clone", "()Ljava/lang/Object;"⟩).before a0 Z = true) (w6 : (Jvm.Cond.castable ad "java/lang/Cloneable").before a0 Z = true)
    (eT : T.heap = h) (F : Oar Z h a k ty vs) (hv : ∀ v ∈ vs, fits ty v = true) (E : Exa Z h a ad) {g : JFrame} (hg : g.method = m) (hsize : g.locals.size = c.maxLocals) {rest : List Value} (hs : g.stack = .ref a :: rest) (hd : decode c.code g.pc = .ok (.invokevirtual index, 3))
    (hf : 1 ≤ R.frames) {W cap : Nat} (hW : 2 * g.monitorRoom + (rest.map fun v => v.category).sum ≤ W) (hl : W + 14 ≤ R.locals) (hcap : vs.length ≤ cap) (hc : cells + 1 ≤ R.cells) (hsl : slots + cap ≤ R.slots) :
    ∃ T' h', Stand p l e R s m args below meth c T' locs (cells + 1) (slots + cap) ∧ T'.heap = h' ∧ Ext h h' ∧ Oar Z h' h.size k ty vs ∧ Exa Z h' h.size ad ∧
      ∀ target, Steps p.tables e below (T'.setTop { g with pc := g.pc + 3, stack := .ref h.size :: rest }) target → Steps p.tables e below (T.setTop g) target := by
  obtain ⟨cl, A, q1, q2, q3⟩ := F
  have FC : FitC Z cl := fitC_of A fun i hi v hv' => hv v (by
    rw [q2] at hv'
    exact List.mem_of_getElem? (i := i) (by simpa using hv'))
  obtain ⟨T', h', X', e', ex, A', E', st⟩ := cloneA X hx hZ hown w1 w2 w3 w4 w5 w6 eT A E FC hg hsize hs hd hf hW hl (cap := cap) (by rw [q2]; simpa using hcap) hc hsl
  exact ⟨T', h', X', e', ex, ⟨cloneOf cl, A', q1, q2, q3⟩, E', st⟩
end OwnArr
theorem own_iteH {α : Sort _} {P : α → Prop} {c : Prop} [Decidable c] {a b : α} (ha : c → P a) (hb : ¬ c → P b) : P (if c then a else b) := by
  split
  · rename_i q; exact ha q
  · rename_i q; exact hb q
theorem own_narR {t : FieldType} {v : Value} (h : v.isRef = true) : narrow t v = v := by
  rcases ref_cases h with rfl | ⟨y, rfl⟩ <;> cases t <;> rfl
/-- a private method is selected by its own class, where the sheet bears no such word -/
theorem own_selP {Z s : State} {a0 args : Array Value} {y : MethodName} {n : Nat} (hZ : Z.Warmed39 s.vm) (wi : (Jvm.Cond.instantiable y.cls n).before a0 Z = true) (wp : (Jvm.Cond.privateMethod y).before a0 Z = true) (wm : (Jvm.Cond.instanceMethod y).before a0 Z = true) (hy : y.cls ≠ "java/lang/invoke/MethodHandle" ∧ y.cls ≠ "java/lang/invoke/VarHandle") : (Jvm.Cond.selects y.cls y y).before args s = true := by
  obtain ⟨c, k, h1, h2, -, h4, -⟩ := Cond.instantiable_spec (mv (args := args) hZ wi)
  exact Stand.selects_self_of_private h1 h2 (by cases hk : k.isInterface <;> simp_all) (Cond.privateMethod_at (mvP hZ wp (args := args))) (mv hZ wm) hy
end Jvm.RoadKit
namespace Jvm.Pilot.@@N@@
open Jvm Jvm.ClassFile Sem Op Lib Jvm.Free Jvm.Stand Jvm.LawKit Jvm.RoadKit Bundle Jvm.Pilot.@@N@@.Jvm.D
theorem d1_0 : decode method_2_code 0 = .ok (.iload_n 0, 1) := by decide +kernel
theorem d1_1 : decode method_2_code 1 = .ok (.ifCond .ne 7, 3) := by decide +kernel
theorem d1_4 : decode method_2_code 4 = .ok (.getstatic 7, 3) := by decide +kernel
theorem d1_7 : decode method_2_code 7 = .ok (.areturn, 1) := by decide +kernel
theorem d1_8 : decode method_2_code 8 = .ok (.iload_n 0, 1) := by decide +kernel
theorem d1_9 : decode method_2_code 9 = .ok (.iconst 1, 1) := by decide +kernel
theorem d1_10 : decode method_2_code 10 = .ok (.if_icmp .ne 7, 3) := by decide +kernel
theorem d1_13 : decode method_2_code 13 = .ok (.getstatic 13, 3) := by decide +kernel
theorem d1_16 : decode method_2_code 16 = .ok (.areturn, 1) := by decide +kernel
theorem d1_17 : decode method_2_code 17 = .ok (.getstatic 16, 3) := by decide +kernel
theorem d1_20 : decode method_2_code 20 = .ok (.areturn, 1) := by decide +kernel
theorem pn_com_example_doubt3_doubt3_core_expr_TypeAcceptsPinLaw : plainName "com/example/doubt3/doubt3/core/expr/TypeAcceptsPinLaw" = true := by first | (simp [plainName, overriddenIn]; done) | decide +kernel
theorem d2_0 : decode prog_17_method_6_code 0 = .ok (.aload_n 1, 1) := by decide +kernel
theorem d2_1 : decode prog_17_method_6_code 1 = .ok (.aload_n 0, 1) := by decide +kernel
theorem d2_2 : decode prog_17_method_6_code 2 = .ok (.if_acmp .eq 17, 3) := by decide +kernel
theorem d2_19 : decode prog_17_method_6_code 19 = .ok (.iconst 1, 1) := by decide +kernel
theorem d2_20 : decode prog_17_method_6_code 20 = .ok (.goto 4, 3) := by decide +kernel
theorem d2_24 : decode prog_17_method_6_code 24 = .ok (.ireturn, 1) := by decide +kernel
theorem d2_5 : decode prog_17_method_6_code 5 = .ok (.aload_n 0, 1) := by decide +kernel
theorem d2_6 : decode prog_17_method_6_code 6 = .ok (.getstatic 10, 3) := by decide +kernel
theorem d2_9 : decode prog_17_method_6_code 9 = .ok (.if_acmp .ne 14, 3) := by decide +kernel
theorem d2_12 : decode prog_17_method_6_code 12 = .ok (.aload_n 1, 1) := by decide +kernel
theorem d2_13 : decode prog_17_method_6_code 13 = .ok (.getstatic 7, 3) := by decide +kernel
theorem d2_16 : decode prog_17_method_6_code 16 = .ok (.if_acmp .ne 7, 3) := by decide +kernel
theorem d2_23 : decode prog_17_method_6_code 23 = .ok (.iconst 0, 1) := by decide +kernel
theorem pn_com_example_doubt3_doubt3_core_expr_Type : plainName "com/example/doubt3/doubt3/core/expr/Type" = true := by first | (simp [plainName, overriddenIn]; done) | decide +kernel
theorem pd_0 : parseMethodDescriptor "(I)Lcom/example/doubt3/doubt3/core/expr/Type;" = some ⟨[.int], some (.object "com/example/doubt3/doubt3/core/expr/Type")⟩ := by decide +kernel
theorem pd_1 : parseMethodDescriptor "(Lcom/example/doubt3/doubt3/core/expr/Type;)Z" = some ⟨[(.object "com/example/doubt3/doubt3/core/expr/Type")], some .boolean⟩ := by decide +kernel
theorem ef_rm1 (m : MethodId) (p0 : Int32) : entryFrame m #[(.int p0)] 1 = mkF m 0 #[.val (.int p0)] [] := by first | (simp [entryFrame, mkF, argsToLocals, Value.category]; done) | rfl
def F1 (p0 : Int32) (w_BOOL : Addr) (w_INT : Addr) (w_DOUBLE : Addr) : Addr := if p0 = (0 : Int32) then w_BOOL else (if p0 = (1 : Int32) then w_INT else w_DOUBLE)
def Q1 (p0 : Int32) (w_BOOL : Addr) (w_INT : Addr) (w_DOUBLE : Addr) (h0 : Heap) (n0 : Nat) (v : Option Value) (h : Heap) (L : List Loc) : Prop := v = some (Value.ref (F1 p0 w_BOOL w_INT w_DOUBLE)) ∧ Fr n0 L ∧ h = h0
set_option maxRecDepth 65536 in
set_option maxHeartbeats 40000000 in
theorem rm1 (l : Launch) (Z : State) (a0 : Array Value) (hw : ∀ d ∈ tables_1, d.before a0 Z = true) (ws : List Jvm.Cond) (p0 : Int32) (w_BOOL : Addr) (w_INT : Addr) (w_DOUBLE : Addr) (h0 : Heap) (n0 : Nat) (O0 : Old Z n0 h0) (S_BOOL : Sta Z Z.heap "com/example/doubt3/doubt3/core/expr/Type" "BOOL" "Lcom/example/doubt3/doubt3/core/expr/Type;" (.ref w_BOOL)) (S_INT : Sta Z Z.heap "com/example/doubt3/doubt3/core/expr/Type" "INT" "Lcom/example/doubt3/doubt3/core/expr/Type;" (.ref w_INT)) (S_DOUBLE : Sta Z Z.heap "com/example/doubt3/doubt3/core/expr/Type" "DOUBLE" "Lcom/example/doubt3/doubt3/core/expr/Type;" (.ref w_DOUBLE)) :
    MetFree l (⟨"com/example/doubt3/doubt3/core/expr/TypeAcceptsPinLaw", "pick", "(I)Lcom/example/doubt3/doubt3/core/expr/Type;"⟩ : MethodName) (head1 (Jvm.Cond.code (⟨"com/example/doubt3/doubt3/core/expr/TypeAcceptsPinLaw", "pick", "(I)Lcom/example/doubt3/doubt3/core/expr/Type;"⟩ : MethodName) method_2_code 1 (some (.object "com/example/doubt3/doubt3/core/expr/Type")) :: ws) ({ frames := 0, cells := 0, slots := 0, locals := 0 } : Room)) (fun a U => a = #[(.int p0)] ∧ Z.Warmed39 U.vm ∧ U.heap = h0) (fun _ _ _ _ _ => True) (fun _ U o U' => ∃ v L, o = .returned v ∧ Q1 p0 w_BOOL w_INT w_DOUBLE h0 n0 v U'.heap L ∧ FrameEnd U o U' L ({ frames := 0, cells := 0, slots := 0, locals := 0 } : Room).cells ({ frames := 0, cells := 0, slots := 0, locals := 0 } : Room).slots) := by
  refine MetFree.of_bodySF (plainFor_of_name pn_com_example_doubt3_doubt3_core_expr_TypeAcceptsPinLaw) hisR ?_
  intro p e s m args below meth c s₁ Bd hml0 hP hK
  obtain ⟨rfl, hZ, hh⟩ := hP
  have hx := Bd.exec
  have hby := Bd.bytes
  have hml : c.maxLocals = 1 := hml0
  have hown : s.vm.findClass "com/example/doubt3/doubt3/core/expr/TypeAcceptsPinLaw" = some m.cls := findClass_of_methodNamed Bd.named
  have hnm := (name_of_methodNamed Bd.named Bd.method).1
  have X0 : Stand p l e ({ frames := 0, cells := 0, slots := 0, locals := 0 } : Room) s m #[(.int p0)] below meth c s₁ [] 0 0 := Stand.of_body Bd
  have e0 : s₁.heap = h0 := by rw [← hh, Bd.state]; rfl
  have N0 := Fr.nil n0
  show OFin p e below (fun o t L => FrameEnd s o t L ({ frames := 0, cells := 0, slots := 0, locals := 0 } : Room).cells ({ frames := 0, cells := 0, slots := 0, locals := 0 } : Room).slots) (fun v h L => Q1 p0 w_BOOL w_INT w_DOUBLE h0 n0 v h L) s₁ (entryFrame m #[(.int p0)] 1)
  refine OFin.cast (ef_rm1 m p0) ?_
  show OFin p e below _ _ s₁ (mkF m 0 #[.val (.int p0)] [])
  refine OFin.st (fun t k => XS.iloadN X0.here hx rfl (hb hby d1_0) rfl k) ?_
  show OFin p e below _ _ s₁ (mkF m 1 #[.val (.int p0)] [(.int p0)])
  by_cases hc1 : p0 = (0 : Int32)
  · refine OFin.st (fun t k => XS.ifNo X0.here hx rfl (hb hby d1_1) rfl ((if0 _ _).trans (teq hc1).2) k) ?_
    show OFin p e below _ _ s₁ (mkF m 4 #[.val (.int p0)] [])
    obtain ⟨T1, X1, e1, st1⟩ := getS2 X0 hx hZ hown (host := "") (Or.inl (hw _ (List.mem_of_getElem? (i := 5) rfl))) Via.refl e0 (S_BOOL.ext O0.2) (g := (mkF m 4 #[.val (.int p0)] [])) rfl (hb hby d1_4)
    refine OFin.st st1 ?_
    show OFin p e below _ _ T1 (mkF m 7 #[.val (.int p0)] [(.ref w_BOOL)])
    exact own_retR X1 hx Bd.returns Bd.notSynchronized rfl rfl rfl (hb hby d1_7) ⟨(by rw [F1, if_pos hc1]; try rfl), N0, e1⟩ (own_endN (by decide) (by decide))
  · refine OFin.st (fun t k => XS.ifYes X0.here hx rfl (pc0 := 1) (pc' := 8) rfl (hb hby d1_1) rfl ((if0 _ _).trans (feq hc1).2) (by decide) (by decide) k) ?_
    show OFin p e below _ _ s₁ (mkF m 8 #[.val (.int p0)] [])
    refine OFin.st (fun t k => XS.iloadN X0.here hx rfl (hb hby d1_8) rfl k) ?_
    show OFin p e below _ _ s₁ (mkF m 9 #[.val (.int p0)] [(.int p0)])
    refine OFin.st (fun t k => XS.iconst X0.here hx rfl (hb hby d1_9) k) ?_
    show OFin p e below _ _ s₁ (mkF m 10 #[.val (.int p0)] [(.int (1 : Int32)), (.int p0)])
    by_cases hc10 : p0 = (1 : Int32)
    · refine OFin.st (fun t k => XS.icmpNo X0.here hx rfl (hb hby d1_10) rfl (teq hc10).2 k) ?_
      show OFin p e below _ _ s₁ (mkF m 13 #[.val (.int p0)] [])
      obtain ⟨T2, X2, e2, st2⟩ := getS2 X0 hx hZ hown (host := "") (Or.inl (hw _ (List.mem_of_getElem? (i := 16) rfl))) Via.refl e0 (S_INT.ext O0.2) (g := (mkF m 13 #[.val (.int p0)] [])) rfl (hb hby d1_13)
      refine OFin.st st2 ?_
      show OFin p e below _ _ T2 (mkF m 16 #[.val (.int p0)] [(.ref w_INT)])
      exact own_retR X2 hx Bd.returns Bd.notSynchronized rfl rfl rfl (hb hby d1_16) ⟨(by rw [F1, if_neg hc1, if_pos hc10]; try rfl), N0, e2⟩ (own_endN (by decide) (by decide))
    · refine OFin.st (fun t k => XS.icmpYes X0.here hx rfl (pc0 := 10) (pc' := 17) rfl (hb hby d1_10) rfl (feq hc10).2 (by decide) (by decide) k) ?_
      show OFin p e below _ _ s₁ (mkF m 17 #[.val (.int p0)] [])
      obtain ⟨T3, X3, e3, st3⟩ := getS2 X0 hx hZ hown (host := "") (Or.inl (hw _ (List.mem_of_getElem? (i := 14) rfl))) Via.refl e0 (S_DOUBLE.ext O0.2) (g := (mkF m 17 #[.val (.int p0)] [])) rfl (hb hby d1_17)
      refine OFin.st st3 ?_
      show OFin p e below _ _ T3 (mkF m 20 #[.val (.int p0)] [(.ref w_DOUBLE)])
      exact own_retR X3 hx Bd.returns Bd.notSynchronized rfl rfl rfl (hb hby d1_20) ⟨(by rw [F1, if_neg hc1, if_neg hc10]; try rfl), N0, e3⟩ (own_endN (by decide) (by decide))
theorem ef_rm2 (m : MethodId) (r0 : Addr) (r1 : Addr) : entryFrame m #[(.ref r0), (.ref r1)] 2 = mkF m 0 #[.val (.ref r0), .val (.ref r1)] [] := by first | (simp [entryFrame, mkF, argsToLocals, Value.category]; done) | rfl
def F2 (r0 : Addr) (r1 : Addr) (w_DOUBLE : Addr) (w_INT : Addr) : Int32 := if r1 = r0 then (1 : Int32) else (if r0 = w_DOUBLE then (if r1 = w_INT then (1 : Int32) else (0 : Int32)) else (0 : Int32))
def Q2 (r0 : Addr) (r1 : Addr) (w_DOUBLE : Addr) (w_INT : Addr) (h0 : Heap) (n0 : Nat) (v : Option Value) (h : Heap) (L : List Loc) : Prop := v = some (Value.int (F2 r0 r1 w_DOUBLE w_INT)) ∧ Fr n0 L ∧ h = h0
set_option maxRecDepth 65536 in
set_option maxHeartbeats 40000000 in
theorem rm2 (l : Launch) (Z : State) (a0 : Array Value) (hw : ∀ d ∈ tables_1, d.before a0 Z = true) (ws : List Jvm.Cond) (r0 : Addr) (r1 : Addr) (w_DOUBLE : Addr) (w_INT : Addr) (h0 : Heap) (n0 : Nat) (O0 : Old Z n0 h0) (S_DOUBLE : Sta Z Z.heap "com/example/doubt3/doubt3/core/expr/Type" "DOUBLE" "Lcom/example/doubt3/doubt3/core/expr/Type;" (.ref w_DOUBLE)) (S_INT : Sta Z Z.heap "com/example/doubt3/doubt3/core/expr/Type" "INT" "Lcom/example/doubt3/doubt3/core/expr/Type;" (.ref w_INT)) :
    MetFree l (⟨"com/example/doubt3/doubt3/core/expr/Type", "accepts", "(Lcom/example/doubt3/doubt3/core/expr/Type;)Z"⟩ : MethodName) (head1 (Jvm.Cond.code (⟨"com/example/doubt3/doubt3/core/expr/Type", "accepts", "(Lcom/example/doubt3/doubt3/core/expr/Type;)Z"⟩ : MethodName) prog_17_method_6_code 2 (some .boolean) :: ws) ({ frames := 0, cells := 0, slots := 0, locals := 0 } : Room)) (fun a U => a = #[(.ref r0), (.ref r1)] ∧ Z.Warmed39 U.vm ∧ U.heap = h0) (fun _ _ _ _ _ => True) (fun _ U o U' => ∃ v L, o = .returned v ∧ Q2 r0 r1 w_DOUBLE w_INT h0 n0 v U'.heap L ∧ FrameEnd U o U' L ({ frames := 0, cells := 0, slots := 0, locals := 0 } : Room).cells ({ frames := 0, cells := 0, slots := 0, locals := 0 } : Room).slots) := by
  refine MetFree.of_bodySF (plainFor_of_name pn_com_example_doubt3_doubt3_core_expr_Type) hisR ?_
  intro p e s m args below meth c s₁ Bd hml0 hP hK
  obtain ⟨rfl, hZ, hh⟩ := hP
  have hx := Bd.exec
  have hby := Bd.bytes
  have hml : c.maxLocals = 2 := hml0
  have hown : s.vm.findClass "com/example/doubt3/doubt3/core/expr/Type" = some m.cls := findClass_of_methodNamed Bd.named
  have hnm := (name_of_methodNamed Bd.named Bd.method).1
  have X0 : Stand p l e ({ frames := 0, cells := 0, slots := 0, locals := 0 } : Room) s m #[(.ref r0), (.ref r1)] below meth c s₁ [] 0 0 := Stand.of_body Bd
  have e0 : s₁.heap = h0 := by rw [← hh, Bd.state]; rfl
  have N0 := Fr.nil n0
  show OFin p e below (fun o t L => FrameEnd s o t L ({ frames := 0, cells := 0, slots := 0, locals := 0 } : Room).cells ({ frames := 0, cells := 0, slots := 0, locals := 0 } : Room).slots) (fun v h L => Q2 r0 r1 w_DOUBLE w_INT h0 n0 v h L) s₁ (entryFrame m #[(.ref r0), (.ref r1)] 2)
  refine OFin.cast (ef_rm2 m r0 r1) ?_
  show OFin p e below _ _ s₁ (mkF m 0 #[.val (.ref r0), .val (.ref r1)] [])
  refine OFin.st (fun t k => XS.aloadN X0.here hx rfl (hb hby d2_0) rfl rfl k) ?_
  show OFin p e below _ _ s₁ (mkF m 1 #[.val (.ref r0), .val (.ref r1)] [(.ref r1)])
  refine OFin.st (fun t k => XS.aloadN X0.here hx rfl (hb hby d2_1) rfl rfl k) ?_
  show OFin p e below _ _ s₁ (mkF m 2 #[.val (.ref r0), .val (.ref r1)] [(.ref r0), (.ref r1)])
  by_cases ha2 : r1 = r0
  · refine OFin.st (fun t k => Jvm.RoadKit.acmp (g := (mkF m 2 #[.val (.ref r0), .val (.ref r1)] [(.ref r0), (.ref r1)])) X0 hx rfl rfl rfl (pc0 := 2) (pc' := 19) (same := true) rfl (hb hby d2_2) rfl (decide_eq_true (congrArg Value.ref ha2)) (by decide) (by decide) k) ?_
    show OFin p e below _ _ s₁ (mkF m 19 #[.val (.ref r0), .val (.ref r1)] [])
    refine OFin.st (fun t k => XS.iconst X0.here hx rfl (hb hby d2_19) k) ?_
    show OFin p e below _ _ s₁ (mkF m 20 #[.val (.ref r0), .val (.ref r1)] [(.int (1 : Int32))])
    refine OFin.st (fun t k => XS.goto X0.here hx rfl (pc0 := 20) (pc' := 24) rfl (hb hby d2_20) (by decide) (by decide) k) ?_
    show OFin p e below _ _ s₁ (mkF m 24 #[.val (.ref r0), .val (.ref r1)] [(.int (1 : Int32))])
    exact own_retN X0 hx Bd.returns Bd.notSynchronized (t := .boolean) (by simp) rfl (hb hby d2_24) ⟨(by rw [F2, if_pos ha2]; try rfl), N0, e0⟩ (own_endN (by decide) (by decide))
  · refine OFin.st (fun t k => Jvm.RoadKit.acmp (g := (mkF m 2 #[.val (.ref r0), .val (.ref r1)] [(.ref r0), (.ref r1)])) X0 hx rfl rfl rfl (pc0 := 2) (pc' := 5) (same := false) rfl (hb hby d2_2) rfl (decide_eq_false fun q => ha2 (Value.ref.inj q)) (by decide) (by decide) k) ?_
    show OFin p e below _ _ s₁ (mkF m 5 #[.val (.ref r0), .val (.ref r1)] [])
    refine OFin.st (fun t k => XS.aloadN X0.here hx rfl (hb hby d2_5) rfl rfl k) ?_
    show OFin p e below _ _ s₁ (mkF m 6 #[.val (.ref r0), .val (.ref r1)] [(.ref r0)])
    obtain ⟨T1, X1, e1, st1⟩ := getS2 X0 hx hZ hown (host := "") (Or.inl (hw _ (List.mem_of_getElem? (i := 18) rfl))) Via.refl e0 (S_DOUBLE.ext O0.2) (g := (mkF m 6 #[.val (.ref r0), .val (.ref r1)] [(.ref r0)])) rfl (hb hby d2_6)
    refine OFin.st st1 ?_
    show OFin p e below _ _ T1 (mkF m 9 #[.val (.ref r0), .val (.ref r1)] [(.ref w_DOUBLE), (.ref r0)])
    by_cases ha9 : r0 = w_DOUBLE
    · refine OFin.st (fun t k => Jvm.RoadKit.acmp (g := (mkF m 9 #[.val (.ref r0), .val (.ref r1)] [(.ref w_DOUBLE), (.ref r0)])) X1 hx rfl rfl rfl (pc0 := 9) (pc' := 12) (same := true) rfl (hb hby d2_9) rfl (decide_eq_true (congrArg Value.ref ha9)) (by decide) (by decide) k) ?_
      show OFin p e below _ _ T1 (mkF m 12 #[.val (.ref r0), .val (.ref r1)] [])
      refine OFin.st (fun t k => XS.aloadN X1.here hx rfl (hb hby d2_12) rfl rfl k) ?_
      show OFin p e below _ _ T1 (mkF m 13 #[.val (.ref r0), .val (.ref r1)] [(.ref r1)])
      obtain ⟨T2, X2, e2, st2⟩ := getS2 X1 hx hZ hown (host := "") (Or.inl (hw _ (List.mem_of_getElem? (i := 19) rfl))) Via.refl e1 (S_INT.ext O0.2) (g := (mkF m 13 #[.val (.ref r0), .val (.ref r1)] [(.ref r1)])) rfl (hb hby d2_13)
      refine OFin.st st2 ?_
      show OFin p e below _ _ T2 (mkF m 16 #[.val (.ref r0), .val (.ref r1)] [(.ref w_INT), (.ref r1)])
      by_cases ha16 : r1 = w_INT
      · refine OFin.st (fun t k => Jvm.RoadKit.acmp (g := (mkF m 16 #[.val (.ref r0), .val (.ref r1)] [(.ref w_INT), (.ref r1)])) X2 hx rfl rfl rfl (pc0 := 16) (pc' := 19) (same := true) rfl (hb hby d2_16) rfl (decide_eq_true (congrArg Value.ref ha16)) (by decide) (by decide) k) ?_
        show OFin p e below _ _ T2 (mkF m 19 #[.val (.ref r0), .val (.ref r1)] [])
        refine OFin.st (fun t k => XS.iconst X2.here hx rfl (hb hby d2_19) k) ?_
        show OFin p e below _ _ T2 (mkF m 20 #[.val (.ref r0), .val (.ref r1)] [(.int (1 : Int32))])
        refine OFin.st (fun t k => XS.goto X2.here hx rfl (pc0 := 20) (pc' := 24) rfl (hb hby d2_20) (by decide) (by decide) k) ?_
        show OFin p e below _ _ T2 (mkF m 24 #[.val (.ref r0), .val (.ref r1)] [(.int (1 : Int32))])
        exact own_retN X2 hx Bd.returns Bd.notSynchronized (t := .boolean) (by simp) rfl (hb hby d2_24) ⟨(by rw [F2, if_neg ha2, if_pos ha9, if_pos ha16]; try rfl), N0, e2⟩ (own_endN (by decide) (by decide))
      · refine OFin.st (fun t k => Jvm.RoadKit.acmp (g := (mkF m 16 #[.val (.ref r0), .val (.ref r1)] [(.ref w_INT), (.ref r1)])) X2 hx rfl rfl rfl (pc0 := 16) (pc' := 23) (same := false) rfl (hb hby d2_16) rfl (decide_eq_false fun q => ha16 (Value.ref.inj q)) (by decide) (by decide) k) ?_
        show OFin p e below _ _ T2 (mkF m 23 #[.val (.ref r0), .val (.ref r1)] [])
        refine OFin.st (fun t k => XS.iconst X2.here hx rfl (hb hby d2_23) k) ?_
        show OFin p e below _ _ T2 (mkF m 24 #[.val (.ref r0), .val (.ref r1)] [(.int (0 : Int32))])
        exact own_retN X2 hx Bd.returns Bd.notSynchronized (t := .boolean) (by simp) rfl (hb hby d2_24) ⟨(by rw [F2, if_neg ha2, if_pos ha9, if_neg ha16]; try rfl), N0, e2⟩ (own_endN (by decide) (by decide))
    · refine OFin.st (fun t k => Jvm.RoadKit.acmp (g := (mkF m 9 #[.val (.ref r0), .val (.ref r1)] [(.ref w_DOUBLE), (.ref r0)])) X1 hx rfl rfl rfl (pc0 := 9) (pc' := 23) (same := false) rfl (hb hby d2_9) rfl (decide_eq_false fun q => ha9 (Value.ref.inj q)) (by decide) (by decide) k) ?_
      show OFin p e below _ _ T1 (mkF m 23 #[.val (.ref r0), .val (.ref r1)] [])
      refine OFin.st (fun t k => XS.iconst X1.here hx rfl (hb hby d2_23) k) ?_
      show OFin p e below _ _ T1 (mkF m 24 #[.val (.ref r0), .val (.ref r1)] [(.int (0 : Int32))])
      exact own_retN X1 hx Bd.returns Bd.notSynchronized (t := .boolean) (by simp) rfl (hb hby d2_24) ⟨(by rw [F2, if_neg ha2, if_neg ha9]; try rfl), N0, e1⟩ (own_endN (by decide) (by decide))
theorem own_F1 {P : Addr → Prop} (p0 : Int32) (w_BOOL : Addr) (w_INT : Addr) (w_DOUBLE : Addr) (h0 : P w_BOOL) (h1 : P w_INT) (h2 : P w_DOUBLE) : P (F1 p0 w_BOOL w_INT w_DOUBLE) := own_ite (P := P) h0 (own_ite (P := P) h1 h2)
def Tb (a b : Int32) : Int32 := if a = b then 1 else (if a = 2 then (if b = 1 then 1 else 0) else 0)
def Ti (a b : Int32) : Nat := ((a * (3 : Int32)) + b).toInt.toNat
theorem own_c3 (k : Int32) (h : 0 ≤ k.toInt ∧ k.toInt < 3) : k = 0 ∨ k = 1 ∨ k = 2 := by
  simp only [← Int32.toInt_inj]
  have e : (0 : Int32).toInt = 0 ∧ (1 : Int32).toInt = 1 ∧ (2 : Int32).toInt = 2 := by decide
  omega
theorem own_k3 (x : Int32) : (x &&& (2147483647 : Int32)) % (3 : Int32) = 0 ∨ (x &&& (2147483647 : Int32)) % (3 : Int32) = 1 ∨ (x &&& (2147483647 : Int32)) % (3 : Int32) = 2 := own_c3 _ (own_rem x 3 3 (by decide) (by decide))
theorem own_tab (a b : Int32) (ha : a = 0 ∨ a = 1 ∨ a = 2) (hb : b = 0 ∨ b = 1 ∨ b = 2) : ((a * (3 : Int32)) + b).toInt = (Ti a b : Int) ∧ ([(.int (1 : Int32)), (.int (0 : Int32)), (.int (0 : Int32)), (.int (0 : Int32)), (.int (1 : Int32)), (.int (0 : Int32)), (.int (0 : Int32)), (.int (1 : Int32)), (.int (1 : Int32))] : List Value)[Ti a b]? = some (.int (Tb a b)) := by
  rcases ha with rfl | rfl | rfl <;> rcases hb with rfl | rfl | rfl <;> exact ⟨by decide, rfl⟩
theorem own_eq (a b : Int32) (ha : a = 0 ∨ a = 1 ∨ a = 2) (hb : b = 0 ∨ b = 1 ∨ b = 2) (w_BOOL : Addr) (w_INT : Addr) (w_DOUBLE : Addr) (h01 : w_BOOL ≠ w_INT) (h02 : w_BOOL ≠ w_DOUBLE) (h12 : w_INT ≠ w_DOUBLE) : F2 (F1 a w_BOOL w_INT w_DOUBLE) (F1 b w_BOOL w_INT w_DOUBLE) w_DOUBLE w_INT = Tb a b := by
  rcases ha with rfl | rfl | rfl <;> rcases hb with rfl | rfl | rfl <;> simp [F1, F2, Tb, h01, h02, h12, h01.symm, h02.symm, h12.symm]
theorem ef_rm0 (m : MethodId) (p0 : Int32) (p1 : Int32) : entryFrame m #[(.int p0), (.int p1)] maxLocals = mkF m 0 #[.val (.int p0), .val (.int p1), .unset, .unset, .unset, .unset, .unset, .unset] [] := by first | (simp [entryFrame, mkF, argsToLocals, Value.category, maxLocals]; done) | rfl
def Qrm0 (Z : State) (p0 : Int32) (p1 : Int32) (w_BOOL : Addr) (w_INT : Addr) (w_DOUBLE : Addr) (h0 : Heap) (n0 : Nat) (v : Option Value) (h : Heap) (L : List Loc) : Prop := v = some (Value.int (1 : Int32)) ∧ Fr n0 L ∧ Keep h0 h []
set_option maxRecDepth 65536 in
set_option maxHeartbeats 40000000 in
theorem rm0 (l : Launch) (Z : State) (a0 : Array Value) (hw : ∀ d ∈ tables_1, d.before a0 Z = true) (ws : List Jvm.Cond) (p0 : Int32) (p1 : Int32) (w_BOOL : Addr) (w_INT : Addr) (w_DOUBLE : Addr) (h0 : Heap) (n0 : Nat) (O0 : Old Z n0 h0) (N_w_BOOL_w_INT : w_BOOL ≠ w_INT) (N_w_BOOL_w_DOUBLE : w_BOOL ≠ w_DOUBLE) (N_w_INT_w_DOUBLE : w_INT ≠ w_DOUBLE) (E_w_BOOL : Exa Z h0 w_BOOL "com/example/doubt3/doubt3/core/expr/Type") (E_w_INT : Exa Z h0 w_INT "com/example/doubt3/doubt3/core/expr/Type") (E_w_DOUBLE : Exa Z h0 w_DOUBLE "com/example/doubt3/doubt3/core/expr/Type") (S_BOOL : Sta Z Z.heap "com/example/doubt3/doubt3/core/expr/Type" "BOOL" "Lcom/example/doubt3/doubt3/core/expr/Type;" (.ref w_BOOL)) (S_INT : Sta Z Z.heap "com/example/doubt3/doubt3/core/expr/Type" "INT" "Lcom/example/doubt3/doubt3/core/expr/Type;" (.ref w_INT)) (S_DOUBLE : Sta Z Z.heap "com/example/doubt3/doubt3/core/expr/Type" "DOUBLE" "Lcom/example/doubt3/doubt3/core/expr/Type;" (.ref w_DOUBLE)) :
    MetFree l x (head1 (Jvm.Cond.code x code maxLocals ret :: ws) room_1) (fun a U => a = #[(.int p0), (.int p1)] ∧ Z.Warmed39 U.vm ∧ U.heap = h0) (fun _ _ _ _ _ => True) (fun _ U o U' => ∃ v L, o = .returned v ∧ Qrm0 Z p0 p1 w_BOOL w_INT w_DOUBLE h0 n0 v U'.heap L ∧ FrameEnd U o U' L room_1.cells room_1.slots) := by
  refine MetFree.of_bodySF (plainFor_of_name pn_com_example_doubt3_doubt3_core_expr_TypeAcceptsPinLaw) hisR ?_
  intro p e s m args below meth c s₁ Bd hml0 hP hK
  obtain ⟨rfl, hZ, hh⟩ := hP
  have hx := Bd.exec
  have hby := Bd.bytes
  have hml : c.maxLocals = 8 := hml0
  have hown : s.vm.findClass "com/example/doubt3/doubt3/core/expr/TypeAcceptsPinLaw" = some m.cls := findClass_of_methodNamed Bd.named
  have hnm := (name_of_methodNamed Bd.named Bd.method).1
  have X0 : Stand p l e room_1 s m #[(.int p0), (.int p1)] below meth c s₁ [] 0 0 := Stand.of_body Bd
  have e0 : s₁.heap = h0 := by rw [← hh, Bd.state]; rfl
  have N0 := Fr.nil n0
  show OFin p e below (fun o t L => FrameEnd s o t L room_1.cells room_1.slots) (fun v h L => Qrm0 Z p0 p1 w_BOOL w_INT w_DOUBLE h0 n0 v h L) s₁ (entryFrame m #[(.int p0), (.int p1)] maxLocals)
  refine OFin.cast (ef_rm0 m p0 p1) ?_
  show OFin p e below _ _ s₁ (mkF m 0 #[.val (.int p0), .val (.int p1), .unset, .unset, .unset, .unset, .unset, .unset] [])
  refine OFin.st (fun t k => XS.iloadN X0.here hx rfl (hb hby at_0) rfl k) ?_
  show OFin p e below _ _ s₁ (mkF m 1 #[.val (.int p0), .val (.int p1), .unset, .unset, .unset, .unset, .unset, .unset] [(.int p0)])
  refine OFin.st (X0.ldcInt hx hown (mvT hZ (hw _ (List.mem_of_getElem? (i := 0) rfl))) (g := (mkF m 1 #[.val (.int p0), .val (.int p1), .unset, .unset, .unset, .unset, .unset, .unset] [(.int p0)])) rfl (hb hby at_1)) ?_
  show OFin p e below _ _ s₁ (mkF m 3 #[.val (.int p0), .val (.int p1), .unset, .unset, .unset, .unset, .unset, .unset] [(.int (2147483647 : Int32)), (.int p0)])
  refine OFin.st (fun t k => XS.iand X0.here hx rfl (hb hby at_3) rfl k) ?_
  show OFin p e below _ _ s₁ (mkF m 4 #[.val (.int p0), .val (.int p1), .unset, .unset, .unset, .unset, .unset, .unset] [(.int (p0 &&& (2147483647 : Int32)))])
  refine OFin.st (fun t k => XS.iconst X0.here hx rfl (hb hby at_4) k) ?_
  show OFin p e below _ _ s₁ (mkF m 5 #[.val (.int p0), .val (.int p1), .unset, .unset, .unset, .unset, .unset, .unset] [(.int (3 : Int32)), (.int (p0 &&& (2147483647 : Int32)))])
  refine OFin.st (fun t k => iremM X0 hx rfl (hb hby at_5) rfl (by decide) k) ?_
  show OFin p e below _ _ s₁ (mkF m 6 #[.val (.int p0), .val (.int p1), .unset, .unset, .unset, .unset, .unset, .unset] [(.int ((p0 &&& (2147483647 : Int32)) % (3 : Int32)))])
  refine OFin.st (fun t k => XS.istoreN X0.here hx rfl (hb hby at_6) rfl (l' := #[.val (.int p0), .val (.int p1), .val (.int ((p0 &&& (2147483647 : Int32)) % (3 : Int32))), .unset, .unset, .unset, .unset, .unset]) rfl k) ?_
  show OFin p e below _ _ s₁ (mkF m 7 #[.val (.int p0), .val (.int p1), .val (.int ((p0 &&& (2147483647 : Int32)) % (3 : Int32))), .unset, .unset, .unset, .unset, .unset] [])
  refine OFin.st (fun t k => XS.iloadN X0.here hx rfl (hb hby at_7) rfl k) ?_
  show OFin p e below _ _ s₁ (mkF m 8 #[.val (.int p0), .val (.int p1), .val (.int ((p0 &&& (2147483647 : Int32)) % (3 : Int32))), .unset, .unset, .unset, .unset, .unset] [(.int p1)])
  refine OFin.st (X0.ldcInt hx hown (mvT hZ (hw _ (List.mem_of_getElem? (i := 0) rfl))) (g := (mkF m 8 #[.val (.int p0), .val (.int p1), .val (.int ((p0 &&& (2147483647 : Int32)) % (3 : Int32))), .unset, .unset, .unset, .unset, .unset] [(.int p1)])) rfl (hb hby at_8)) ?_
  show OFin p e below _ _ s₁ (mkF m 10 #[.val (.int p0), .val (.int p1), .val (.int ((p0 &&& (2147483647 : Int32)) % (3 : Int32))), .unset, .unset, .unset, .unset, .unset] [(.int (2147483647 : Int32)), (.int p1)])
  refine OFin.st (fun t k => XS.iand X0.here hx rfl (hb hby at_10) rfl k) ?_
  show OFin p e below _ _ s₁ (mkF m 11 #[.val (.int p0), .val (.int p1), .val (.int ((p0 &&& (2147483647 : Int32)) % (3 : Int32))), .unset, .unset, .unset, .unset, .unset] [(.int (p1 &&& (2147483647 : Int32)))])
  refine OFin.st (fun t k => XS.iconst X0.here hx rfl (hb hby at_11) k) ?_
  show OFin p e below _ _ s₁ (mkF m 12 #[.val (.int p0), .val (.int p1), .val (.int ((p0 &&& (2147483647 : Int32)) % (3 : Int32))), .unset, .unset, .unset, .unset, .unset] [(.int (3 : Int32)), (.int (p1 &&& (2147483647 : Int32)))])
  refine OFin.st (fun t k => iremM X0 hx rfl (hb hby at_12) rfl (by decide) k) ?_
  show OFin p e below _ _ s₁ (mkF m 13 #[.val (.int p0), .val (.int p1), .val (.int ((p0 &&& (2147483647 : Int32)) % (3 : Int32))), .unset, .unset, .unset, .unset, .unset] [(.int ((p1 &&& (2147483647 : Int32)) % (3 : Int32)))])
  refine OFin.st (fun t k => XS.istoreN X0.here hx rfl (hb hby at_13) rfl (l' := #[.val (.int p0), .val (.int p1), .val (.int ((p0 &&& (2147483647 : Int32)) % (3 : Int32))), .val (.int ((p1 &&& (2147483647 : Int32)) % (3 : Int32))), .unset, .unset, .unset, .unset]) rfl k) ?_
  show OFin p e below _ _ s₁ (mkF m 14 #[.val (.int p0), .val (.int p1), .val (.int ((p0 &&& (2147483647 : Int32)) % (3 : Int32))), .val (.int ((p1 &&& (2147483647 : Int32)) % (3 : Int32))), .unset, .unset, .unset, .unset] [])
  refine OFin.st (fun t k => XS.iloadN X0.here hx rfl (hb hby at_14) rfl k) ?_
  show OFin p e below _ _ s₁ (mkF m 15 #[.val (.int p0), .val (.int p1), .val (.int ((p0 &&& (2147483647 : Int32)) % (3 : Int32))), .val (.int ((p1 &&& (2147483647 : Int32)) % (3 : Int32))), .unset, .unset, .unset, .unset] [(.int ((p0 &&& (2147483647 : Int32)) % (3 : Int32)))])
  obtain ⟨_, _, ⟨T1, L1, k1, n1⟩, -, X1, ⟨Lc1, hQ1, l1, y1, z1⟩, st1⟩ := Jvm.LawKit.callS X0 hx (y := (⟨"com/example/doubt3/doubt3/core/expr/TypeAcceptsPinLaw", "pick", "(I)Lcom/example/doubt3/doubt3/core/expr/Type;"⟩ : MethodName)) hown (mvT hZ (hw _ (List.mem_of_getElem? (i := 1) rfl))) (mvT hZ (hw _ (List.mem_of_getElem? (i := 2) rfl))) (mvT hZ (hw _ (List.mem_of_getElem? (i := 3) rfl))) (mvT hZ (hw _ (List.mem_of_getElem? (i := 4) rfl))) (by decide) (backOf (W := 0) (rm1 l Z a0 hw [] ((p0 &&& (2147483647 : Int32)) % (3 : Int32)) w_BOOL w_INT w_DOUBLE h0 n0 O0 S_BOOL S_INT S_DOUBLE) hZ (hw _ (List.mem_of_getElem? (i := 4) rfl)) (hw _ (List.mem_of_getElem? (i := 3) rfl)) (by decide) (by decide)) (g := (mkF m 15 #[.val (.int p0), .val (.int p1), .val (.int ((p0 &&& (2147483647 : Int32)) % (3 : Int32))), .val (.int ((p1 &&& (2147483647 : Int32)) % (3 : Int32))), .unset, .unset, .unset, .unset] [(.int ((p0 &&& (2147483647 : Int32)) % (3 : Int32)))])) rfl (by rw [hml]; rfl) (argsL := [(.int ((p0 &&& (2147483647 : Int32)) % (3 : Int32)))]) (rest := []) (lenOf pd_0 rfl) rfl (by show 2 * 0 + _ ≤ _; exact Nat.le_of_eq rfl) (hb hby at_15) (fun _ _ => ⟨rfl, e0, (by decide : 0 + 0 ≤ _), (by decide : 0 + 0 ≤ _)⟩)
  dsimp only [Pt.U, Pt.locs, Pt.cells, Pt.slots] at X1 l1 y1 z1 st1 hQ1
  subst l1 y1 z1
  obtain ⟨rfl, N1q, e1⟩ := hQ1
  have N1 := Fr.app N0 N1q
  refine OFin.st st1 ?_
  show OFin p e below _ _ T1 (mkF m 18 #[.val (.int p0), .val (.int p1), .val (.int ((p0 &&& (2147483647 : Int32)) % (3 : Int32))), .val (.int ((p1 &&& (2147483647 : Int32)) % (3 : Int32))), .unset, .unset, .unset, .unset] [(.ref (F1 ((p0 &&& (2147483647 : Int32)) % (3 : Int32)) w_BOOL w_INT w_DOUBLE))])
  refine OFin.st (fun t k => XS.astore X1.here hx rfl (hb hby at_18) rfl rfl (l' := #[.val (.int p0), .val (.int p1), .val (.int ((p0 &&& (2147483647 : Int32)) % (3 : Int32))), .val (.int ((p1 &&& (2147483647 : Int32)) % (3 : Int32))), .val (.ref (F1 ((p0 &&& (2147483647 : Int32)) % (3 : Int32)) w_BOOL w_INT w_DOUBLE)), .unset, .unset, .unset]) rfl k) ?_
  show OFin p e below _ _ T1 (mkF m 20 #[.val (.int p0), .val (.int p1), .val (.int ((p0 &&& (2147483647 : Int32)) % (3 : Int32))), .val (.int ((p1 &&& (2147483647 : Int32)) % (3 : Int32))), .val (.ref (F1 ((p0 &&& (2147483647 : Int32)) % (3 : Int32)) w_BOOL w_INT w_DOUBLE)), .unset, .unset, .unset] [])
  refine OFin.st (fun t k => XS.iloadN X1.here hx rfl (hb hby at_20) rfl k) ?_
  show OFin p e below _ _ T1 (mkF m 21 #[.val (.int p0), .val (.int p1), .val (.int ((p0 &&& (2147483647 : Int32)) % (3 : Int32))), .val (.int ((p1 &&& (2147483647 : Int32)) % (3 : Int32))), .val (.ref (F1 ((p0 &&& (2147483647 : Int32)) % (3 : Int32)) w_BOOL w_INT w_DOUBLE)), .unset, .unset, .unset] [(.int ((p1 &&& (2147483647 : Int32)) % (3 : Int32)))])
  obtain ⟨_, _, ⟨T2, L2, k2, n2⟩, -, X2, ⟨Lc2, hQ2, l2, y2, z2⟩, st2⟩ := Jvm.LawKit.callS X1 hx (y := (⟨"com/example/doubt3/doubt3/core/expr/TypeAcceptsPinLaw", "pick", "(I)Lcom/example/doubt3/doubt3/core/expr/Type;"⟩ : MethodName)) hown (mvT hZ (hw _ (List.mem_of_getElem? (i := 1) rfl))) (mvT hZ (hw _ (List.mem_of_getElem? (i := 2) rfl))) (mvT hZ (hw _ (List.mem_of_getElem? (i := 3) rfl))) (mvT hZ (hw _ (List.mem_of_getElem? (i := 4) rfl))) (by decide) (backOf (W := 0) (rm1 l Z a0 hw [] ((p1 &&& (2147483647 : Int32)) % (3 : Int32)) w_BOOL w_INT w_DOUBLE h0 n0 O0 S_BOOL S_INT S_DOUBLE) hZ (hw _ (List.mem_of_getElem? (i := 4) rfl)) (hw _ (List.mem_of_getElem? (i := 3) rfl)) (by decide) (by decide)) (g := (mkF m 21 #[.val (.int p0), .val (.int p1), .val (.int ((p0 &&& (2147483647 : Int32)) % (3 : Int32))), .val (.int ((p1 &&& (2147483647 : Int32)) % (3 : Int32))), .val (.ref (F1 ((p0 &&& (2147483647 : Int32)) % (3 : Int32)) w_BOOL w_INT w_DOUBLE)), .unset, .unset, .unset] [(.int ((p1 &&& (2147483647 : Int32)) % (3 : Int32)))])) rfl (by rw [hml]; rfl) (argsL := [(.int ((p1 &&& (2147483647 : Int32)) % (3 : Int32)))]) (rest := []) (lenOf pd_0 rfl) rfl (by show 2 * 0 + _ ≤ _; exact Nat.le_of_eq rfl) (hb hby at_21) (fun _ _ => ⟨rfl, e1, (by decide : 0 + 0 ≤ _), (by decide : 0 + 0 ≤ _)⟩)
  dsimp only [Pt.U, Pt.locs, Pt.cells, Pt.slots] at X2 l2 y2 z2 st2 hQ2
  subst l2 y2 z2
  obtain ⟨rfl, N2q, e2⟩ := hQ2
  have N2 := Fr.app N1 N2q
  refine OFin.st st2 ?_
  show OFin p e below _ _ T2 (mkF m 24 #[.val (.int p0), .val (.int p1), .val (.int ((p0 &&& (2147483647 : Int32)) % (3 : Int32))), .val (.int ((p1 &&& (2147483647 : Int32)) % (3 : Int32))), .val (.ref (F1 ((p0 &&& (2147483647 : Int32)) % (3 : Int32)) w_BOOL w_INT w_DOUBLE)), .unset, .unset, .unset] [(.ref (F1 ((p1 &&& (2147483647 : Int32)) % (3 : Int32)) w_BOOL w_INT w_DOUBLE))])
  refine OFin.st (fun t k => XS.astore X2.here hx rfl (hb hby at_24) rfl rfl (l' := #[.val (.int p0), .val (.int p1), .val (.int ((p0 &&& (2147483647 : Int32)) % (3 : Int32))), .val (.int ((p1 &&& (2147483647 : Int32)) % (3 : Int32))), .val (.ref (F1 ((p0 &&& (2147483647 : Int32)) % (3 : Int32)) w_BOOL w_INT w_DOUBLE)), .val (.ref (F1 ((p1 &&& (2147483647 : Int32)) % (3 : Int32)) w_BOOL w_INT w_DOUBLE)), .unset, .unset]) rfl k) ?_
  show OFin p e below _ _ T2 (mkF m 26 #[.val (.int p0), .val (.int p1), .val (.int ((p0 &&& (2147483647 : Int32)) % (3 : Int32))), .val (.int ((p1 &&& (2147483647 : Int32)) % (3 : Int32))), .val (.ref (F1 ((p0 &&& (2147483647 : Int32)) % (3 : Int32)) w_BOOL w_INT w_DOUBLE)), .val (.ref (F1 ((p1 &&& (2147483647 : Int32)) % (3 : Int32)) w_BOOL w_INT w_DOUBLE)), .unset, .unset] [])
  refine OFin.st (fun t k => XS.bipush X2.here hx rfl (hb hby at_26) k) ?_
  show OFin p e below _ _ T2 (mkF m 28 #[.val (.int p0), .val (.int p1), .val (.int ((p0 &&& (2147483647 : Int32)) % (3 : Int32))), .val (.int ((p1 &&& (2147483647 : Int32)) % (3 : Int32))), .val (.ref (F1 ((p0 &&& (2147483647 : Int32)) % (3 : Int32)) w_BOOL w_INT w_DOUBLE)), .val (.ref (F1 ((p1 &&& (2147483647 : Int32)) % (3 : Int32)) w_BOOL w_INT w_DOUBLE)), .unset, .unset] [(.int (9 : Int32))])
  obtain ⟨T3, h3, k3, X3, e3, E3, A3, st3⟩ := own_newP X2 hx hZ (hw _ (List.mem_of_getElem? (i := 8) rfl)) e2 (z := (9 : Int32)) (n := 9) (cap := 9) (by decide) (by decide) (by decide) (by decide) (by decide) (pc := 28) (Ls := #[.val (.int p0), .val (.int p1), .val (.int ((p0 &&& (2147483647 : Int32)) % (3 : Int32))), .val (.int ((p1 &&& (2147483647 : Int32)) % (3 : Int32))), .val (.ref (F1 ((p0 &&& (2147483647 : Int32)) % (3 : Int32)) w_BOOL w_INT w_DOUBLE)), .val (.ref (F1 ((p1 &&& (2147483647 : Int32)) % (3 : Int32)) w_BOOL w_INT w_DOUBLE)), .unset, .unset]) (rest := []) (hb hby at_28)
  obtain ⟨b3, gz_b3⟩ : ∃ z, z = h0.size := ⟨_, rfl⟩
  rw [← gz_b3] at A3 st3
  have g_b3 : n0 ≤ b3 := Nat.le_trans (Nat.le_trans (Nat.le_of_eq O0.1.symm) O0.2.1) (Nat.le_of_eq gz_b3.symm)
  have sz_b3 : h0.size ≤ b3 := Nat.le_trans (Keep.refl h0 []).1 (Nat.le_of_eq gz_b3.symm)
  have K3 : Keep h0 h3 [] := (Keep.refl h0 []).ext E3
  have O3 : Old Z n0 h3 := O0.ext E3
  have V3 : Oar Z h3 b3 k3 .boolean [(.int (0 : Int32)), (.int (0 : Int32)), (.int (0 : Int32)), (.int (0 : Int32)), (.int (0 : Int32)), (.int (0 : Int32)), (.int (0 : Int32)), (.int (0 : Int32)), (.int (0 : Int32))] := A3
  refine OFin.st st3 ?_
  show OFin p e below _ _ T3 (mkF m 30 #[.val (.int p0), .val (.int p1), .val (.int ((p0 &&& (2147483647 : Int32)) % (3 : Int32))), .val (.int ((p1 &&& (2147483647 : Int32)) % (3 : Int32))), .val (.ref (F1 ((p0 &&& (2147483647 : Int32)) % (3 : Int32)) w_BOOL w_INT w_DOUBLE)), .val (.ref (F1 ((p1 &&& (2147483647 : Int32)) % (3 : Int32)) w_BOOL w_INT w_DOUBLE)), .unset, .unset] [(.ref b3)])
  refine OFin.st (fun t k => XS.dup X3.here hx rfl (hb hby at_30) rfl rfl k) ?_
  show OFin p e below _ _ T3 (mkF m 31 #[.val (.int p0), .val (.int p1), .val (.int ((p0 &&& (2147483647 : Int32)) % (3 : Int32))), .val (.int ((p1 &&& (2147483647 : Int32)) % (3 : Int32))), .val (.ref (F1 ((p0 &&& (2147483647 : Int32)) % (3 : Int32)) w_BOOL w_INT w_DOUBLE)), .val (.ref (F1 ((p1 &&& (2147483647 : Int32)) % (3 : Int32)) w_BOOL w_INT w_DOUBLE)), .unset, .unset] [(.ref b3), (.ref b3)])
  refine OFin.st (fun t k => XS.iconst X3.here hx rfl (hb hby at_31) k) ?_
  show OFin p e below _ _ T3 (mkF m 32 #[.val (.int p0), .val (.int p1), .val (.int ((p0 &&& (2147483647 : Int32)) % (3 : Int32))), .val (.int ((p1 &&& (2147483647 : Int32)) % (3 : Int32))), .val (.ref (F1 ((p0 &&& (2147483647 : Int32)) % (3 : Int32)) w_BOOL w_INT w_DOUBLE)), .val (.ref (F1 ((p1 &&& (2147483647 : Int32)) % (3 : Int32)) w_BOOL w_INT w_DOUBLE)), .unset, .unset] [(.int (0 : Int32)), (.ref b3), (.ref b3)])
  refine OFin.st (fun t k => XS.iconst X3.here hx rfl (hb hby at_32) k) ?_
  show OFin p e below _ _ T3 (mkF m 33 #[.val (.int p0), .val (.int p1), .val (.int ((p0 &&& (2147483647 : Int32)) % (3 : Int32))), .val (.int ((p1 &&& (2147483647 : Int32)) % (3 : Int32))), .val (.ref (F1 ((p0 &&& (2147483647 : Int32)) % (3 : Int32)) w_BOOL w_INT w_DOUBLE)), .val (.ref (F1 ((p1 &&& (2147483647 : Int32)) % (3 : Int32)) w_BOOL w_INT w_DOUBLE)), .unset, .unset] [(.int (1 : Int32)), (.int (0 : Int32)), (.ref b3), (.ref b3)])
  obtain ⟨T4, h4, X4, e4, W4, V4, st4⟩ := own_zastore X3 hx hZ e3 V3 (i := 0) (j := (0 : Int32)) (by decide) (by decide) (x := (1 : Int32)) (y := (1 : Int32)) (by decide) (pc := 33) (Ls := #[.val (.int p0), .val (.int p1), .val (.int ((p0 &&& (2147483647 : Int32)) % (3 : Int32))), .val (.int ((p1 &&& (2147483647 : Int32)) % (3 : Int32))), .val (.ref (F1 ((p0 &&& (2147483647 : Int32)) % (3 : Int32)) w_BOOL w_INT w_DOUBLE)), .val (.ref (F1 ((p1 &&& (2147483647 : Int32)) % (3 : Int32)) w_BOOL w_INT w_DOUBLE)), .unset, .unset]) (rest := [(.ref b3)]) (hb hby at_33)
  have N4 := Fr.snoc X4 N2 g_b3
  have K4 : Keep h0 h4 [] := K3.wr W4 (Or.inr sz_b3)
  have O4 : Old Z n0 h4 := O3.wr W4 g_b3
  have Vw4 : Oar Z h4 b3 k3 .boolean [(.int (1 : Int32)), (.int (0 : Int32)), (.int (0 : Int32)), (.int (0 : Int32)), (.int (0 : Int32)), (.int (0 : Int32)), (.int (0 : Int32)), (.int (0 : Int32)), (.int (0 : Int32))] := V4
  refine OFin.st st4 ?_
  show OFin p e below _ _ T4 (mkF m 34 #[.val (.int p0), .val (.int p1), .val (.int ((p0 &&& (2147483647 : Int32)) % (3 : Int32))), .val (.int ((p1 &&& (2147483647 : Int32)) % (3 : Int32))), .val (.ref (F1 ((p0 &&& (2147483647 : Int32)) % (3 : Int32)) w_BOOL w_INT w_DOUBLE)), .val (.ref (F1 ((p1 &&& (2147483647 : Int32)) % (3 : Int32)) w_BOOL w_INT w_DOUBLE)), .unset, .unset] [(.ref b3)])
  refine OFin.st (fun t k => XS.dup X4.here hx rfl (hb hby at_34) rfl rfl k) ?_
  show OFin p e below _ _ T4 (mkF m 35 #[.val (.int p0), .val (.int p1), .val (.int ((p0 &&& (2147483647 : Int32)) % (3 : Int32))), .val (.int ((p1 &&& (2147483647 : Int32)) % (3 : Int32))), .val (.ref (F1 ((p0 &&& (2147483647 : Int32)) % (3 : Int32)) w_BOOL w_INT w_DOUBLE)), .val (.ref (F1 ((p1 &&& (2147483647 : Int32)) % (3 : Int32)) w_BOOL w_INT w_DOUBLE)), .unset, .unset] [(.ref b3), (.ref b3)])
  refine OFin.st (fun t k => XS.iconst X4.here hx rfl (hb hby at_35) k) ?_
  show OFin p e below _ _ T4 (mkF m 36 #[.val (.int p0), .val (.int p1), .val (.int ((p0 &&& (2147483647 : Int32)) % (3 : Int32))), .val (.int ((p1 &&& (2147483647 : Int32)) % (3 : Int32))), .val (.ref (F1 ((p0 &&& (2147483647 : Int32)) % (3 : Int32)) w_BOOL w_INT w_DOUBLE)), .val (.ref (F1 ((p1 &&& (2147483647 : Int32)) % (3 : Int32)) w_BOOL w_INT w_DOUBLE)), .unset, .unset] [(.int (1 : Int32)), (.ref b3), (.ref b3)])
  refine OFin.st (fun t k => XS.iconst X4.here hx rfl (hb hby at_36) k) ?_
  show OFin p e below _ _ T4 (mkF m 37 #[.val (.int p0), .val (.int p1), .val (.int ((p0 &&& (2147483647 : Int32)) % (3 : Int32))), .val (.int ((p1 &&& (2147483647 : Int32)) % (3 : Int32))), .val (.ref (F1 ((p0 &&& (2147483647 : Int32)) % (3 : Int32)) w_BOOL w_INT w_DOUBLE)), .val (.ref (F1 ((p1 &&& (2147483647 : Int32)) % (3 : Int32)) w_BOOL w_INT w_DOUBLE)), .unset, .unset] [(.int (0 : Int32)), (.int (1 : Int32)), (.ref b3), (.ref b3)])
  obtain ⟨T5, h5, X5, e5, W5, V5, st5⟩ := own_zastore X4 hx hZ e4 Vw4 (i := 1) (j := (1 : Int32)) (by decide) (by decide) (x := (0 : Int32)) (y := (0 : Int32)) (by decide) (pc := 37) (Ls := #[.val (.int p0), .val (.int p1), .val (.int ((p0 &&& (2147483647 : Int32)) % (3 : Int32))), .val (.int ((p1 &&& (2147483647 : Int32)) % (3 : Int32))), .val (.ref (F1 ((p0 &&& (2147483647 : Int32)) % (3 : Int32)) w_BOOL w_INT w_DOUBLE)), .val (.ref (F1 ((p1 &&& (2147483647 : Int32)) % (3 : Int32)) w_BOOL w_INT w_DOUBLE)), .unset, .unset]) (rest := [(.ref b3)]) (hb hby at_37)
  have N5 := Fr.snoc X5 N4 g_b3
  have K5 : Keep h0 h5 [] := K4.wr W5 (Or.inr sz_b3)
  have O5 : Old Z n0 h5 := O4.wr W5 g_b3
  have Vw5 : Oar Z h5 b3 k3 .boolean [(.int (1 : Int32)), (.int (0 : Int32)), (.int (0 : Int32)), (.int (0 : Int32)), (.int (0 : Int32)), (.int (0 : Int32)), (.int (0 : Int32)), (.int (0 : Int32)), (.int (0 : Int32))] := V5
  refine OFin.st st5 ?_
  show OFin p e below _ _ T5 (mkF m 38 #[.val (.int p0), .val (.int p1), .val (.int ((p0 &&& (2147483647 : Int32)) % (3 : Int32))), .val (.int ((p1 &&& (2147483647 : Int32)) % (3 : Int32))), .val (.ref (F1 ((p0 &&& (2147483647 : Int32)) % (3 : Int32)) w_BOOL w_INT w_DOUBLE)), .val (.ref (F1 ((p1 &&& (2147483647 : Int32)) % (3 : Int32)) w_BOOL w_INT w_DOUBLE)), .unset, .unset] [(.ref b3)])
  refine OFin.st (fun t k => XS.dup X5.here hx rfl (hb hby at_38) rfl rfl k) ?_
  show OFin p e below _ _ T5 (mkF m 39 #[.val (.int p0), .val (.int p1), .val (.int ((p0 &&& (2147483647 : Int32)) % (3 : Int32))), .val (.int ((p1 &&& (2147483647 : Int32)) % (3 : Int32))), .val (.ref (F1 ((p0 &&& (2147483647 : Int32)) % (3 : Int32)) w_BOOL w_INT w_DOUBLE)), .val (.ref (F1 ((p1 &&& (2147483647 : Int32)) % (3 : Int32)) w_BOOL w_INT w_DOUBLE)), .unset, .unset] [(.ref b3), (.ref b3)])
  refine OFin.st (fun t k => XS.iconst X5.here hx rfl (hb hby at_39) k) ?_
  show OFin p e below _ _ T5 (mkF m 40 #[.val (.int p0), .val (.int p1), .val (.int ((p0 &&& (2147483647 : Int32)) % (3 : Int32))), .val (.int ((p1 &&& (2147483647 : Int32)) % (3 : Int32))), .val (.ref (F1 ((p0 &&& (2147483647 : Int32)) % (3 : Int32)) w_BOOL w_INT w_DOUBLE)), .val (.ref (F1 ((p1 &&& (2147483647 : Int32)) % (3 : Int32)) w_BOOL w_INT w_DOUBLE)), .unset, .unset] [(.int (2 : Int32)), (.ref b3), (.ref b3)])
  refine OFin.st (fun t k => XS.iconst X5.here hx rfl (hb hby at_40) k) ?_
  show OFin p e below _ _ T5 (mkF m 41 #[.val (.int p0), .val (.int p1), .val (.int ((p0 &&& (2147483647 : Int32)) % (3 : Int32))), .val (.int ((p1 &&& (2147483647 : Int32)) % (3 : Int32))), .val (.ref (F1 ((p0 &&& (2147483647 : Int32)) % (3 : Int32)) w_BOOL w_INT w_DOUBLE)), .val (.ref (F1 ((p1 &&& (2147483647 : Int32)) % (3 : Int32)) w_BOOL w_INT w_DOUBLE)), .unset, .unset] [(.int (0 : Int32)), (.int (2 : Int32)), (.ref b3), (.ref b3)])
  obtain ⟨T6, h6, X6, e6, W6, V6, st6⟩ := own_zastore X5 hx hZ e5 Vw5 (i := 2) (j := (2 : Int32)) (by decide) (by decide) (x := (0 : Int32)) (y := (0 : Int32)) (by decide) (pc := 41) (Ls := #[.val (.int p0), .val (.int p1), .val (.int ((p0 &&& (2147483647 : Int32)) % (3 : Int32))), .val (.int ((p1 &&& (2147483647 : Int32)) % (3 : Int32))), .val (.ref (F1 ((p0 &&& (2147483647 : Int32)) % (3 : Int32)) w_BOOL w_INT w_DOUBLE)), .val (.ref (F1 ((p1 &&& (2147483647 : Int32)) % (3 : Int32)) w_BOOL w_INT w_DOUBLE)), .unset, .unset]) (rest := [(.ref b3)]) (hb hby at_41)
  have N6 := Fr.snoc X6 N5 g_b3
  have K6 : Keep h0 h6 [] := K5.wr W6 (Or.inr sz_b3)
  have O6 : Old Z n0 h6 := O5.wr W6 g_b3
  have Vw6 : Oar Z h6 b3 k3 .boolean [(.int (1 : Int32)), (.int (0 : Int32)), (.int (0 : Int32)), (.int (0 : Int32)), (.int (0 : Int32)), (.int (0 : Int32)), (.int (0 : Int32)), (.int (0 : Int32)), (.int (0 : Int32))] := V6
  refine OFin.st st6 ?_
  show OFin p e below _ _ T6 (mkF m 42 #[.val (.int p0), .val (.int p1), .val (.int ((p0 &&& (2147483647 : Int32)) % (3 : Int32))), .val (.int ((p1 &&& (2147483647 : Int32)) % (3 : Int32))), .val (.ref (F1 ((p0 &&& (2147483647 : Int32)) % (3 : Int32)) w_BOOL w_INT w_DOUBLE)), .val (.ref (F1 ((p1 &&& (2147483647 : Int32)) % (3 : Int32)) w_BOOL w_INT w_DOUBLE)), .unset, .unset] [(.ref b3)])
  refine OFin.st (fun t k => XS.dup X6.here hx rfl (hb hby at_42) rfl rfl k) ?_
  show OFin p e below _ _ T6 (mkF m 43 #[.val (.int p0), .val (.int p1), .val (.int ((p0 &&& (2147483647 : Int32)) % (3 : Int32))), .val (.int ((p1 &&& (2147483647 : Int32)) % (3 : Int32))), .val (.ref (F1 ((p0 &&& (2147483647 : Int32)) % (3 : Int32)) w_BOOL w_INT w_DOUBLE)), .val (.ref (F1 ((p1 &&& (2147483647 : Int32)) % (3 : Int32)) w_BOOL w_INT w_DOUBLE)), .unset, .unset] [(.ref b3), (.ref b3)])
  refine OFin.st (fun t k => XS.iconst X6.here hx rfl (hb hby at_43) k) ?_
  show OFin p e below _ _ T6 (mkF m 44 #[.val (.int p0), .val (.int p1), .val (.int ((p0 &&& (2147483647 : Int32)) % (3 : Int32))), .val (.int ((p1 &&& (2147483647 : Int32)) % (3 : Int32))), .val (.ref (F1 ((p0 &&& (2147483647 : Int32)) % (3 : Int32)) w_BOOL w_INT w_DOUBLE)), .val (.ref (F1 ((p1 &&& (2147483647 : Int32)) % (3 : Int32)) w_BOOL w_INT w_DOUBLE)), .unset, .unset] [(.int (3 : Int32)), (.ref b3), (.ref b3)])
  refine OFin.st (fun t k => XS.iconst X6.here hx rfl (hb hby at_44) k) ?_
  show OFin p e below _ _ T6 (mkF m 45 #[.val (.int p0), .val (.int p1), .val (.int ((p0 &&& (2147483647 : Int32)) % (3 : Int32))), .val (.int ((p1 &&& (2147483647 : Int32)) % (3 : Int32))), .val (.ref (F1 ((p0 &&& (2147483647 : Int32)) % (3 : Int32)) w_BOOL w_INT w_DOUBLE)), .val (.ref (F1 ((p1 &&& (2147483647 : Int32)) % (3 : Int32)) w_BOOL w_INT w_DOUBLE)), .unset, .unset] [(.int (0 : Int32)), (.int (3 : Int32)), (.ref b3), (.ref b3)])
  obtain ⟨T7, h7, X7, e7, W7, V7, st7⟩ := own_zastore X6 hx hZ e6 Vw6 (i := 3) (j := (3 : Int32)) (by decide) (by decide) (x := (0 : Int32)) (y := (0 : Int32)) (by decide) (pc := 45) (Ls := #[.val (.int p0), .val (.int p1), .val (.int ((p0 &&& (2147483647 : Int32)) % (3 : Int32))), .val (.int ((p1 &&& (2147483647 : Int32)) % (3 : Int32))), .val (.ref (F1 ((p0 &&& (2147483647 : Int32)) % (3 : Int32)) w_BOOL w_INT w_DOUBLE)), .val (.ref (F1 ((p1 &&& (2147483647 : Int32)) % (3 : Int32)) w_BOOL w_INT w_DOUBLE)), .unset, .unset]) (rest := [(.ref b3)]) (hb hby at_45)
  have N7 := Fr.snoc X7 N6 g_b3
  have K7 : Keep h0 h7 [] := K6.wr W7 (Or.inr sz_b3)
  have O7 : Old Z n0 h7 := O6.wr W7 g_b3
  have Vw7 : Oar Z h7 b3 k3 .boolean [(.int (1 : Int32)), (.int (0 : Int32)), (.int (0 : Int32)), (.int (0 : Int32)), (.int (0 : Int32)), (.int (0 : Int32)), (.int (0 : Int32)), (.int (0 : Int32)), (.int (0 : Int32))] := V7
  refine OFin.st st7 ?_
  show OFin p e below _ _ T7 (mkF m 46 #[.val (.int p0), .val (.int p1), .val (.int ((p0 &&& (2147483647 : Int32)) % (3 : Int32))), .val (.int ((p1 &&& (2147483647 : Int32)) % (3 : Int32))), .val (.ref (F1 ((p0 &&& (2147483647 : Int32)) % (3 : Int32)) w_BOOL w_INT w_DOUBLE)), .val (.ref (F1 ((p1 &&& (2147483647 : Int32)) % (3 : Int32)) w_BOOL w_INT w_DOUBLE)), .unset, .unset] [(.ref b3)])
  refine OFin.st (fun t k => XS.dup X7.here hx rfl (hb hby at_46) rfl rfl k) ?_
  show OFin p e below _ _ T7 (mkF m 47 #[.val (.int p0), .val (.int p1), .val (.int ((p0 &&& (2147483647 : Int32)) % (3 : Int32))), .val (.int ((p1 &&& (2147483647 : Int32)) % (3 : Int32))), .val (.ref (F1 ((p0 &&& (2147483647 : Int32)) % (3 : Int32)) w_BOOL w_INT w_DOUBLE)), .val (.ref (F1 ((p1 &&& (2147483647 : Int32)) % (3 : Int32)) w_BOOL w_INT w_DOUBLE)), .unset, .unset] [(.ref b3), (.ref b3)])
  refine OFin.st (fun t k => XS.iconst X7.here hx rfl (hb hby at_47) k) ?_
  show OFin p e below _ _ T7 (mkF m 48 #[.val (.int p0), .val (.int p1), .val (.int ((p0 &&& (2147483647 : Int32)) % (3 : Int32))), .val (.int ((p1 &&& (2147483647 : Int32)) % (3 : Int32))), .val (.ref (F1 ((p0 &&& (2147483647 : Int32)) % (3 : Int32)) w_BOOL w_INT w_DOUBLE)), .val (.ref (F1 ((p1 &&& (2147483647 : Int32)) % (3 : Int32)) w_BOOL w_INT w_DOUBLE)), .unset, .unset] [(.int (4 : Int32)), (.ref b3), (.ref b3)])
  refine OFin.st (fun t k => XS.iconst X7.here hx rfl (hb hby at_48) k) ?_
  show OFin p e below _ _ T7 (mkF m 49 #[.val (.int p0), .val (.int p1), .val (.int ((p0 &&& (2147483647 : Int32)) % (3 : Int32))), .val (.int ((p1 &&& (2147483647 : Int32)) % (3 : Int32))), .val (.ref (F1 ((p0 &&& (2147483647 : Int32)) % (3 : Int32)) w_BOOL w_INT w_DOUBLE)), .val (.ref (F1 ((p1 &&& (2147483647 : Int32)) % (3 : Int32)) w_BOOL w_INT w_DOUBLE)), .unset, .unset] [(.int (1 : Int32)), (.int (4 : Int32)), (.ref b3), (.ref b3)])
  obtain ⟨T8, h8, X8, e8, W8, V8, st8⟩ := own_zastore X7 hx hZ e7 Vw7 (i := 4) (j := (4 : Int32)) (by decide) (by decide) (x := (1 : Int32)) (y := (1 : Int32)) (by decide) (pc := 49) (Ls := #[.val (.int p0), .val (.int p1), .val (.int ((p0 &&& (2147483647 : Int32)) % (3 : Int32))), .val (.int ((p1 &&& (2147483647 : Int32)) % (3 : Int32))), .val (.ref (F1 ((p0 &&& (2147483647 : Int32)) % (3 : Int32)) w_BOOL w_INT w_DOUBLE)), .val (.ref (F1 ((p1 &&& (2147483647 : Int32)) % (3 : Int32)) w_BOOL w_INT w_DOUBLE)), .unset, .unset]) (rest := [(.ref b3)]) (hb hby at_49)
  have N8 := Fr.snoc X8 N7 g_b3
  have K8 : Keep h0 h8 [] := K7.wr W8 (Or.inr sz_b3)
  have O8 : Old Z n0 h8 := O7.wr W8 g_b3
  have Vw8 : Oar Z h8 b3 k3 .boolean [(.int (1 : Int32)), (.int (0 : Int32)), (.int (0 : Int32)), (.int (0 : Int32)), (.int (1 : Int32)), (.int (0 : Int32)), (.int (0 : Int32)), (.int (0 : Int32)), (.int (0 : Int32))] := V8
  refine OFin.st st8 ?_
  show OFin p e below _ _ T8 (mkF m 50 #[.val (.int p0), .val (.int p1), .val (.int ((p0 &&& (2147483647 : Int32)) % (3 : Int32))), .val (.int ((p1 &&& (2147483647 : Int32)) % (3 : Int32))), .val (.ref (F1 ((p0 &&& (2147483647 : Int32)) % (3 : Int32)) w_BOOL w_INT w_DOUBLE)), .val (.ref (F1 ((p1 &&& (2147483647 : Int32)) % (3 : Int32)) w_BOOL w_INT w_DOUBLE)), .unset, .unset] [(.ref b3)])
  refine OFin.st (fun t k => XS.dup X8.here hx rfl (hb hby at_50) rfl rfl k) ?_
  show OFin p e below _ _ T8 (mkF m 51 #[.val (.int p0), .val (.int p1), .val (.int ((p0 &&& (2147483647 : Int32)) % (3 : Int32))), .val (.int ((p1 &&& (2147483647 : Int32)) % (3 : Int32))), .val (.ref (F1 ((p0 &&& (2147483647 : Int32)) % (3 : Int32)) w_BOOL w_INT w_DOUBLE)), .val (.ref (F1 ((p1 &&& (2147483647 : Int32)) % (3 : Int32)) w_BOOL w_INT w_DOUBLE)), .unset, .unset] [(.ref b3), (.ref b3)])
  refine OFin.st (fun t k => XS.iconst X8.here hx rfl (hb hby at_51) k) ?_
  show OFin p e below _ _ T8 (mkF m 52 #[.val (.int p0), .val (.int p1), .val (.int ((p0 &&& (2147483647 : Int32)) % (3 : Int32))), .val (.int ((p1 &&& (2147483647 : Int32)) % (3 : Int32))), .val (.ref (F1 ((p0 &&& (2147483647 : Int32)) % (3 : Int32)) w_BOOL w_INT w_DOUBLE)), .val (.ref (F1 ((p1 &&& (2147483647 : Int32)) % (3 : Int32)) w_BOOL w_INT w_DOUBLE)), .unset, .unset] [(.int (5 : Int32)), (.ref b3), (.ref b3)])
  refine OFin.st (fun t k => XS.iconst X8.here hx rfl (hb hby at_52) k) ?_
  show OFin p e below _ _ T8 (mkF m 53 #[.val (.int p0), .val (.int p1), .val (.int ((p0 &&& (2147483647 : Int32)) % (3 : Int32))), .val (.int ((p1 &&& (2147483647 : Int32)) % (3 : Int32))), .val (.ref (F1 ((p0 &&& (2147483647 : Int32)) % (3 : Int32)) w_BOOL w_INT w_DOUBLE)), .val (.ref (F1 ((p1 &&& (2147483647 : Int32)) % (3 : Int32)) w_BOOL w_INT w_DOUBLE)), .unset, .unset] [(.int (0 : Int32)), (.int (5 : Int32)), (.ref b3), (.ref b3)])
  obtain ⟨T9, h9, X9, e9, W9, V9, st9⟩ := own_zastore X8 hx hZ e8 Vw8 (i := 5) (j := (5 : Int32)) (by decide) (by decide) (x := (0 : Int32)) (y := (0 : Int32)) (by decide) (pc := 53) (Ls := #[.val (.int p0), .val (.int p1), .val (.int ((p0 &&& (2147483647 : Int32)) % (3 : Int32))), .val (.int ((p1 &&& (2147483647 : Int32)) % (3 : Int32))), .val (.ref (F1 ((p0 &&& (2147483647 : Int32)) % (3 : Int32)) w_BOOL w_INT w_DOUBLE)), .val (.ref (F1 ((p1 &&& (2147483647 : Int32)) % (3 : Int32)) w_BOOL w_INT w_DOUBLE)), .unset, .unset]) (rest := [(.ref b3)]) (hb hby at_53)
  have N9 := Fr.snoc X9 N8 g_b3
  have K9 : Keep h0 h9 [] := K8.wr W9 (Or.inr sz_b3)
  have O9 : Old Z n0 h9 := O8.wr W9 g_b3
  have Vw9 : Oar Z h9 b3 k3 .boolean [(.int (1 : Int32)), (.int (0 : Int32)), (.int (0 : Int32)), (.int (0 : Int32)), (.int (1 : Int32)), (.int (0 : Int32)), (.int (0 : Int32)), (.int (0 : Int32)), (.int (0 : Int32))] := V9
  refine OFin.st st9 ?_
  show OFin p e below _ _ T9 (mkF m 54 #[.val (.int p0), .val (.int p1), .val (.int ((p0 &&& (2147483647 : Int32)) % (3 : Int32))), .val (.int ((p1 &&& (2147483647 : Int32)) % (3 : Int32))), .val (.ref (F1 ((p0 &&& (2147483647 : Int32)) % (3 : Int32)) w_BOOL w_INT w_DOUBLE)), .val (.ref (F1 ((p1 &&& (2147483647 : Int32)) % (3 : Int32)) w_BOOL w_INT w_DOUBLE)), .unset, .unset] [(.ref b3)])
  refine OFin.st (fun t k => XS.dup X9.here hx rfl (hb hby at_54) rfl rfl k) ?_
  show OFin p e below _ _ T9 (mkF m 55 #[.val (.int p0), .val (.int p1), .val (.int ((p0 &&& (2147483647 : Int32)) % (3 : Int32))), .val (.int ((p1 &&& (2147483647 : Int32)) % (3 : Int32))), .val (.ref (F1 ((p0 &&& (2147483647 : Int32)) % (3 : Int32)) w_BOOL w_INT w_DOUBLE)), .val (.ref (F1 ((p1 &&& (2147483647 : Int32)) % (3 : Int32)) w_BOOL w_INT w_DOUBLE)), .unset, .unset] [(.ref b3), (.ref b3)])
  refine OFin.st (fun t k => XS.bipush X9.here hx rfl (hb hby at_55) k) ?_
  show OFin p e below _ _ T9 (mkF m 57 #[.val (.int p0), .val (.int p1), .val (.int ((p0 &&& (2147483647 : Int32)) % (3 : Int32))), .val (.int ((p1 &&& (2147483647 : Int32)) % (3 : Int32))), .val (.ref (F1 ((p0 &&& (2147483647 : Int32)) % (3 : Int32)) w_BOOL w_INT w_DOUBLE)), .val (.ref (F1 ((p1 &&& (2147483647 : Int32)) % (3 : Int32)) w_BOOL w_INT w_DOUBLE)), .unset, .unset] [(.int (6 : Int32)), (.ref b3), (.ref b3)])
  refine OFin.st (fun t k => XS.iconst X9.here hx rfl (hb hby at_57) k) ?_
  show OFin p e below _ _ T9 (mkF m 58 #[.val (.int p0), .val (.int p1), .val (.int ((p0 &&& (2147483647 : Int32)) % (3 : Int32))), .val (.int ((p1 &&& (2147483647 : Int32)) % (3 : Int32))), .val (.ref (F1 ((p0 &&& (2147483647 : Int32)) % (3 : Int32)) w_BOOL w_INT w_DOUBLE)), .val (.ref (F1 ((p1 &&& (2147483647 : Int32)) % (3 : Int32)) w_BOOL w_INT w_DOUBLE)), .unset, .unset] [(.int (0 : Int32)), (.int (6 : Int32)), (.ref b3), (.ref b3)])
  obtain ⟨T10, h10, X10, e10, W10, V10, st10⟩ := own_zastore X9 hx hZ e9 Vw9 (i := 6) (j := (6 : Int32)) (by decide) (by decide) (x := (0 : Int32)) (y := (0 : Int32)) (by decide) (pc := 58) (Ls := #[.val (.int p0), .val (.int p1), .val (.int ((p0 &&& (2147483647 : Int32)) % (3 : Int32))), .val (.int ((p1 &&& (2147483647 : Int32)) % (3 : Int32))), .val (.ref (F1 ((p0 &&& (2147483647 : Int32)) % (3 : Int32)) w_BOOL w_INT w_DOUBLE)), .val (.ref (F1 ((p1 &&& (2147483647 : Int32)) % (3 : Int32)) w_BOOL w_INT w_DOUBLE)), .unset, .unset]) (rest := [(.ref b3)]) (hb hby at_58)
  have N10 := Fr.snoc X10 N9 g_b3
  have K10 : Keep h0 h10 [] := K9.wr W10 (Or.inr sz_b3)
  have O10 : Old Z n0 h10 := O9.wr W10 g_b3
  have Vw10 : Oar Z h10 b3 k3 .boolean [(.int (1 : Int32)), (.int (0 : Int32)), (.int (0 : Int32)), (.int (0 : Int32)), (.int (1 : Int32)), (.int (0 : Int32)), (.int (0 : Int32)), (.int (0 : Int32)), (.int (0 : Int32))] := V10
  refine OFin.st st10 ?_
  show OFin p e below _ _ T10 (mkF m 59 #[.val (.int p0), .val (.int p1), .val (.int ((p0 &&& (2147483647 : Int32)) % (3 : Int32))), .val (.int ((p1 &&& (2147483647 : Int32)) % (3 : Int32))), .val (.ref (F1 ((p0 &&& (2147483647 : Int32)) % (3 : Int32)) w_BOOL w_INT w_DOUBLE)), .val (.ref (F1 ((p1 &&& (2147483647 : Int32)) % (3 : Int32)) w_BOOL w_INT w_DOUBLE)), .unset, .unset] [(.ref b3)])
  refine OFin.st (fun t k => XS.dup X10.here hx rfl (hb hby at_59) rfl rfl k) ?_
  show OFin p e below _ _ T10 (mkF m 60 #[.val (.int p0), .val (.int p1), .val (.int ((p0 &&& (2147483647 : Int32)) % (3 : Int32))), .val (.int ((p1 &&& (2147483647 : Int32)) % (3 : Int32))), .val (.ref (F1 ((p0 &&& (2147483647 : Int32)) % (3 : Int32)) w_BOOL w_INT w_DOUBLE)), .val (.ref (F1 ((p1 &&& (2147483647 : Int32)) % (3 : Int32)) w_BOOL w_INT w_DOUBLE)), .unset, .unset] [(.ref b3), (.ref b3)])
  refine OFin.st (fun t k => XS.bipush X10.here hx rfl (hb hby at_60) k) ?_
  show OFin p e below _ _ T10 (mkF m 62 #[.val (.int p0), .val (.int p1), .val (.int ((p0 &&& (2147483647 : Int32)) % (3 : Int32))), .val (.int ((p1 &&& (2147483647 : Int32)) % (3 : Int32))), .val (.ref (F1 ((p0 &&& (2147483647 : Int32)) % (3 : Int32)) w_BOOL w_INT w_DOUBLE)), .val (.ref (F1 ((p1 &&& (2147483647 : Int32)) % (3 : Int32)) w_BOOL w_INT w_DOUBLE)), .unset, .unset] [(.int (7 : Int32)), (.ref b3), (.ref b3)])
  refine OFin.st (fun t k => XS.iconst X10.here hx rfl (hb hby at_62) k) ?_
  show OFin p e below _ _ T10 (mkF m 63 #[.val (.int p0), .val (.int p1), .val (.int ((p0 &&& (2147483647 : Int32)) % (3 : Int32))), .val (.int ((p1 &&& (2147483647 : Int32)) % (3 : Int32))), .val (.ref (F1 ((p0 &&& (2147483647 : Int32)) % (3 : Int32)) w_BOOL w_INT w_DOUBLE)), .val (.ref (F1 ((p1 &&& (2147483647 : Int32)) % (3 : Int32)) w_BOOL w_INT w_DOUBLE)), .unset, .unset] [(.int (1 : Int32)), (.int (7 : Int32)), (.ref b3), (.ref b3)])
  obtain ⟨T11, h11, X11, e11, W11, V11, st11⟩ := own_zastore X10 hx hZ e10 Vw10 (i := 7) (j := (7 : Int32)) (by decide) (by decide) (x := (1 : Int32)) (y := (1 : Int32)) (by decide) (pc := 63) (Ls := #[.val (.int p0), .val (.int p1), .val (.int ((p0 &&& (2147483647 : Int32)) % (3 : Int32))), .val (.int ((p1 &&& (2147483647 : Int32)) % (3 : Int32))), .val (.ref (F1 ((p0 &&& (2147483647 : Int32)) % (3 : Int32)) w_BOOL w_INT w_DOUBLE)), .val (.ref (F1 ((p1 &&& (2147483647 : Int32)) % (3 : Int32)) w_BOOL w_INT w_DOUBLE)), .unset, .unset]) (rest := [(.ref b3)]) (hb hby at_63)
  have N11 := Fr.snoc X11 N10 g_b3
  have K11 : Keep h0 h11 [] := K10.wr W11 (Or.inr sz_b3)
  have O11 : Old Z n0 h11 := O10.wr W11 g_b3
  have Vw11 : Oar Z h11 b3 k3 .boolean [(.int (1 : Int32)), (.int (0 : Int32)), (.int (0 : Int32)), (.int (0 : Int32)), (.int (1 : Int32)), (.int (0 : Int32)), (.int (0 : Int32)), (.int (1 : Int32)), (.int (0 : Int32))] := V11
  refine OFin.st st11 ?_
  show OFin p e below _ _ T11 (mkF m 64 #[.val (.int p0), .val (.int p1), .val (.int ((p0 &&& (2147483647 : Int32)) % (3 : Int32))), .val (.int ((p1 &&& (2147483647 : Int32)) % (3 : Int32))), .val (.ref (F1 ((p0 &&& (2147483647 : Int32)) % (3 : Int32)) w_BOOL w_INT w_DOUBLE)), .val (.ref (F1 ((p1 &&& (2147483647 : Int32)) % (3 : Int32)) w_BOOL w_INT w_DOUBLE)), .unset, .unset] [(.ref b3)])
  refine OFin.st (fun t k => XS.dup X11.here hx rfl (hb hby at_64) rfl rfl k) ?_
  show OFin p e below _ _ T11 (mkF m 65 #[.val (.int p0), .val (.int p1), .val (.int ((p0 &&& (2147483647 : Int32)) % (3 : Int32))), .val (.int ((p1 &&& (2147483647 : Int32)) % (3 : Int32))), .val (.ref (F1 ((p0 &&& (2147483647 : Int32)) % (3 : Int32)) w_BOOL w_INT w_DOUBLE)), .val (.ref (F1 ((p1 &&& (2147483647 : Int32)) % (3 : Int32)) w_BOOL w_INT w_DOUBLE)), .unset, .unset] [(.ref b3), (.ref b3)])
  refine OFin.st (fun t k => XS.bipush X11.here hx rfl (hb hby at_65) k) ?_
  show OFin p e below _ _ T11 (mkF m 67 #[.val (.int p0), .val (.int p1), .val (.int ((p0 &&& (2147483647 : Int32)) % (3 : Int32))), .val (.int ((p1 &&& (2147483647 : Int32)) % (3 : Int32))), .val (.ref (F1 ((p0 &&& (2147483647 : Int32)) % (3 : Int32)) w_BOOL w_INT w_DOUBLE)), .val (.ref (F1 ((p1 &&& (2147483647 : Int32)) % (3 : Int32)) w_BOOL w_INT w_DOUBLE)), .unset, .unset] [(.int (8 : Int32)), (.ref b3), (.ref b3)])
  refine OFin.st (fun t k => XS.iconst X11.here hx rfl (hb hby at_67) k) ?_
  show OFin p e below _ _ T11 (mkF m 68 #[.val (.int p0), .val (.int p1), .val (.int ((p0 &&& (2147483647 : Int32)) % (3 : Int32))), .val (.int ((p1 &&& (2147483647 : Int32)) % (3 : Int32))), .val (.ref (F1 ((p0 &&& (2147483647 : Int32)) % (3 : Int32)) w_BOOL w_INT w_DOUBLE)), .val (.ref (F1 ((p1 &&& (2147483647 : Int32)) % (3 : Int32)) w_BOOL w_INT w_DOUBLE)), .unset, .unset] [(.int (1 : Int32)), (.int (8 : Int32)), (.ref b3), (.ref b3)])
  obtain ⟨T12, h12, X12, e12, W12, V12, st12⟩ := own_zastore X11 hx hZ e11 Vw11 (i := 8) (j := (8 : Int32)) (by decide) (by decide) (x := (1 : Int32)) (y := (1 : Int32)) (by decide) (pc := 68) (Ls := #[.val (.int p0), .val (.int p1), .val (.int ((p0 &&& (2147483647 : Int32)) % (3 : Int32))), .val (.int ((p1 &&& (2147483647 : Int32)) % (3 : Int32))), .val (.ref (F1 ((p0 &&& (2147483647 : Int32)) % (3 : Int32)) w_BOOL w_INT w_DOUBLE)), .val (.ref (F1 ((p1 &&& (2147483647 : Int32)) % (3 : Int32)) w_BOOL w_INT w_DOUBLE)), .unset, .unset]) (rest := [(.ref b3)]) (hb hby at_68)
  have N12 := Fr.snoc X12 N11 g_b3
  have K12 : Keep h0 h12 [] := K11.wr W12 (Or.inr sz_b3)
  have O12 : Old Z n0 h12 := O11.wr W12 g_b3
  have Vw12 : Oar Z h12 b3 k3 .boolean [(.int (1 : Int32)), (.int (0 : Int32)), (.int (0 : Int32)), (.int (0 : Int32)), (.int (1 : Int32)), (.int (0 : Int32)), (.int (0 : Int32)), (.int (1 : Int32)), (.int (1 : Int32))] := V12
  refine OFin.st st12 ?_
  show OFin p e below _ _ T12 (mkF m 69 #[.val (.int p0), .val (.int p1), .val (.int ((p0 &&& (2147483647 : Int32)) % (3 : Int32))), .val (.int ((p1 &&& (2147483647 : Int32)) % (3 : Int32))), .val (.ref (F1 ((p0 &&& (2147483647 : Int32)) % (3 : Int32)) w_BOOL w_INT w_DOUBLE)), .val (.ref (F1 ((p1 &&& (2147483647 : Int32)) % (3 : Int32)) w_BOOL w_INT w_DOUBLE)), .unset, .unset] [(.ref b3)])
  refine OFin.st (fun t k => XS.astore X12.here hx rfl (hb hby at_69) rfl rfl (l' := #[.val (.int p0), .val (.int p1), .val (.int ((p0 &&& (2147483647 : Int32)) % (3 : Int32))), .val (.int ((p1 &&& (2147483647 : Int32)) % (3 : Int32))), .val (.ref (F1 ((p0 &&& (2147483647 : Int32)) % (3 : Int32)) w_BOOL w_INT w_DOUBLE)), .val (.ref (F1 ((p1 &&& (2147483647 : Int32)) % (3 : Int32)) w_BOOL w_INT w_DOUBLE)), .val (.ref b3), .unset]) rfl k) ?_
  show OFin p e below _ _ T12 (mkF m 71 #[.val (.int p0), .val (.int p1), .val (.int ((p0 &&& (2147483647 : Int32)) % (3 : Int32))), .val (.int ((p1 &&& (2147483647 : Int32)) % (3 : Int32))), .val (.ref (F1 ((p0 &&& (2147483647 : Int32)) % (3 : Int32)) w_BOOL w_INT w_DOUBLE)), .val (.ref (F1 ((p1 &&& (2147483647 : Int32)) % (3 : Int32)) w_BOOL w_INT w_DOUBLE)), .val (.ref b3), .unset] [])
  refine OFin.st (fun t k => XS.aload X12.here hx rfl (hb hby at_71) rfl rfl k) ?_
  show OFin p e below _ _ T12 (mkF m 73 #[.val (.int p0), .val (.int p1), .val (.int ((p0 &&& (2147483647 : Int32)) % (3 : Int32))), .val (.int ((p1 &&& (2147483647 : Int32)) % (3 : Int32))), .val (.ref (F1 ((p0 &&& (2147483647 : Int32)) % (3 : Int32)) w_BOOL w_INT w_DOUBLE)), .val (.ref (F1 ((p1 &&& (2147483647 : Int32)) % (3 : Int32)) w_BOOL w_INT w_DOUBLE)), .val (.ref b3), .unset] [(.ref b3)])
  refine OFin.st (fun t k => XS.iloadN X12.here hx rfl (hb hby at_73) rfl k) ?_
  show OFin p e below _ _ T12 (mkF m 74 #[.val (.int p0), .val (.int p1), .val (.int ((p0 &&& (2147483647 : Int32)) % (3 : Int32))), .val (.int ((p1 &&& (2147483647 : Int32)) % (3 : Int32))), .val (.ref (F1 ((p0 &&& (2147483647 : Int32)) % (3 : Int32)) w_BOOL w_INT w_DOUBLE)), .val (.ref (F1 ((p1 &&& (2147483647 : Int32)) % (3 : Int32)) w_BOOL w_INT w_DOUBLE)), .val (.ref b3), .unset] [(.int ((p0 &&& (2147483647 : Int32)) % (3 : Int32))), (.ref b3)])
  refine OFin.st (fun t k => XS.iconst X12.here hx rfl (hb hby at_74) k) ?_
  show OFin p e below _ _ T12 (mkF m 75 #[.val (.int p0), .val (.int p1), .val (.int ((p0 &&& (2147483647 : Int32)) % (3 : Int32))), .val (.int ((p1 &&& (2147483647 : Int32)) % (3 : Int32))), .val (.ref (F1 ((p0 &&& (2147483647 : Int32)) % (3 : Int32)) w_BOOL w_INT w_DOUBLE)), .val (.ref (F1 ((p1 &&& (2147483647 : Int32)) % (3 : Int32)) w_BOOL w_INT w_DOUBLE)), .val (.ref b3), .unset] [(.int (3 : Int32)), (.int ((p0 &&& (2147483647 : Int32)) % (3 : Int32))), (.ref b3)])
  refine OFin.st (fun t k => XS.imul X12.here hx rfl (hb hby at_75) rfl k) ?_
  show OFin p e below _ _ T12 (mkF m 76 #[.val (.int p0), .val (.int p1), .val (.int ((p0 &&& (2147483647 : Int32)) % (3 : Int32))), .val (.int ((p1 &&& (2147483647 : Int32)) % (3 : Int32))), .val (.ref (F1 ((p0 &&& (2147483647 : Int32)) % (3 : Int32)) w_BOOL w_INT w_DOUBLE)), .val (.ref (F1 ((p1 &&& (2147483647 : Int32)) % (3 : Int32)) w_BOOL w_INT w_DOUBLE)), .val (.ref b3), .unset] [(.int (((p0 &&& (2147483647 : Int32)) % (3 : Int32)) * (3 : Int32))), (.ref b3)])
  refine OFin.st (fun t k => XS.iloadN X12.here hx rfl (hb hby at_76) rfl k) ?_
  show OFin p e below _ _ T12 (mkF m 77 #[.val (.int p0), .val (.int p1), .val (.int ((p0 &&& (2147483647 : Int32)) % (3 : Int32))), .val (.int ((p1 &&& (2147483647 : Int32)) % (3 : Int32))), .val (.ref (F1 ((p0 &&& (2147483647 : Int32)) % (3 : Int32)) w_BOOL w_INT w_DOUBLE)), .val (.ref (F1 ((p1 &&& (2147483647 : Int32)) % (3 : Int32)) w_BOOL w_INT w_DOUBLE)), .val (.ref b3), .unset] [(.int ((p1 &&& (2147483647 : Int32)) % (3 : Int32))), (.int (((p0 &&& (2147483647 : Int32)) % (3 : Int32)) * (3 : Int32))), (.ref b3)])
  refine OFin.st (fun t k => XS.iadd X12.here hx rfl (hb hby at_77) rfl k) ?_
  show OFin p e below _ _ T12 (mkF m 78 #[.val (.int p0), .val (.int p1), .val (.int ((p0 &&& (2147483647 : Int32)) % (3 : Int32))), .val (.int ((p1 &&& (2147483647 : Int32)) % (3 : Int32))), .val (.ref (F1 ((p0 &&& (2147483647 : Int32)) % (3 : Int32)) w_BOOL w_INT w_DOUBLE)), .val (.ref (F1 ((p1 &&& (2147483647 : Int32)) % (3 : Int32)) w_BOOL w_INT w_DOUBLE)), .val (.ref b3), .unset] [(.int ((((p0 &&& (2147483647 : Int32)) % (3 : Int32)) * (3 : Int32)) + ((p1 &&& (2147483647 : Int32)) % (3 : Int32)))), (.ref b3)])
  refine own_zaload X12 hx hZ e12 Vw12 (i := (Ti ((p0 &&& (2147483647 : Int32)) % (3 : Int32)) ((p1 &&& (2147483647 : Int32)) % (3 : Int32)))) (j := ((((p0 &&& (2147483647 : Int32)) % (3 : Int32)) * (3 : Int32)) + ((p1 &&& (2147483647 : Int32)) % (3 : Int32)))) (own_tab _ _ (own_k3 p0) (own_k3 p1)).1 (v := (.int (Tb ((p0 &&& (2147483647 : Int32)) % (3 : Int32)) ((p1 &&& (2147483647 : Int32)) % (3 : Int32))))) (own_tab _ _ (own_k3 p0) (own_k3 p1)).2 (hb hby at_78) (pc' := 79) rfl ?_
  show OFin p e below _ _ T12 (mkF m 79 #[.val (.int p0), .val (.int p1), .val (.int ((p0 &&& (2147483647 : Int32)) % (3 : Int32))), .val (.int ((p1 &&& (2147483647 : Int32)) % (3 : Int32))), .val (.ref (F1 ((p0 &&& (2147483647 : Int32)) % (3 : Int32)) w_BOOL w_INT w_DOUBLE)), .val (.ref (F1 ((p1 &&& (2147483647 : Int32)) % (3 : Int32)) w_BOOL w_INT w_DOUBLE)), .val (.ref b3), .unset] [(.int (Tb ((p0 &&& (2147483647 : Int32)) % (3 : Int32)) ((p1 &&& (2147483647 : Int32)) % (3 : Int32))))])
  refine OFin.st (fun t k => XS.istore X12.here hx rfl (hb hby at_79) rfl (l' := #[.val (.int p0), .val (.int p1), .val (.int ((p0 &&& (2147483647 : Int32)) % (3 : Int32))), .val (.int ((p1 &&& (2147483647 : Int32)) % (3 : Int32))), .val (.ref (F1 ((p0 &&& (2147483647 : Int32)) % (3 : Int32)) w_BOOL w_INT w_DOUBLE)), .val (.ref (F1 ((p1 &&& (2147483647 : Int32)) % (3 : Int32)) w_BOOL w_INT w_DOUBLE)), .val (.ref b3), .val (.int (Tb ((p0 &&& (2147483647 : Int32)) % (3 : Int32)) ((p1 &&& (2147483647 : Int32)) % (3 : Int32))))]) rfl k) ?_
  show OFin p e below _ _ T12 (mkF m 81 #[.val (.int p0), .val (.int p1), .val (.int ((p0 &&& (2147483647 : Int32)) % (3 : Int32))), .val (.int ((p1 &&& (2147483647 : Int32)) % (3 : Int32))), .val (.ref (F1 ((p0 &&& (2147483647 : Int32)) % (3 : Int32)) w_BOOL w_INT w_DOUBLE)), .val (.ref (F1 ((p1 &&& (2147483647 : Int32)) % (3 : Int32)) w_BOOL w_INT w_DOUBLE)), .val (.ref b3), .val (.int (Tb ((p0 &&& (2147483647 : Int32)) % (3 : Int32)) ((p1 &&& (2147483647 : Int32)) % (3 : Int32))))] [])
  refine OFin.st (fun t k => XS.aload X12.here hx rfl (hb hby at_81) rfl rfl k) ?_
  show OFin p e below _ _ T12 (mkF m 83 #[.val (.int p0), .val (.int p1), .val (.int ((p0 &&& (2147483647 : Int32)) % (3 : Int32))), .val (.int ((p1 &&& (2147483647 : Int32)) % (3 : Int32))), .val (.ref (F1 ((p0 &&& (2147483647 : Int32)) % (3 : Int32)) w_BOOL w_INT w_DOUBLE)), .val (.ref (F1 ((p1 &&& (2147483647 : Int32)) % (3 : Int32)) w_BOOL w_INT w_DOUBLE)), .val (.ref b3), .val (.int (Tb ((p0 &&& (2147483647 : Int32)) % (3 : Int32)) ((p1 &&& (2147483647 : Int32)) % (3 : Int32))))] [(.ref (F1 ((p0 &&& (2147483647 : Int32)) % (3 : Int32)) w_BOOL w_INT w_DOUBLE))])
  refine OFin.st (fun t k => XS.aload X12.here hx rfl (hb hby at_83) rfl rfl k) ?_
  show OFin p e below _ _ T12 (mkF m 85 #[.val (.int p0), .val (.int p1), .val (.int ((p0 &&& (2147483647 : Int32)) % (3 : Int32))), .val (.int ((p1 &&& (2147483647 : Int32)) % (3 : Int32))), .val (.ref (F1 ((p0 &&& (2147483647 : Int32)) % (3 : Int32)) w_BOOL w_INT w_DOUBLE)), .val (.ref (F1 ((p1 &&& (2147483647 : Int32)) % (3 : Int32)) w_BOOL w_INT w_DOUBLE)), .val (.ref b3), .val (.int (Tb ((p0 &&& (2147483647 : Int32)) % (3 : Int32)) ((p1 &&& (2147483647 : Int32)) % (3 : Int32))))] [(.ref (F1 ((p1 &&& (2147483647 : Int32)) % (3 : Int32)) w_BOOL w_INT w_DOUBLE)), (.ref (F1 ((p0 &&& (2147483647 : Int32)) % (3 : Int32)) w_BOOL w_INT w_DOUBLE))])
  have c13 := ((((((((((E_w_BOOL.ext E3).wr W4).wr W5).wr W6).wr W7).wr W8).wr W9).wr W10).wr W11).wr W12)
  have c14 := ((((((((((E_w_INT.ext E3).wr W4).wr W5).wr W6).wr W7).wr W8).wr W9).wr W10).wr W11).wr W12)
  have c15 := ((((((((((E_w_DOUBLE.ext E3).wr W4).wr W5).wr W6).wr W7).wr W8).wr W9).wr W10).wr W11).wr W12)
  obtain ⟨cq16, kq16, q16a, q16b, q16c⟩ := isOf hZ e12 (own_F1 (P := fun a => Exa Z h12 a "com/example/doubt3/doubt3/core/expr/Type") _ w_BOOL w_INT w_DOUBLE c13 c14 c15)
  obtain ⟨_, _, ⟨T16, L16, k16, n16⟩, -, X16, ⟨Lc16, hQ16, l16, y16, z16⟩, st16⟩ := X12.virtualBack hx (y := (⟨"com/example/doubt3/doubt3/core/expr/Type", "accepts", "(Lcom/example/doubt3/doubt3/core/expr/Type;)Z"⟩ : MethodName)) (z := (⟨"com/example/doubt3/doubt3/core/expr/Type", "accepts", "(Lcom/example/doubt3/doubt3/core/expr/Type;)Z"⟩ : MethodName)) hown (mvT hZ (hw _ (List.mem_of_getElem? (i := 9) rfl))) (mvT hZ (hw _ (List.mem_of_getElem? (i := 10) rfl))) (notFace_of_selects (args := #[]) (mvT hZ (hw _ (List.mem_of_getElem? (i := 12) rfl)))) (mvT hZ (hw _ (List.mem_of_getElem? (i := 12) rfl))) (mvT hZ (hw _ (List.mem_of_getElem? (i := 11) rfl))) (by decide) (backOf (W := 0) (rm2 l Z a0 hw [] (F1 ((p0 &&& (2147483647 : Int32)) % (3 : Int32)) w_BOOL w_INT w_DOUBLE) (F1 ((p1 &&& (2147483647 : Int32)) % (3 : Int32)) w_BOOL w_INT w_DOUBLE) w_DOUBLE w_INT h12 n0 O12 S_DOUBLE S_INT) hZ (hw _ (List.mem_of_getElem? (i := 13) rfl)) (hw _ (List.mem_of_getElem? (i := 6) rfl)) (by decide) (by decide)) q16a q16c (g := (mkF m 85 #[.val (.int p0), .val (.int p1), .val (.int ((p0 &&& (2147483647 : Int32)) % (3 : Int32))), .val (.int ((p1 &&& (2147483647 : Int32)) % (3 : Int32))), .val (.ref (F1 ((p0 &&& (2147483647 : Int32)) % (3 : Int32)) w_BOOL w_INT w_DOUBLE)), .val (.ref (F1 ((p1 &&& (2147483647 : Int32)) % (3 : Int32)) w_BOOL w_INT w_DOUBLE)), .val (.ref b3), .val (.int (Tb ((p0 &&& (2147483647 : Int32)) % (3 : Int32)) ((p1 &&& (2147483647 : Int32)) % (3 : Int32))))] [(.ref (F1 ((p1 &&& (2147483647 : Int32)) % (3 : Int32)) w_BOOL w_INT w_DOUBLE)), (.ref (F1 ((p0 &&& (2147483647 : Int32)) % (3 : Int32)) w_BOOL w_INT w_DOUBLE))])) rfl (by rw [hml]; rfl) (Steps.refl _) (argsL := [(.ref (F1 ((p1 &&& (2147483647 : Int32)) % (3 : Int32)) w_BOOL w_INT w_DOUBLE))]) (rest := []) (lenOf pd_1 rfl) rfl (by show 2 * 0 + _ ≤ _; exact Nat.le_of_eq rfl) (hb hby at_85) (fun _ _ => ⟨rfl, e12, (by decide : 1 + 0 ≤ _), (by decide : 9 + 0 ≤ _)⟩)
  dsimp only [Pt.U, Pt.locs, Pt.cells, Pt.slots] at X16 l16 y16 z16 st16 hQ16
  subst l16 y16 z16
  obtain ⟨rfl, N16q, e16⟩ := hQ16
  have N16 := Fr.app N12 N16q
  refine OFin.tr st16 ?_
  show OFin p e below _ _ T16 (mkF m 88 #[.val (.int p0), .val (.int p1), .val (.int ((p0 &&& (2147483647 : Int32)) % (3 : Int32))), .val (.int ((p1 &&& (2147483647 : Int32)) % (3 : Int32))), .val (.ref (F1 ((p0 &&& (2147483647 : Int32)) % (3 : Int32)) w_BOOL w_INT w_DOUBLE)), .val (.ref (F1 ((p1 &&& (2147483647 : Int32)) % (3 : Int32)) w_BOOL w_INT w_DOUBLE)), .val (.ref b3), .val (.int (Tb ((p0 &&& (2147483647 : Int32)) % (3 : Int32)) ((p1 &&& (2147483647 : Int32)) % (3 : Int32))))] [(.int (F2 (F1 ((p0 &&& (2147483647 : Int32)) % (3 : Int32)) w_BOOL w_INT w_DOUBLE) (F1 ((p1 &&& (2147483647 : Int32)) % (3 : Int32)) w_BOOL w_INT w_DOUBLE) w_DOUBLE w_INT))])
  refine OFin.st (fun t k => XS.iload X16.here hx rfl (hb hby at_88) rfl k) ?_
  show OFin p e below _ _ T16 (mkF m 90 #[.val (.int p0), .val (.int p1), .val (.int ((p0 &&& (2147483647 : Int32)) % (3 : Int32))), .val (.int ((p1 &&& (2147483647 : Int32)) % (3 : Int32))), .val (.ref (F1 ((p0 &&& (2147483647 : Int32)) % (3 : Int32)) w_BOOL w_INT w_DOUBLE)), .val (.ref (F1 ((p1 &&& (2147483647 : Int32)) % (3 : Int32)) w_BOOL w_INT w_DOUBLE)), .val (.ref b3), .val (.int (Tb ((p0 &&& (2147483647 : Int32)) % (3 : Int32)) ((p1 &&& (2147483647 : Int32)) % (3 : Int32))))] [(.int (Tb ((p0 &&& (2147483647 : Int32)) % (3 : Int32)) ((p1 &&& (2147483647 : Int32)) % (3 : Int32)))), (.int (F2 (F1 ((p0 &&& (2147483647 : Int32)) % (3 : Int32)) w_BOOL w_INT w_DOUBLE) (F1 ((p1 &&& (2147483647 : Int32)) % (3 : Int32)) w_BOOL w_INT w_DOUBLE) w_DOUBLE w_INT))])
  refine OFin.st (fun t k => XS.icmpNo X16.here hx rfl (hb hby at_90) rfl (teq (own_eq _ _ (own_k3 p0) (own_k3 p1) w_BOOL w_INT w_DOUBLE N_w_BOOL_w_INT N_w_BOOL_w_DOUBLE N_w_INT_w_DOUBLE)).2 k) ?_
  show OFin p e below _ _ T16 (mkF m 93 #[.val (.int p0), .val (.int p1), .val (.int ((p0 &&& (2147483647 : Int32)) % (3 : Int32))), .val (.int ((p1 &&& (2147483647 : Int32)) % (3 : Int32))), .val (.ref (F1 ((p0 &&& (2147483647 : Int32)) % (3 : Int32)) w_BOOL w_INT w_DOUBLE)), .val (.ref (F1 ((p1 &&& (2147483647 : Int32)) % (3 : Int32)) w_BOOL w_INT w_DOUBLE)), .val (.ref b3), .val (.int (Tb ((p0 &&& (2147483647 : Int32)) % (3 : Int32)) ((p1 &&& (2147483647 : Int32)) % (3 : Int32))))] [])
  refine OFin.st (fun t k => XS.iconst X16.here hx rfl (hb hby at_93) k) ?_
  show OFin p e below _ _ T16 (mkF m 94 #[.val (.int p0), .val (.int p1), .val (.int ((p0 &&& (2147483647 : Int32)) % (3 : Int32))), .val (.int ((p1 &&& (2147483647 : Int32)) % (3 : Int32))), .val (.ref (F1 ((p0 &&& (2147483647 : Int32)) % (3 : Int32)) w_BOOL w_INT w_DOUBLE)), .val (.ref (F1 ((p1 &&& (2147483647 : Int32)) % (3 : Int32)) w_BOOL w_INT w_DOUBLE)), .val (.ref b3), .val (.int (Tb ((p0 &&& (2147483647 : Int32)) % (3 : Int32)) ((p1 &&& (2147483647 : Int32)) % (3 : Int32))))] [(.int (1 : Int32))])
  refine OFin.st (fun t k => XS.goto X16.here hx rfl (pc0 := 94) (pc' := 98) rfl (hb hby at_94) (by decide) (by decide) k) ?_
  show OFin p e below _ _ T16 (mkF m 98 #[.val (.int p0), .val (.int p1), .val (.int ((p0 &&& (2147483647 : Int32)) % (3 : Int32))), .val (.int ((p1 &&& (2147483647 : Int32)) % (3 : Int32))), .val (.ref (F1 ((p0 &&& (2147483647 : Int32)) % (3 : Int32)) w_BOOL w_INT w_DOUBLE)), .val (.ref (F1 ((p1 &&& (2147483647 : Int32)) % (3 : Int32)) w_BOOL w_INT w_DOUBLE)), .val (.ref b3), .val (.int (Tb ((p0 &&& (2147483647 : Int32)) % (3 : Int32)) ((p1 &&& (2147483647 : Int32)) % (3 : Int32))))] [(.int (1 : Int32))])
  exact own_retN X16 hx Bd.returns Bd.notSynchronized (t := .boolean) (by simp) rfl (hb hby at_98) (by show Qrm0 Z p0 p1 w_BOOL w_INT w_DOUBLE h0 n0 _ T16.heap _; rw [e16]; exact ⟨rfl, N16, K12⟩) (own_endN (by decide) (by decide))
set_option maxRecDepth 65536 in
set_option maxHeartbeats 40000000 in
theorem comes_1 {Post : Tables → Env → Array Value → State → Outcome → State → Prop} (hpost : ∀ tb e args s v u, (limb_1_1.after args s (.returned v) u = true ∧ limb_1_2.after args s (.returned v) u = true ∧ True) → FrameEnd s (.returned v) u (Jvm.fieldLocs frame_1_writes args s ++ Jvm.arrayLocs frame_1_arrays args s ++ Jvm.staticLocs frame_1_statics s) 16 128 → Post tb e args s (.returned v) u) :
    ArmFor flags0 classFile x code maxLocals ret World_1 tables_1 room_1 Calls_1 rest_1 Pre_1 Post := by
  intro l hfl _ _ p e ha hc hk s m args below hf hA hF happ hP
  obtain ⟨hcalls, hrest, hpre⟩ := hP
  obtain ⟨-, -, -, hnamed, -, -, -, hat⟩ := (Spec.applies_iff hf).mp happ
  obtain ⟨hg, hn⟩ := and_e (Cond.before_iff.mp (show (Jvm.Cond.and given_1 narrow_1).before args s = true from hpre))
  obtain ⟨g1a, g1b⟩ := and_e hg
  obtain ⟨g2a, g2b⟩ := and_e g1b
  obtain ⟨c1a, c1b⟩ := and_e hn
  obtain ⟨c2a, c2b⟩ := and_e c1b
  obtain ⟨c3a, c3b⟩ := and_e c2b
  obtain ⟨c4a, c4b⟩ := and_e c3b
  obtain ⟨c5a, c5b⟩ := and_e c4b
  obtain ⟨w0, w1, rfl⟩ : ∃ w0 w1 : Value, args = #[w0, w1] := by
    have hs : args.size = 2 := by simpa [Cond.value, given_1] using g1a
    obtain ⟨L⟩ := args
    match L, hs with
    | [w0, w1], _ => exact ⟨w0, w1, rfl⟩
  have hw := fun d (hd : d ∈ tables_1) => atoms_spec (ws := Jvm.Cond.code x code maxLocals ret :: tables_1) hat d (List.mem_cons_of_mem _ hd)
  have hfit : Fit s := fun {y c} hc i hi => by
    obtain ⟨ha, rfl⟩ := Array.getElem?_eq_some_iff.mp hc
    have q := List.all_eq_true.mp ((Array.all_eq_true_iff_forall_mem.mp hF) _ (Array.getElem_mem ha)) i (List.mem_range.mpr hi)
    simpa [Array.getElem?_eq_getElem hi] using q
  obtain ⟨i0, ei0⟩ := is_v g2a
  obtain rfl : w0 = (.int i0) := Option.some.inj ei0
  obtain ⟨i1, ei1⟩ := is_v g2b
  obtain rfl : w1 = (.int i1) := Option.some.inj ei1
  obtain ⟨w_BOOL, ev_BOOL⟩ := exa_v c1a
  have E_w_BOOL := Exa.start ev_BOOL c1a
  have S_BOOL := Sta.start ev_BOOL (Or.inr ⟨(hw _ (List.mem_of_getElem? (i := 6) rfl)), (hw _ (List.mem_of_getElem? (i := 7) rfl))⟩)
  obtain ⟨w_DOUBLE, ev_DOUBLE⟩ := exa_v c2a
  have E_w_DOUBLE := Exa.start ev_DOUBLE c2a
  have S_DOUBLE := Sta.start ev_DOUBLE (Or.inr ⟨(hw _ (List.mem_of_getElem? (i := 6) rfl)), (hw _ (List.mem_of_getElem? (i := 15) rfl))⟩)
  obtain ⟨w_INT, ev_INT⟩ := exa_v c3a
  have E_w_INT := Exa.start ev_INT c3a
  have S_INT := Sta.start ev_INT (Or.inr ⟨(hw _ (List.mem_of_getElem? (i := 6) rfl)), (hw _ (List.mem_of_getElem? (i := 17) rfl))⟩)
  have F_ordinal_w_INT := own_fldI ev_INT c4a
  have F_ordinal_w_DOUBLE := own_fldI ev_DOUBLE c5a
  have F_ordinal_w_BOOL := own_fldI ev_BOOL c5b
  have N_w_BOOL_w_INT := F_ordinal_w_BOOL.ne F_ordinal_w_INT (by decide)
  have N_w_BOOL_w_DOUBLE := F_ordinal_w_BOOL.ne F_ordinal_w_DOUBLE (by decide)
  have N_w_INT_w_DOUBLE := F_ordinal_w_INT.ne F_ordinal_w_DOUBLE (by decide)
  obtain ⟨n, o, h1, h2, h3, _, L, rfl, ⟨rfl, N, -⟩, hq⟩ := rm0 l s _ hw tables_1 i0 i1 w_BOOL w_INT w_DOUBLE s.heap s.heap.size (Old.start s) N_w_BOOL_w_INT N_w_BOOL_w_DOUBLE N_w_INT_w_DOUBLE E_w_BOOL E_w_INT E_w_DOUBLE S_BOOL S_INT S_DOUBLE p e ha hc hk s m _ below hf ((Spec.applies_iff_loose hf).mp happ).1 ⟨rfl, State.Warmed39.refl s, rfl⟩ trivial
  refine ⟨n, _, h1, h2, h3, hpost _ _ _ _ _ _ ⟨Cond.after_iff.mpr rfl, Cond.after_iff.mpr (eq_i res_at (Term.int_eval (1)) rfl), trivial⟩ ⟨hq.1, hq.2.1, (hq.2.2.sift fun y hy => Or.inr (N y hy)).mono (by decide) (by decide)⟩⟩
theorem main_1_1 : Claimed_1_1 := comes_1 fun _ _ _ _ _ _ h hF => ⟨h.1, hF⟩
theorem main_1_2 : Claimed_1_2 := comes_1 fun _ _ _ _ _ _ h hF => ⟨h.2.1, hF⟩
end Jvm.Pilot.@@N@@
namespace Jvm.Pilot.@@N@@
open Jvm Jvm.ClassFile Sem Op Lib Jvm.Free Jvm.Stand Jvm.Pilot.@@N@@.Jvm.D
/-! MADE BY PROGRAM (witnessworld.py) out of the Statement's table words and the real class files: 14 classes; the members and pool entries that the words name. The judged class is class 1, her method 2. -/
namespace start1
open Jvm.ClassFile
def u (s : String) : CpInfo := .utf8 (stringToUtf16 s)
/-- a pool by its gaps: so many unusable entries, then the entry; so many at the end -/
def gap : Nat → List CpInfo → List CpInfo
  | 0, r => r
  | n + 1, r => .unusable :: gap n r
def poolList (es : List (Nat × CpInfo)) (last : Nat) : List CpInfo := es.foldr (fun e r => gap e.1 (e.2 :: r)) (gap last [])
def pool (es : List (Nat × CpInfo)) (last : Nat) : Array CpInfo := ⟨poolList es last⟩
def fileOf (pool : Array CpInfo) (this : Nat) (attrs : Array Attribute := #[]) (ms : Array MethodInfo := #[]) (fl : Nat := 33) (sup : Nat := 0) (ifs : Array Nat := #[]) (fds : Array FieldInfo := #[]) : ClassFile where
  minorVersion := 0
  majorVersion := 65
  constantPool := pool
  accessFlags := fl
  thisClass := this
  superClass := sup
  interfaces := ifs
  fields := fds
  methods := ms
  attributes := attrs
def plain (name : String) (sup : Option ClassId) : Class where
  name := name
  kind := .ordinary
  loader := none
  accessFlags := 33
  super := sup
  interfaces := #[]
  cf := none
  fields := #[]
  methods := #[]
  instanceTypes := #[]
  staticTypes := #[]
  resolved := #[]
  callSites := []
  init := .initialized
  statics := none
  mirror := none

def pool0 : Array CpInfo := pool [(5, u "<init>"), (0, u "()V"), (1, .class_ 10), (1, u "java/lang/Object")] 113

def k0m0 : Method := { name := "<init>", desc := "()V", sig := { parameters := [], returnType := none }, accessFlags := 1, code := none }
/-- java/lang/Object -/
def k0 : Class := { plain "java/lang/Object" none with
  accessFlags := 33
  interfaces := #[]
  cf := some (fileOf pool0 8 #[] #[{ accessFlags := 1, nameIndex := 5, descriptorIndex := 6, attributes := #[] }] 33 0 #[] #[])
  fields := #[]
  methods := #[k0m0]
  instanceTypes := #[]
  staticTypes := #[]
  resolved := Array.replicate 124 none
  statics := none }

def pool1 : Array CpInfo := pool [(2, .class_ 4), (1, u "java/lang/Object"), (0, u "<init>"), (0, u "()V"), (0, .fieldref 8 9), (0, .class_ 10), (0, .nameAndType 11 12), (0, u "com/example/doubt3/doubt3/core/expr/Type"), (0, u "BOOL"), (0, u "Lcom/example/doubt3/doubt3/core/expr/Type;"), (0, .fieldref 8 14), (0, .nameAndType 15 12), (0, u "INT"), (0, .fieldref 8 17), (0, .nameAndType 18 12), (0, u "DOUBLE"), (0, .integer 2147483647), (0, .methodref 21 22), (0, .class_ 23), (0, .nameAndType 24 25), (0, u "com/example/doubt3/doubt3/core/expr/TypeAcceptsPinLaw"), (0, u "pick"), (0, u "(I)Lcom/example/doubt3/doubt3/core/expr/Type;"), (0, .methodref 8 27), (0, .nameAndType 28 29), (0, u "accepts"), (0, u "(Lcom/example/doubt3/doubt3/core/expr/Type;)Z"), (3, u "law"), (0, u "(II)Z")] 4

def k1m0 : Method := { name := "<init>", desc := "()V", sig := { parameters := [], returnType := none }, accessFlags := 2, code := none }
def k1c1 : Code := { maxStack := 2, maxLocals := 1, code := method_2_code, exceptionTable := #[], attributes := #[] }
def k1m1 : Method := { name := "pick", desc := "(I)Lcom/example/doubt3/doubt3/core/expr/Type;", sig := { parameters := [.int], returnType := some (.object "com/example/doubt3/doubt3/core/expr/Type") }, accessFlags := 10, code := some k1c1 }
def k1c2 : Code := { maxStack := 4, maxLocals := 8, code := code, exceptionTable := #[], attributes := #[] }
def k1m2 : Method := { name := "law", desc := "(II)Z", sig := { parameters := [.int, .int], returnType := some .boolean }, accessFlags := 9, code := some k1c2 }
/-- com/example/doubt3/doubt3/core/expr/TypeAcceptsPinLaw -/
def k1 : Class := { plain "com/example/doubt3/doubt3/core/expr/TypeAcceptsPinLaw" (some 0) with
  accessFlags := 49
  interfaces := #[]
  cf := some (fileOf pool1 21 #[] #[{ accessFlags := 2, nameIndex := 5, descriptorIndex := 6, attributes := #[] }, { accessFlags := 10, nameIndex := 24, descriptorIndex := 25, attributes := #[] }, { accessFlags := 9, nameIndex := 33, descriptorIndex := 34, attributes := #[] }] 49 2 #[] #[])
  fields := #[]
  methods := #[k1m0, k1m1, k1m2]
  instanceTypes := #[]
  staticTypes := #[]
  resolved := Array.replicate 39 none
  statics := none }

def pool2 : Array CpInfo := pool [(1, .class_ 2), (0, u "java/lang/constant/Constable"), (0, .class_ 4), (0, u "java/lang/Object")] 6

/-- java/lang/constant/Constable -/
def k2 : Class := { plain "java/lang/constant/Constable" (some 0) with
  accessFlags := 1537
  interfaces := #[]
  cf := some (fileOf pool2 1 #[] #[] 1537 3 #[] #[])
  fields := #[]
  methods := #[]
  instanceTypes := #[]
  staticTypes := #[]
  resolved := Array.replicate 11 none
  statics := none }

def pool3 : Array CpInfo := pool [(1, .class_ 2), (0, u "java/lang/Comparable"), (0, .class_ 4), (0, u "java/lang/Object")] 7

/-- java/lang/Comparable -/
def k3 : Class := { plain "java/lang/Comparable" (some 0) with
  accessFlags := 1537
  interfaces := #[]
  cf := some (fileOf pool3 1 #[] #[] 1537 3 #[] #[])
  fields := #[]
  methods := #[]
  instanceTypes := #[]
  staticTypes := #[]
  resolved := Array.replicate 12 none
  statics := none }

def pool4 : Array CpInfo := pool [(1, .class_ 2), (0, u "java/io/Serializable"), (0, .class_ 4), (0, u "java/lang/Object")] 2

/-- java/io/Serializable -/
def k4 : Class := { plain "java/io/Serializable" (some 0) with
  accessFlags := 1537
  interfaces := #[]
  cf := some (fileOf pool4 1 #[] #[] 1537 3 #[] #[])
  fields := #[]
  methods := #[]
  instanceTypes := #[]
  staticTypes := #[]
  resolved := Array.replicate 7 none
  statics := none }

def pool5 : Array CpInfo := pool [(2, .class_ 4), (1, u "java/lang/Enum"), (0, u "name"), (0, u "Ljava/lang/String;"), (2, u "ordinal"), (0, u "I"), (1, .class_ 14), (1, u "java/lang/Object"), (4, u "hash"), (86, .class_ 108), (1, u "java/lang/Enum$EnumDesc"), (2, .class_ 112), (0, u "java/lang/constant/Constable"), (0, .class_ 114), (0, u "java/lang/Comparable"), (0, .class_ 116), (0, u "java/io/Serializable")] 87

/-- java/lang/Enum -/
def k5 : Class := { plain "java/lang/Enum" (some 0) with
  accessFlags := 1057
  interfaces := #[2, 3, 4]
  cf := some (fileOf pool5 2 #[.nestMembers #[106]] #[] 1057 12 #[111, 113, 115] #[{ accessFlags := 18, nameIndex := 5, descriptorIndex := 6, attributes := #[] }, { accessFlags := 18, nameIndex := 9, descriptorIndex := 10, attributes := #[] }, { accessFlags := 2, nameIndex := 19, descriptorIndex := 10, attributes := #[] }])
  fields := #[{ name := "name", type := (.object "java/lang/String"), accessFlags := 18, slot := 0, constantValue := 0 }, { name := "ordinal", type := .int, accessFlags := 18, slot := 1, constantValue := 0 }, { name := "hash", type := .int, accessFlags := 2, slot := 2, constantValue := 0 }]
  methods := #[]
  instanceTypes := #[(.object "java/lang/String"), .int, .int]
  staticTypes := #[]
  resolved := Array.replicate 204 none
  statics := none }

def pool6 : Array CpInfo := pool [(1, .class_ 2), (0, u "com/example/doubt3/doubt3/core/expr/Type"), (2, u "BOOL"), (0, u "Lcom/example/doubt3/doubt3/core/expr/Type;"), (0, .fieldref 1 8), (0, .nameAndType 9 6), (0, u "INT"), (0, .fieldref 1 11), (0, .nameAndType 12 6), (0, u "DOUBLE"), (2, u "$VALUES"), (0, u "[Lcom/example/doubt3/doubt3/core/expr/Type;"), (6, .class_ 25), (1, u "java/lang/Enum"), (8, u "keyword"), (0, u "Ljava/lang/String;"), (27, u "accepts"), (0, u "(Lcom/example/doubt3/doubt3/core/expr/Type;)Z")] 5

def k6c0 : Code := { maxStack := 2, maxLocals := 2, code := prog_17_method_6_code, exceptionTable := #[], attributes := #[] }
def k6m0 : Method := { name := "accepts", desc := "(Lcom/example/doubt3/doubt3/core/expr/Type;)Z", sig := { parameters := [(.object "com/example/doubt3/doubt3/core/expr/Type")], returnType := some .boolean }, accessFlags := 1, code := some k6c0 }
/-- com/example/doubt3/doubt3/core/expr/Type -/
def k6 : Class := { plain "com/example/doubt3/doubt3/core/expr/Type" (some 5) with
  accessFlags := 16433
  interfaces := #[]
  cf := some (fileOf pool6 1 #[] #[{ accessFlags := 1, nameIndex := 63, descriptorIndex := 64, attributes := #[] }] 16433 23 #[] #[{ accessFlags := 16409, nameIndex := 5, descriptorIndex := 6, attributes := #[] }, { accessFlags := 16409, nameIndex := 9, descriptorIndex := 6, attributes := #[] }, { accessFlags := 16409, nameIndex := 12, descriptorIndex := 6, attributes := #[] }, { accessFlags := 18, nameIndex := 34, descriptorIndex := 35, attributes := #[] }, { accessFlags := 4122, nameIndex := 15, descriptorIndex := 16, attributes := #[] }])
  fields := #[{ name := "BOOL", type := (.object "com/example/doubt3/doubt3/core/expr/Type"), accessFlags := 16409, slot := 0, constantValue := 0 }, { name := "INT", type := (.object "com/example/doubt3/doubt3/core/expr/Type"), accessFlags := 16409, slot := 1, constantValue := 0 }, { name := "DOUBLE", type := (.object "com/example/doubt3/doubt3/core/expr/Type"), accessFlags := 16409, slot := 2, constantValue := 0 }, { name := "keyword", type := (.object "java/lang/String"), accessFlags := 18, slot := 3, constantValue := 0 }, { name := "$VALUES", type := (.array (.object "com/example/doubt3/doubt3/core/expr/Type")), accessFlags := 4122, slot := 3, constantValue := 0 }]
  methods := #[k6m0]
  instanceTypes := #[(.object "java/lang/String"), .int, .int, (.object "java/lang/String")]
  staticTypes := #[(.object "com/example/doubt3/doubt3/core/expr/Type"), (.object "com/example/doubt3/doubt3/core/expr/Type"), (.object "com/example/doubt3/doubt3/core/expr/Type"), (.array (.object "com/example/doubt3/doubt3/core/expr/Type"))]
  resolved := Array.replicate 70 none
  statics := some 0 }

def pool7 : Array CpInfo := pool [(1, u "java/lang/Cloneable"), (0, .class_ 1), (0, u "java/lang/Object"), (0, .class_ 3)] 3

/-- java/lang/Cloneable -/
def k7 : Class := { plain "java/lang/Cloneable" (some 0) with
  accessFlags := 1537
  interfaces := #[]
  cf := some (fileOf pool7 2 #[] #[] 1537 4 #[] #[])
  fields := #[]
  methods := #[]
  instanceTypes := #[]
  staticTypes := #[]
  resolved := Array.replicate 8 none
  statics := none }

/-- the primitive boolean -/
def k8 : Class := { plain "boolean" none with kind := .primitive 'Z', accessFlags := 0x411 }
/-- [Z -/
def k9 : Class := { plain "[Z" (some 0) with kind := .array 8 .boolean, interfaces := #[7, 4], accessFlags := 1041 }

/-- the primitive byte -/
def k10 : Class := { plain "byte" none with kind := .primitive 'B', accessFlags := 0x411 }
/-- [B -/
def k11 : Class := { plain "[B" (some 0) with kind := .array 10 .byte, interfaces := #[7, 4], accessFlags := 1041 }

/-- the primitive int -/
def k12 : Class := { plain "int" none with kind := .primitive 'I', accessFlags := 0x411 }
/-- [I -/
def k13 : Class := { plain "[I" (some 0) with kind := .array 12 .int, interfaces := #[7, 4], accessFlags := 1041 }

def heap : Heap := #[{ cls := 6, slots := #[.ref 1, .ref 3, .ref 2, .null], vm := .statics 6 },
  { cls := 6, slots := #[.null, .int 0, .int 0, .null], vm := .none },
  { cls := 6, slots := #[.null, .int 2, .int 0, .null], vm := .none },
  { cls := 6, slots := #[.null, .int 1, .int 0, .null], vm := .none }]
def classes : Array Class := #[k0, k1, k2, k3, k4, k5, k6, k7, k8, k9, k10, k11, k12, k13]
def interned : List (Array UInt16 × Addr) := []
def slotsUsed : Nat := 16
def theMethod : MethodId := ⟨1, 2⟩
def args0 : Array Value := #[.int 5, .int 7]
def aboutOver (below : List Frame) : State where
  vm := { classes := classes, interned := interned.toArray }
  heap := heap
  slotsUsed := slotsUsed
  threads := #[{ frames := .invoking theMethod args0 :: below }]
def below0 : List Frame := [.native { method := ⟨0, 0⟩, args := #[] }]
def about1 : State := aboutOver below0
def p0 : Program := .bare "" "" ""
def e0 : Env := launch0.env 0 0 0
theorem w_frames : about1.frames = Frame.invoking theMethod args0 :: below0 := rfl
set_option maxRecDepth 65536 in
theorem w_args : argsFit about1.vm theMethod args0 = true := by decide +kernel
set_option maxRecDepth 65536 in
theorem w_heap : heapFits about1 = true := by decide +kernel
set_option maxRecDepth 65536 in
theorem w_runnable : about1.curStatus? = some .runnable := by decide +kernel
set_option maxRecDepth 65536 in
theorem w_alone : about1.alone = true := by decide +kernel
set_option maxRecDepth 65536 in
theorem w_named : about1.methodNamed? x = some theMethod := by decide +kernel
set_option maxRecDepth 65536 in
theorem w_hears : about1.hears theMethod below0 = true := by decide +kernel
set_option maxRecDepth 65536 in
theorem w_ripe : about1.ripe theMethod args0 below0 = true := by decide +kernel
theorem w_running : about1.status = .running := rfl
set_option maxRecDepth 65536 in
theorem w_room : about1.hasRoom e0.platform room_1 = true :=
  launch0.hasRoom_least _ room_1 (by decide +kernel) (by decide +kernel) (by decide +kernel) (by decide +kernel) (by decide +kernel) (by decide +kernel)
theorem allAtoms_all (ts : List Jvm.Cond) (a : Array Jvm.Value) (st : Jvm.State) : (allAtoms ts).before a st = ts.all (fun c => c.before a st) := by
  induction ts with
  | nil => rfl
  | cons c t ih =>
    show (Jvm.Cond.and c (allAtoms t)).before a st = _
    rw [Jvm.Cond.before_and, ih, List.all_cons]
def words1 : List Jvm.Cond := Jvm.Cond.code x code maxLocals ret :: tables_1
/-- a 'code' word, met by the world's own term for the bytes: nothing is compared byte by byte -/
theorem code_word {y : MethodName} {bytes : ByteArray} {mx : Nat} {rt : Option FieldType} {a : Array Value} {s : State} {m : MethodId} {meth : Method} {c : Code} (h1 : s.methodNamed? y = some m) (h2 : s.vm.method? m = some meth) (h3 : meth.code = some c) (h4 : c.code = bytes)
    (h5 : (c.maxLocals == mx && c.exceptionTable.isEmpty && decide (c.maxStack ≤ mostOperands) && decide (meth.sig.returnType = rt) && !meth.locks && decide (parseMethodDescriptor y.desc = some meth.sig)) = true) : (Jvm.Cond.code y bytes mx rt).before a s = true := by
  simp only [Bool.and_eq_true, beq_iff_eq, Bool.not_eq_true', decide_eq_true_eq] at h5
  obtain ⟨⟨⟨⟨⟨g1, g2⟩, g3⟩, g4⟩, g5⟩, g6⟩ := h5
  simp [Cond.before, Cond.holds, Cond.value, h1, h2, h3, h4, g1, g2, g3, g4, g5, g6]
def isCode : Jvm.Cond → Bool
  | .code _ _ _ _ => true
  | _ => false
theorem all_split {L : List Jvm.Cond} {P : Jvm.Cond → Bool} (h1 : L.all (fun c => isCode c || P c) = true) (h2 : ∀ c ∈ L.filter isCode, P c = true) : L.all P = true := by
  refine List.all_eq_true.mpr fun c hc => ?_
  have h := List.all_eq_true.mp h1 c hc
  rcases Bool.eq_false_or_eq_true (isCode c) with hi | hi
  · exact h2 c (List.mem_filter.mpr ⟨hc, hi⟩)
  · simpa [hi] using h
set_option maxRecDepth 65536 in
theorem w_c0 : (Jvm.Cond.code x code maxLocals ret).before args0 about1 = true := code_word (m := ⟨1, 2⟩) (meth := k1m2) (c := k1c2) (by decide +kernel) rfl rfl rfl (by decide +kernel)
set_option maxRecDepth 65536 in
theorem w_c1 : (Jvm.Cond.code ({ cls := "com/example/doubt3/doubt3/core/expr/TypeAcceptsPinLaw", name := "pick", desc := "(I)Lcom/example/doubt3/doubt3/core/expr/Type;" } : Jvm.MethodName) method_2_code (1 : Nat) (Option.some (Jvm.ClassFile.FieldType.object "com/example/doubt3/doubt3/core/expr/Type"))).before args0 about1 = true := code_word (m := ⟨1, 1⟩) (meth := k1m1) (c := k1c1) (by decide +kernel) rfl rfl rfl (by decide +kernel)
set_option maxRecDepth 65536 in
theorem w_c2 : (Jvm.Cond.code ({ cls := "com/example/doubt3/doubt3/core/expr/Type", name := "accepts", desc := "(Lcom/example/doubt3/doubt3/core/expr/Type;)Z" } : Jvm.MethodName) prog_17_method_6_code (2 : Nat) (Option.some Jvm.ClassFile.FieldType.boolean)).before args0 about1 = true := code_word (m := ⟨6, 0⟩) (meth := k6m0) (c := k6c0) (by decide +kernel) rfl rfl rfl (by decide +kernel)
def codes1 : List Jvm.Cond := [Jvm.Cond.code x code maxLocals ret, Jvm.Cond.code ({ cls := "com/example/doubt3/doubt3/core/expr/TypeAcceptsPinLaw", name := "pick", desc := "(I)Lcom/example/doubt3/doubt3/core/expr/Type;" } : Jvm.MethodName) method_2_code (1 : Nat) (Option.some (Jvm.ClassFile.FieldType.object "com/example/doubt3/doubt3/core/expr/Type")), Jvm.Cond.code ({ cls := "com/example/doubt3/doubt3/core/expr/Type", name := "accepts", desc := "(Lcom/example/doubt3/doubt3/core/expr/Type;)Z" } : Jvm.MethodName) prog_17_method_6_code (2 : Nat) (Option.some Jvm.ClassFile.FieldType.boolean)]
set_option maxRecDepth 65536 in
theorem codes_eq : words1.filter isCode = codes1 := rfl
theorem w_codes : ∀ c ∈ words1.filter isCode, c.before args0 about1 = true := by
  rw [codes_eq]
  intro c hc
  simp only [codes1, List.mem_cons, List.not_mem_nil, or_false] at hc
  rcases hc with rfl | rfl | rfl
  · exact w_c0
  · exact w_c1
  · exact w_c2
set_option maxRecDepth 65536 in
theorem w_t1 : words1.all (fun c => isCode c || c.before args0 about1) = true := by decide +kernel
theorem w_tables : (allAtoms (Jvm.Cond.code x code maxLocals ret :: tables_1)).before args0 about1 = true := by
  rw [allAtoms_all]
  show words1.all (fun c => c.before args0 about1) = true
  refine all_split ?_ w_codes
  rw [w_t1]
set_option maxRecDepth 65536 in
theorem w_case : (Jvm.Cond.and given_1 narrow_1).before args0 about1 = true := by decide +kernel
theorem w_applies : (headSpec (Jvm.Cond.code x code maxLocals ret :: tables_1) room_1).applies x e0.platform about1 = true :=
  (Spec.applies_iff w_frames).mpr ⟨w_running, w_runnable, w_alone, w_named, w_hears, w_ripe, w_room, w_tables⟩
theorem atStart : AtStart classFile x code maxLocals ret World_1 tables_1 room_1 Calls_1 rest_1 Pre_1 launch0 p0 e0 about1 theMethod args0 below0 :=
  ⟨lists_1, trivial, launch0.admits_env _ _ _, launch0.least_env, fairChoices_fair.cas, fairChoices_fair.clock, w_frames, w_args, w_heap, w_applies, trivial, trivial, w_case⟩
end start1
theorem witness_1 : WitnessClaimed_1 := ⟨start1.p0, start1.e0, start1.about1, start1.theMethod, start1.args0, start1.below0, start1.atStart⟩
end Jvm.Pilot.@@N@@
