import JvmDerived
import JvmDerived.Pilot.@@N@@Statement
import JvmDerived.Pilot.@@N@@Code
set_option linter.unusedVariables false
set_option linter.unusedSimpArgs false
namespace Jvm.RoadKit
open Sem ClassFile Op Lib Jvm.Stand Jvm.Free Jvm.LawKit
section Own
variable {p : Program} {l : Launch} {e : Env} {R : Room} {s : State} {m : MethodId} {args : Array Value} {below : List Frame} {meth : Method} {c : Code} {T T' : State} {locs : List Loc} {cells slots kc ks : Nat} {Q : Option Value → Heap → List Loc → Prop} {g g' : JFrame} {FE : Outcome → State → List Loc → Prop}
/-- from T with the frame g on top the body comes to its end: what it returns, the heap and the places written are as Q says; FE: the frame's own word of that end -/
def OFin (p : Program) (e : Env) (below : List Frame) (FE : Outcome → State → List Loc → Prop) (Q : Option Value → Heap → List Loc → Prop) (T : State) (g : JFrame) : Prop :=
  ∃ s₂ o, Steps p.tables e below (T.setTop g) s₂ ∧ s₂.status = .running ∧ Ended s₂ below o ∧ ∃ v L, o = .returned v ∧ Q v s₂.heap L ∧ FE o s₂ L
theorem OFin.st (st : ∀ target, Steps p.tables e below (T'.setTop g') target → Steps p.tables e below (T.setTop g) target) (h : OFin p e below FE Q T' g') : OFin p e below FE Q T g := by
  obtain ⟨s₂, o, h1, r⟩ := h; exact ⟨s₂, o, st _ h1, r⟩
theorem OFin.tr (st : Steps p.tables e below (T.setTop g) (T'.setTop g')) (h : OFin p e below FE Q T' g') : OFin p e below FE Q T g := h.st fun _ k => st.trans k
theorem OFin.cast (q : g = g') (h : OFin p e below FE Q T g') : OFin p e below FE Q T g := q ▸ h
/-- the end's frame: narrow (nothing interned), and wide (over the tables at hand) -/
theorem own_endN {v : Option Value} (hc : cells ≤ kc) (hs : slots ≤ ks) : ∀ fs : List Frame, s.WarmedH (T.setFrames fs).vm → s.sameButNew ({ T.setFrames fs with vm := s.vm } : State) locs cells slots → FrameEnd s (.returned v) (T.setFrames fs) locs kc ks :=
  fun fs hW h => ⟨⟨v, rfl⟩, hW, h.mono hc hs⟩
theorem own_endW {vm₁ : Vm} {n : Nat} {v : Option Value} (hS : s.Since vm₁ n) (hn : n ≤ T.heap.size) (hc : cells ≤ kc) (hs : slots ≤ ks) : ∀ fs : List Frame, (s.setVm vm₁).WarmedH (T.setFrames fs).vm → (s.setVm vm₁).sameButNew ({ T.setFrames fs with vm := vm₁ } : State) locs cells slots → ReturnedEndW s (.returned v) (T.setFrames fs) locs kc ks :=
  fun fs hW h => by
    obtain ⟨a, b, c'⟩ := hS.ended (U := T.setFrames fs) hW hn h
    exact ⟨⟨v, rfl⟩, a, b, c'.mono hc hs⟩
theorem own_retV (X : Stand p l e R s m args below meth c T locs cells slots) (hx : p.tables.exec = Jvm.exec) {pc : Nat} {Ls : Array Slot} (hret : meth.sig.returnType = none) (hlk : meth.locks = false) (hd : decode c.code pc = .ok (.return_, 1)) (hQ : Q none T.heap locs) (hE : ∀ fs : List Frame, s.WarmedH (T.setFrames fs).vm → s.sameButNew ({ T.setFrames fs with vm := s.vm } : State) locs cells slots → FE (.returned none) (T.setFrames fs) locs) : OFin p e below FE Q T (mkF m pc Ls []) := by
  obtain ⟨fs, hr, hrun, hended, hW, hsame⟩ := X.leave (v := none) (fun _ => rfl) hlk
  exact ⟨_, _, X.returnOut hx hret hd hr, hrun, hended, _, _, rfl, hQ, hE fs hW hsame⟩
theorem own_retI (X : Stand p l e R s m args below meth c T locs cells slots) (hx : p.tables.exec = Jvm.exec) {pc : Nat} {Ls : Array Slot} {z : Int32} {rest : List Value} (hret : meth.sig.returnType = some .int) (hlk : meth.locks = false) (hd : decode c.code pc = .ok (.ireturn, 1)) (hQ : Q (some (.int z)) T.heap locs) (hE : ∀ fs : List Frame, s.WarmedH (T.setFrames fs).vm → s.sameButNew ({ T.setFrames fs with vm := s.vm } : State) locs cells slots → FE (.returned (some (.int z))) (T.setFrames fs) locs) : OFin p e below FE Q T (mkF m pc Ls (.int z :: rest)) := by
  obtain ⟨fs, hr, hrun, hended, hW, hsame⟩ := X.leave (v := some (.int z)) (fun h => by rw [hret] at h; cases h) hlk
  exact ⟨_, _, retOut X hx hret rfl (Or.inl ⟨rfl, Or.inl rfl, z, rfl⟩) hd hr, hrun, hended, _, _, rfl, hQ, hE fs hW hsame⟩
theorem own_retN (X : Stand p l e R s m args below meth c T locs cells slots) (hx : p.tables.exec = Jvm.exec) {pc : Nat} {Ls : Array Slot} {z z' : Int32} {rest : List Value} {t : FieldType} (hret : meth.sig.returnType = some t) (hlk : meth.locks = false) (ht : t = .boolean ∨ t = .byte ∨ t = .char ∨ t = .short) (hz : nar t z = z') (hd : decode c.code pc = .ok (.ireturn, 1)) (hQ : Q (some (.int z')) T.heap locs) (hE : ∀ fs : List Frame, s.WarmedH (T.setFrames fs).vm → s.sameButNew ({ T.setFrames fs with vm := s.vm } : State) locs cells slots → FE (.returned (some (.int z'))) (T.setFrames fs) locs) : OFin p e below FE Q T (mkF m pc Ls (.int z :: rest)) := by
  subst hz
  obtain ⟨fs, hr, hrun, hended, hW, hsame⟩ := X.leave (v := some (.int (nar t z))) (fun h => by rw [hret] at h; cases h) hlk
  exact ⟨_, _, retN X hx hret ht hd hr, hrun, hended, _, _, rfl, hQ, hE fs hW hsame⟩
theorem own_retJ (X : Stand p l e R s m args below meth c T locs cells slots) (hx : p.tables.exec = Jvm.exec) {pc : Nat} {Ls : Array Slot} {z : Int64} {rest : List Value} (hret : meth.sig.returnType = some .long) (hlk : meth.locks = false) (hd : decode c.code pc = .ok (.lreturn, 1)) (hQ : Q (some (.long z)) T.heap locs) (hE : ∀ fs : List Frame, s.WarmedH (T.setFrames fs).vm → s.sameButNew ({ T.setFrames fs with vm := s.vm } : State) locs cells slots → FE (.returned (some (.long z))) (T.setFrames fs) locs) : OFin p e below FE Q T (mkF m pc Ls (.long z :: rest)) := by
  obtain ⟨fs, hr, hrun, hended, hW, hsame⟩ := X.leave (v := some (.long z)) (fun h => by rw [hret] at h; cases h) hlk
  exact ⟨_, _, retOut X hx hret rfl (Or.inr (Or.inl ⟨rfl, rfl, z, rfl⟩)) hd hr, hrun, hended, _, _, rfl, hQ, hE fs hW hsame⟩
theorem own_retR (X : Stand p l e R s m args below meth c T locs cells slots) (hx : p.tables.exec = Jvm.exec) {pc : Nat} {Ls : Array Slot} {w : Value} {t : FieldType} {rest : List Value} (hret : meth.sig.returnType = some t) (hlk : meth.locks = false) (ht : t.isReference = true) (hn : narrow t w = w) (hw : w.isRef = true) (hd : decode c.code pc = .ok (.areturn, 1)) (hQ : Q (some w) T.heap locs) (hE : ∀ fs : List Frame, s.WarmedH (T.setFrames fs).vm → s.sameButNew ({ T.setFrames fs with vm := s.vm } : State) locs cells slots → FE (.returned (some w)) (T.setFrames fs) locs) : OFin p e below FE Q T (mkF m pc Ls (w :: rest)) := by
  obtain ⟨fs, hr, hrun, hended, hW, hsame⟩ := X.leave (v := some w) (fun h => by rw [hret] at h; cases h) hlk
  exact ⟨_, _, retOut X hx hret hn (Or.inr (Or.inr (Or.inr (Or.inr ⟨rfl, ht, hw⟩)))) hd hr, hrun, hended, _, _, rfl, hQ, hE fs hW hsame⟩
end Own
end Jvm.RoadKit
namespace Jvm.RoadKit
open Sem ClassFile Op Lib Jvm.Stand Jvm.Free Jvm.LawKit
theorem own_fldI {args : Array Value} {s : State} {t : Term} {C n d : String} {a : Addr} {x : Int32} (ev : t.eval args s none [] s = some (.ref a)) (h : (Jvm.Cond.eq (Term.field t C n d) (Term.int x)).value args s none s [] = some true) : Fld s s.heap a C n d (.int x) := by
  obtain ⟨u, y, e1, e2, -, k2⟩ := cmp_v (Or.inl h)
  cases (Option.some.inj (e2.symm.trans (Term.int_eval x)) : y = .int x)
  obtain ⟨z, rfl⟩ := k2
  have q : z = x := by simpa [Jvm.Cond.value, e1, e2] using h
  subst q
  exact Fld.start ((fld_at ev).symm.trans e1)
theorem own_fldJ {args : Array Value} {s : State} {t : Term} {C n d : String} {a : Addr} {x : Int64} (ev : t.eval args s none [] s = some (.ref a)) (h : (Jvm.Cond.eq (Term.field t C n d) (Term.long x)).value args s none s [] = some true) : Fld s s.heap a C n d (.long x) := by
  obtain ⟨u, y, e1, e2, -, k2⟩ := cmp_v (Or.inl h)
  cases (Option.some.inj (e2.symm.trans (long_at x)) : y = .long x)
  obtain ⟨z, rfl⟩ := k2
  have q : z = x := by simpa [Jvm.Cond.value, e1, e2] using h
  subst q
  exact Fld.start ((fld_at ev).symm.trans e1)
end Jvm.RoadKit
namespace Jvm.RoadKit
theorem own_ite {α : Sort _} {P : α → Prop} {c : Prop} [Decidable c] {a b : α} (ha : P a) (hb : P b) : P (if c then a else b) := by split <;> assumption
theorem own_ite2 {α β : Sort _} {P : α → β → Prop} {c : Prop} [Decidable c] {a b : α} {a' b' : β} (ha : P a a') (hb : P b b') : P (if c then a else b) (if c then a' else b') := by split <;> assumption
/-- (x &&& 0x7fffffff) % d lies between 0 and d -/
theorem own_rem (x d : Int32) (n : Int) (hn : d.toInt = n) (h0 : 0 < n) : 0 ≤ ((x &&& (2147483647 : Int32)) % d).toInt ∧ ((x &&& (2147483647 : Int32)) % d).toInt < n := by
  have h1 := c_mask x (2147483647 : Int32) 31 (by decide) (by decide)
  have h2 := (c_irem (x &&& (2147483647 : Int32)) d n hn).1 (by rw [h1]; omega)
  rw [h2, h1]
  exact ⟨Int.emod_nonneg _ (by omega), Int.emod_lt_of_pos _ h0⟩
end Jvm.RoadKit
namespace Jvm.RoadKit
open Sem ClassFile Op Lib Jvm.Stand Jvm.Free Jvm.LawKit
theorem own_lremM {p : Program} {l : Launch} {e : Env} {R : Room} {s : State} {m : MethodId} {args : Array Value} {below : List Frame} {meth : Method} {c : Code} {T : State} {locs : List Loc} {cells slots : Nat} {g : JFrame} {target : State} (X : Stand p l e R s m args below meth c T locs cells slots) (hx : p.tables.exec = Jvm.exec) (hg : g.method = m) {x y : Int64} {rest : List Value} (hd : decode c.code g.pc = .ok (.lrem, 1)) (hs : g.stack = .long y :: .long x :: rest) (hy : y ≠ 0)
    (hr : Steps p.tables e below (T.setTop { g with pc := g.pc + 1, stack := .long (x % y) :: rest }) target) : Steps p.tables e below (T.setTop g) target :=
  XS.lrem X.here hx hg hd hs hy (by rw [lrem_mod]; exact hr)
end Jvm.RoadKit
namespace Jvm.RoadKit
open Sem ClassFile Op Lib Jvm.Stand Jvm.Free Jvm.LawKit
theorem own_pop2L {p : Program} {l : Launch} {e : Env} {R : Room} {s : State} {m : MethodId} {args : Array Value} {below : List Frame} {meth : Method} {c : Code} {T : State} {locs : List Loc} {cells slots : Nat} {g : JFrame} {target : State} (X : Stand p l e R s m args below meth c T locs cells slots) (hx : p.tables.exec = Jvm.exec) (hg : g.method = m) {x : Int64} {rest : List Value} (hd : decode c.code g.pc = .ok (.pop2, 1)) (hs : g.stack = .long x :: rest)
    (hr : Steps p.tables e below (T.setTop { g with pc := g.pc + 1, stack := rest }) target) : Steps p.tables e below (T.setTop g) target := by
  subst hg
  jvm_step X.here [X.here.top, hx, hd, hs, Value.category]
  exact hr
end Jvm.RoadKit
namespace Jvm.RoadKit
open Sem ClassFile Op Lib Jvm.Stand Jvm.Free Jvm.LawKit
section OwnArr
variable {p : Program} {l : Launch} {e : Env} {R : Room} {s : State} {m : MethodId} {args : Array Value} {below : List Frame} {meth : Method} {c : Code} {T T' : State} {locs : List Loc} {cells slots kc ks : Nat} {Q : Option Value → Heap → List Loc → Prop} {FE : Outcome → State → List Loc → Prop} {Z : State} {h h' : Heap} {a b : Addr} {k : ClassId} {ty : FieldType} {vs : List Value} {ws : List Addr} {i sl : Nat} {j : Int32} {v : Value}
/-- the array at a holds just vs -/
def Oar (Z : State) (h : Heap) (a : Addr) (k : ClassId) (ty : FieldType) (vs : List Value) : Prop := ∃ c : Cell, Arr Z h a c ty ∧ c.cls = k ∧ c.slots = vs.toArray ∧ vs.length < 2 ^ 31
theorem Oar.lt (F : Oar Z h a k ty vs) : a < h.size := by obtain ⟨c, A, -⟩ := F; exact A.lt
theorem Oar.len (F : Oar Z h a k ty vs) : vs.length < 2 ^ 31 := by obtain ⟨c, -, -, -, q⟩ := F; exact q
theorem Oar.ext (E : Ext h h') (F : Oar Z h a k ty vs) : Oar Z h' a k ty vs := by obtain ⟨c, A, r⟩ := F; exact ⟨c, A.ext E, r⟩
theorem Oar.other (W : Wr h h' b sl v) (F : Oar Z h a k ty vs) (q : a ≠ b) : Oar Z h' a k ty vs := by obtain ⟨c, A, r⟩ := F; exact ⟨c, A.other W q, r⟩
theorem Oar.keep (F : Oar Z h a k ty vs) (K : Keep h h' ws) (q : a ∉ ws) : Oar Z h' a k ty vs := by obtain ⟨c, A, r⟩ := F; exact ⟨c, ⟨K.2.1 a c A.1 q, A.2⟩, r⟩
theorem own_idx (hj : j.toInt = (i : Int)) : ¬ j < 0 ∧ j.toNatClampNeg = i := by
  constructor
  · rw [Int32.lt_iff_toInt_lt, hj]; simp
  · rw [Int32.toNatClampNeg, hj]; simp
theorem own_inb {c : Cell} (hs : c.slots = vs.toArray) (hj : j.toInt = (i : Int)) (hi : i < vs.length) : ¬ (j < 0 ∨ c.slots.size ≤ j.toNatClampNeg) := by
  obtain ⟨q1, q2⟩ := own_idx hj
  rw [q2, hs]; simp only [List.size_toArray]; intro q; rcases q with q | q
  · exact q1 q
  · omega
theorem own_cat1 {v : Value} (h : v.isRef = true) : v.category = 1 := by cases v <;> first | rfl | cases h
theorem own_lt_of {x : Value} (hv : vs[i]? = some x) : i < vs.length := (List.getElem?_eq_some_iff.mp hv).1
theorem Oar.set (F : Oar Z h a k ty vs) (W : Wr h h' a sl v) : Oar Z h' a k ty (vs.set sl v) := by
  obtain ⟨c, A, q1, q2, q3⟩ := F
  exact ⟨_, A.same W, q1, by simp [Cell.setSlot, q2], by simpa using q3⟩
theorem Oar.new {z : Int32} {n : Nat} (A : Arr Z h a (newA k ty z) ty) (hz : z.toInt = (n : Int)) : Oar Z h a k ty (List.replicate n (defaultValue ty)) := by
  obtain ⟨q1, q2⟩ := own_idx hz
  refine ⟨_, A, rfl, by simp [newA, q2], ?_⟩
  have := z.toInt_lt
  simp; omega
theorem own_iaload (X : Stand p l e R s m args below meth c T locs cells slots) (hx : p.tables.exec = Jvm.exec) (hZ : Z.Warmed39 s.vm) (eT : T.heap = h) (F : Oar Z h a k .int vs) (hj : j.toInt = (i : Int)) (hv : vs[i]? = some v) {pc pc' : Nat} {Ls : Array Slot} {rest : List Value} (hd : decode c.code pc = .ok (.iaload, 1)) (hp : pc + 1 = pc')
    (hr : OFin p e below FE Q T (mkF m pc' Ls (v :: rest))) : OFin p e below FE Q T (mkF m pc Ls (.int j :: .ref a :: rest)) := by
  subst hp; obtain ⟨cl, A, -, q2, -⟩ := F
  exact hr.st (X.iaload hx (j := j) (v := v) (by rw [eT]; exact A.1) (State.isArrayOf_alike hZ.alike A.2.1) A.2.2 (own_inb q2 hj (own_lt_of hv)) (by rw [(own_idx hj).2, q2]; simpa using hv) (g := mkF m pc Ls (.int j :: .ref a :: rest)) rfl rfl hd)
theorem own_laload (X : Stand p l e R s m args below meth c T locs cells slots) (hx : p.tables.exec = Jvm.exec) (hZ : Z.Warmed39 s.vm) (eT : T.heap = h) (F : Oar Z h a k .long vs) (hj : j.toInt = (i : Int)) (hv : vs[i]? = some v) {pc pc' : Nat} {Ls : Array Slot} {rest : List Value} (hd : decode c.code pc = .ok (.laload, 1)) (hp : pc + 1 = pc')
    (hr : OFin p e below FE Q T (mkF m pc' Ls (v :: rest))) : OFin p e below FE Q T (mkF m pc Ls (.int j :: .ref a :: rest)) := by
  subst hp; obtain ⟨cl, A, -, q2, -⟩ := F
  exact hr.st (X.laload hx (j := j) (v := v) (by rw [eT]; exact A.1) (State.isArrayOf_alike hZ.alike A.2.1) A.2.2 (own_inb q2 hj (own_lt_of hv)) (by rw [(own_idx hj).2, q2]; simpa using hv) (g := mkF m pc Ls (.int j :: .ref a :: rest)) rfl rfl hd)
theorem own_baload (X : Stand p l e R s m args below meth c T locs cells slots) (hx : p.tables.exec = Jvm.exec) (hZ : Z.Warmed39 s.vm) (eT : T.heap = h) (F : Oar Z h a k .byte vs) (hj : j.toInt = (i : Int)) (hv : vs[i]? = some v) {pc pc' : Nat} {Ls : Array Slot} {rest : List Value} (hd : decode c.code pc = .ok (.baload, 1)) (hp : pc + 1 = pc')
    (hr : OFin p e below FE Q T (mkF m pc' Ls (v :: rest))) : OFin p e below FE Q T (mkF m pc Ls (.int j :: .ref a :: rest)) := by
  subst hp; obtain ⟨cl, A, -, q2, -⟩ := F
  exact hr.st (X.baloadBytes hx (j := j) (v := v) (by rw [eT]; exact A.1) (State.isArrayOf_alike hZ.alike A.2.1) A.2.2 (own_inb q2 hj (own_lt_of hv)) (by rw [(own_idx hj).2, q2]; simpa using hv) (g := mkF m pc Ls (.int j :: .ref a :: rest)) rfl rfl hd)
theorem own_zaload (X : Stand p l e R s m args below meth c T locs cells slots) (hx : p.tables.exec = Jvm.exec) (hZ : Z.Warmed39 s.vm) (eT : T.heap = h) (F : Oar Z h a k .boolean vs) (hj : j.toInt = (i : Int)) (hv : vs[i]? = some v) {pc pc' : Nat} {Ls : Array Slot} {rest : List Value} (hd : decode c.code pc = .ok (.baload, 1)) (hp : pc + 1 = pc')
    (hr : OFin p e below FE Q T (mkF m pc' Ls (v :: rest))) : OFin p e below FE Q T (mkF m pc Ls (.int j :: .ref a :: rest)) := by
  subst hp; obtain ⟨cl, A, -, q2, -⟩ := F
  exact hr.st (X.baloadBooleans hx (j := j) (v := v) (by rw [eT]; exact A.1) (State.isArrayOf_alike hZ.alike A.2.1) A.2.2 (own_inb q2 hj (own_lt_of hv)) (by rw [(own_idx hj).2, q2]; simpa using hv) (g := mkF m pc Ls (.int j :: .ref a :: rest)) rfl rfl hd)
theorem own_aaload (X : Stand p l e R s m args below meth c T locs cells slots) (hx : p.tables.exec = Jvm.exec) (hZ : Z.Warmed39 s.vm) (eT : T.heap = h) (F : Oar Z h a k ty vs) (hty : ty.isReference = true) (hj : j.toInt = (i : Int)) (hv : vs[i]? = some v) {pc pc' : Nat} {Ls : Array Slot} {rest : List Value} (hd : decode c.code pc = .ok (.aaload, 1)) (hp : pc + 1 = pc')
    (hr : OFin p e below FE Q T (mkF m pc' Ls (v :: rest))) : OFin p e below FE Q T (mkF m pc Ls (.int j :: .ref a :: rest)) := by
  subst hp; obtain ⟨cl, A, -, q2, -⟩ := F
  exact hr.st (X.aaload hx (j := j) (v := v) (by rw [eT]; exact A.1) (State.isArrayOf_alike hZ.alike A.2.1) hty A.2.2 (own_inb q2 hj (own_lt_of hv)) (by rw [(own_idx hj).2, q2]; simpa using hv) (g := mkF m pc Ls (.int j :: .ref a :: rest)) rfl rfl hd)
theorem own_alen (X : Stand p l e R s m args below meth c T locs cells slots) (hx : p.tables.exec = Jvm.exec) (hZ : Z.Warmed39 s.vm) (eT : T.heap = h) (F : Oar Z h a k ty vs) {z : Int32} (hz : z.toInt = (vs.length : Int)) {pc pc' : Nat} {Ls : Array Slot} {rest : List Value} (hd : decode c.code pc = .ok (.arraylength, 1)) (hp : pc + 1 = pc')
    (hr : OFin p e below FE Q T (mkF m pc' Ls (.int z :: rest))) : OFin p e below FE Q T (mkF m pc Ls (.ref a :: rest)) := by
  subst hp; obtain ⟨cl, A, -, q2, q3⟩ := F
  have q : cl.slots.size.toInt32 = z := by
    rw [q2, List.size_toArray, ← Int32.toInt_inj, hz]; exact Int32.toInt_ofNat_small q3
  subst q
  exact hr.st (X.arraylength hx (by rw [eT]; exact A.1) (State.isArrayOf_alike hZ.alike A.2.1) (g := mkF m pc Ls (.ref a :: rest)) rfl rfl hd)
/-- a store: what each law of a store gives, over Oar -/
theorem own_lastore (X : Stand p l e R s m args below meth c T locs cells slots) (hx : p.tables.exec = Jvm.exec) (hZ : Z.Warmed39 s.vm) (eT : T.heap = h) (F : Oar Z h a k .long vs) (hj : j.toInt = (i : Int)) (hi : i < vs.length) {x : Int64} {pc : Nat} {Ls : Array Slot} {rest : List Value} (hd : decode c.code pc = .ok (.lastore, 1)) :
    ∃ T' h', Stand p l e R s m args below meth c T' (locs ++ [⟨a, i⟩]) cells slots ∧ T'.heap = h' ∧ Wr h h' a i (.long x) ∧ Oar Z h' a k .long (vs.set i (.long x)) ∧ ∀ target, Steps p.tables e below (T'.setTop (mkF m (pc + 1) Ls rest)) target → Steps p.tables e below (T.setTop (mkF m pc Ls (.long x :: .int j :: .ref a :: rest))) target := by
  have F' := F
  obtain ⟨cl, A, -, q2, -⟩ := F
  obtain ⟨T', h', X', e', W, st⟩ := stJ X hx hZ eT A (j := j) (x := x) (own_inb q2 hj hi) (g := mkF m pc Ls (.long x :: .int j :: .ref a :: rest)) rfl rfl hd
  rw [(own_idx hj).2] at X' W
  exact ⟨T', h', X', e', W, F'.set W, st⟩
theorem own_iastore (X : Stand p l e R s m args below meth c T locs cells slots) (hx : p.tables.exec = Jvm.exec) (hZ : Z.Warmed39 s.vm) (eT : T.heap = h) (F : Oar Z h a k .int vs) (hj : j.toInt = (i : Int)) (hi : i < vs.length) {x : Int32} {pc : Nat} {Ls : Array Slot} {rest : List Value} (hd : decode c.code pc = .ok (.iastore, 1)) :
    ∃ T' h', Stand p l e R s m args below meth c T' (locs ++ [⟨a, i⟩]) cells slots ∧ T'.heap = h' ∧ Wr h h' a i (.int x) ∧ Oar Z h' a k .int (vs.set i (.int x)) ∧ ∀ target, Steps p.tables e below (T'.setTop (mkF m (pc + 1) Ls rest)) target → Steps p.tables e below (T.setTop (mkF m pc Ls (.int x :: .int j :: .ref a :: rest))) target := by
  have F' := F
  obtain ⟨cl, A, -, q2, -⟩ := F
  obtain ⟨T', h', X', e', W, st⟩ := stI X hx hZ eT A (j := j) (x := x) (own_inb q2 hj hi) (g := mkF m pc Ls (.int x :: .int j :: .ref a :: rest)) rfl rfl hd
  rw [(own_idx hj).2] at X' W
  exact ⟨T', h', X', e', W, F'.set W, st⟩
theorem own_bastore (X : Stand p l e R s m args below meth c T locs cells slots) (hx : p.tables.exec = Jvm.exec) (hZ : Z.Warmed39 s.vm) (eT : T.heap = h) (F : Oar Z h a k .byte vs) (hj : j.toInt = (i : Int)) (hi : i < vs.length) {x y : Int32} (hy : x.toInt8.toInt32 = y) {pc : Nat} {Ls : Array Slot} {rest : List Value} (hd : decode c.code pc = .ok (.bastore, 1)) :
    ∃ T' h', Stand p l e R s m args below meth c T' (locs ++ [⟨a, i⟩]) cells slots ∧ T'.heap = h' ∧ Wr h h' a i (.int y) ∧ Oar Z h' a k .byte (vs.set i (.int y)) ∧ ∀ target, Steps p.tables e below (T'.setTop (mkF m (pc + 1) Ls rest)) target → Steps p.tables e below (T.setTop (mkF m pc Ls (.int x :: .int j :: .ref a :: rest))) target := by
  have F' := F
  obtain ⟨cl, A, -, q2, -⟩ := F
  obtain ⟨T', h', X', e', W, st⟩ := stB X hx hZ eT A (j := j) (x := x) (own_inb q2 hj hi) (g := mkF m pc Ls (.int x :: .int j :: .ref a :: rest)) rfl rfl hd
  subst hy
  rw [(own_idx hj).2] at X' W
  exact ⟨T', h', X', e', W, F'.set W, st⟩
theorem own_zastore (X : Stand p l e R s m args below meth c T locs cells slots) (hx : p.tables.exec = Jvm.exec) (hZ : Z.Warmed39 s.vm) (eT : T.heap = h) (F : Oar Z h a k .boolean vs) (hj : j.toInt = (i : Int)) (hi : i < vs.length) {x y : Int32} (hy : x &&& 1 = y) {pc : Nat} {Ls : Array Slot} {rest : List Value} (hd : decode c.code pc = .ok (.bastore, 1)) :
    ∃ T' h', Stand p l e R s m args below meth c T' (locs ++ [⟨a, i⟩]) cells slots ∧ T'.heap = h' ∧ Wr h h' a i (.int y) ∧ Oar Z h' a k .boolean (vs.set i (.int y)) ∧ ∀ target, Steps p.tables e below (T'.setTop (mkF m (pc + 1) Ls rest)) target → Steps p.tables e below (T.setTop (mkF m pc Ls (.int x :: .int j :: .ref a :: rest))) target := by
  have F' := F
  obtain ⟨cl, A, -, q2, -⟩ := F
  obtain ⟨T', h', X', e', W, st⟩ := stZ X hx hZ eT A (j := j) (x := x) (own_inb q2 hj hi) (g := mkF m pc Ls (.int x :: .int j :: .ref a :: rest)) rfl rfl hd
  subst hy
  rw [(own_idx hj).2] at X' W
  exact ⟨T', h', X', e', W, F'.set W, st⟩
theorem own_aastore (X : Stand p l e R s m args below meth c T locs cells slots) (hx : p.tables.exec = Jvm.exec) (hZ : Z.Warmed39 s.vm) (eT : T.heap = h) (F : Oar Z h a k ty vs) (hty : ty.isReference = true) (hj : j.toInt = (i : Int)) (hi : i < vs.length) (O : Sto Z h a v) {pc : Nat} {Ls : Array Slot} {rest : List Value} (hd : decode c.code pc = .ok (.aastore, 1)) :
    ∃ T' h', Stand p l e R s m args below meth c T' (locs ++ [⟨a, i⟩]) cells slots ∧ T'.heap = h' ∧ Wr h h' a i v ∧ Oar Z h' a k ty (vs.set i v) ∧ ∀ target, Steps p.tables e below (T'.setTop (mkF m (pc + 1) Ls rest)) target → Steps p.tables e below (T.setTop (mkF m pc Ls (v :: .int j :: .ref a :: rest))) target := by
  have F' := F
  obtain ⟨cl, A, -, q2, -⟩ := F
  obtain ⟨T', h', X', e', W, st⟩ := stR X hx hZ eT A (j := j) (v := v) (own_inb q2 hj hi) hty O (g := mkF m pc Ls (v :: .int j :: .ref a :: rest)) rfl rfl hd
  rw [(own_idx hj).2] at X' W
  exact ⟨T', h', X', e', W, F'.set W, st⟩
theorem own_newP (X : Stand p l e R s m args below meth c T locs cells slots) (hx : p.tables.exec = Jvm.exec) (hZ : Z.Warmed39 s.vm) {a0 : Array Value} {aty : ArrayType} (w : (Jvm.Cond.arrayClass (newarray.typeOf aty)).before a0 Z = true) (eT : T.heap = h) {z : Int32} {n cap : Nat} (hz : z.toInt = (n : Int)) (hcap : n ≤ cap) (hb : cap * 8 ≤ 536870912) (hc : cells + 1 ≤ R.cells) (hl : slots + cap ≤ R.slots) {pc : Nat} {Ls : Array Slot} {rest : List Value} (hd : decode c.code pc = .ok (.newarray aty, 2)) :
    ∃ T' h' cA, Stand p l e R s m args below meth c T' locs (cells + 1) (slots + cap) ∧ T'.heap = h' ∧ Ext h h' ∧ Oar Z h' h.size cA (newarray.typeOf aty) (List.replicate n (defaultValue (newarray.typeOf aty))) ∧ ∀ target, Steps p.tables e below (T'.setTop (mkF m (pc + 2) Ls (.ref h.size :: rest))) target → Steps p.tables e below (T.setTop (mkF m pc Ls (.int z :: rest))) target := by
  obtain ⟨q1, q2⟩ := own_idx hz
  obtain ⟨T', h', cA, X', e', E, A, st⟩ := newP X hx hZ w eT (g := mkF m pc Ls (.int z :: rest)) rfl hd rfl q1 (cap := cap) (by rw [q2]; exact hcap) hb hc hl
  exact ⟨T', h', cA, X', e', E, Oar.new A hz, st⟩
theorem own_newR (X : Stand p l e R s m args below meth c T locs cells slots) (hx : p.tables.exec = Jvm.exec) (hZ : Z.Warmed39 s.vm) {a0 : Array Value} {own C : String} {index : Nat} (hown : s.vm.findClass own = some m.cls) (w1 : (Jvm.Cond.classLink own index C).before a0 Z = true) (w2 : (Jvm.Cond.arrayOver (.object C)).before a0 Z = true) (eT : T.heap = h) {z : Int32} {n cap : Nat} (hz : z.toInt = (n : Int)) (hcap : n ≤ cap) (hb : cap * 8 ≤ 536870912) (hc : cells + 1 ≤ R.cells) (hl : slots + cap ≤ R.slots) {ad : String} (had : "[" ++ (FieldType.object C).toString = ad) {pc : Nat} {Ls : Array Slot} {rest : List Value} (hd : decode c.code pc = .ok (.anewarray index, 3)) :
    ∃ T' h' cA, Stand p l e R s m args below meth c T' locs (cells + 1) (slots + cap) ∧ T'.heap = h' ∧ Ext h h' ∧ Oar Z h' h.size cA (.object C) (List.replicate n .null) ∧ Exa Z h' h.size ad ∧ Ovr Z cA C ∧ ∀ target, Steps p.tables e below (T'.setTop (mkF m (pc + 3) Ls (.ref h.size :: rest))) target → Steps p.tables e below (T.setTop (mkF m pc Ls (.int z :: rest))) target := by
  obtain ⟨q1, q2⟩ := own_idx hz
  obtain ⟨T', h', cA, X', e', E, A, EE, O, st⟩ := newRE X hx hZ hown w1 w2 eT (g := mkF m pc Ls (.int z :: rest)) rfl hd rfl q1 (cap := cap) (by rw [q2]; exact hcap) hb hc hl had
  exact ⟨T', h', cA, X', e', E, Oar.new A hz, EE, O, st⟩
theorem own_newRA (X : Stand p l e R s m args below meth c T locs cells slots) (hx : p.tables.exec = Jvm.exec) (hZ : Z.Warmed39 s.vm) {a0 : Array Value} {own C : String} {t : FieldType} {index : Nat} (hown : s.vm.findClass own = some m.cls) (hC : (FieldType.array t).toString = C) (w1 : (Jvm.Cond.classLink own index C).before a0 Z = true) (w2 : (Jvm.Cond.arrayOver (.array t)).before a0 Z = true) (eT : T.heap = h) {z : Int32} {n cap : Nat} (hz : z.toInt = (n : Int)) (hcap : n ≤ cap) (hb : cap * 8 ≤ 536870912) (hc : cells + 1 ≤ R.cells) (hl : slots + cap ≤ R.slots) {ad : String} (had : "[" ++ C = ad) {pc : Nat} {Ls : Array Slot} {rest : List Value} (hd : decode c.code pc = .ok (.anewarray index, 3)) :
    ∃ T' h' cA, Stand p l e R s m args below meth c T' locs (cells + 1) (slots + cap) ∧ T'.heap = h' ∧ Ext h h' ∧ Oar Z h' h.size cA (.array t) (List.replicate n .null) ∧ Exa Z h' h.size ad ∧ OvrA Z cA t C ∧ ∀ target, Steps p.tables e below (T'.setTop (mkF m (pc + 3) Ls (.ref h.size :: rest))) target → Steps p.tables e below (T.setTop (mkF m pc Ls (.int z :: rest))) target := by
  obtain ⟨q1, q2⟩ := own_idx hz
  obtain ⟨T', h', cA, X', e', E, A, EE, O, st⟩ := newRA X hx hZ hown hC w1 w2 eT (g := mkF m pc Ls (.int z :: rest)) rfl hd rfl q1 (cap := cap) (by rw [q2]; exact hcap) hb hc hl had
  exact ⟨T', h', cA, X', e', E, Oar.new A hz, EE, O, st⟩
theorem own_sto {y : Addr} {C : String} (F : Oar Z h a k ty vs) (O : Ovr Z k C) (I : Ins Z h y C true) : Sto Z h a (.ref y) := by
  obtain ⟨cl, A, q, -, -⟩ := F; exact Sto.ofV A q O I
theorem own_clone (X : Stand p l e R s m args below meth c T locs cells slots) (hx : p.tables.exec = Jvm.exec) (hZ : Z.Warmed39 s.vm) {a0 : Array Value} {own ad : String} {index : Nat} (hown : s.vm.findClass own = some m.cls)
    (w1 : (Jvm.Cond.methodLink own index ⟨ad, "clone", "()Ljava/lang/Object;"⟩).before a0 Z = true) (w2 : (Jvm.Cond.sameMethod ad "java/lang/Object" "clone" "()Ljava/lang/Object;").before a0 Z = true) (w3 : (Jvm.Cond.native ⟨"java/lang/Object", "clone", "()Ljava/lang/Object;"⟩).before a0 Z = true)
    (w4 : (Jvm.Cond.instanceMethod ⟨"java/lang/Object", "clone", "()Ljava/lang/Object;"⟩).before a0 Z = true) (w5 : (Jvm.Cond.selects ad ⟨ad, "clone", "()Ljava/lang/Object;"⟩ ⟨"java/lang/Object", "clone", "()Ljava/lang/Object;"⟩).before a0 Z = true) (w6 : (Jvm.Cond.castable ad "java/lang/Cloneable").before a0 Z = true)
    (eT : T.heap = h) (F : Oar Z h a k ty vs) (hv : ∀ v ∈ vs, fits ty v = true) (E : Exa Z h a ad) {g : JFrame} (hg : g.method = m) (hsize : g.locals.size = c.maxLocals) {rest : List Value} (hs : g.stack = .ref a :: rest) (hd : decode c.code g.pc = .ok (.invokevirtual index, 3))
    (hf : 1 ≤ R.frames) {W cap : Nat} (hW : 2 * g.monitorRoom + (rest.map fun v => v.category).sum ≤ W) (hl : W + 14 ≤ R.locals) (hcap : vs.length ≤ cap) (hc : cells + 1 ≤ R.cells) (hsl : slots + cap ≤ R.slots) :
    ∃ T' h', Stand p l e R s m args below meth c T' locs (cells + 1) (slots + cap) ∧ T'.heap = h' ∧ Ext h h' ∧ Oar Z h' h.size k ty vs ∧ Exa Z h' h.size ad ∧
      ∀ target, Steps p.tables e below (T'.setTop { g with pc := g.pc + 3, stack := .ref h.size :: rest }) target → Steps p.tables e below (T.setTop g) target := by
  obtain ⟨cl, A, q1, q2, q3⟩ := F
  have FC : FitC Z cl := fitC_of A fun i hi v hv' => hv v (by
    rw [q2] at hv'
    exact List.mem_of_getElem? (i := i) (by simpa using hv'))
  obtain ⟨T', h', X', e', ex, A', E', st⟩ := cloneA X hx hZ hown w1 w2 w3 w4 w5 w6 eT A E FC hg hsize hs hd hf hW hl (cap := cap) (by rw [q2]; simpa using hcap) hc hsl
  exact ⟨T', h', X', e', ex, ⟨cloneOf cl, A', q1, q2, q3⟩, E', st⟩
end OwnArr
theorem own_iteH {α : Sort _} {P : α → Prop} {c : Prop} [Decidable c] {a b : α} (ha : c → P a) (hb : ¬ c → P b) : P (if c then a else b) := by
  split
  · rename_i q; exact ha q
  · rename_i q; exact hb q
theorem own_narR {t : FieldType} {v : Value} (h : v.isRef = true) : narrow t v = v := by
  rcases ref_cases h with rfl | ⟨y, rfl⟩ <;> cases t <;> rfl
/-- a private method is selected by its own class, where the sheet bears no such word -/
theorem own_selP {Z s : State} {a0 args : Array Value} {y : MethodName} {n : Nat} (hZ : Z.Warmed39 s.vm) (wi : (Jvm.Cond.instantiable y.cls n).before a0 Z = true) (wp : (Jvm.Cond.privateMethod y).before a0 Z = true) (wm : (Jvm.Cond.instanceMethod y).before a0 Z = true) (hy : y.cls ≠ "java/lang/invoke/MethodHandle" ∧ y.cls ≠ "java/lang/invoke/VarHandle") : (Jvm.Cond.selects y.cls y y).before args s = true := by
  obtain ⟨c, k, h1, h2, -, h4, -⟩ := Cond.instantiable_spec (mv (args := args) hZ wi)
  exact Stand.selects_self_of_private h1 h2 (by cases hk : k.isInterface <;> simp_all) (Cond.privateMethod_at (mvP hZ wp (args := args))) (mv hZ wm) hy
end Jvm.RoadKit
namespace Jvm.RoadKit
open Sem ClassFile Op Lib Jvm.Stand Jvm.Free Jvm.LawKit
/-- an element that is a named object -/
theorem own_elemR {args : Array Value} {s : State} {t u : Term} {j : Int32} {a : Addr} (h : (Jvm.Cond.eq (Term.elem t (Term.int j)) u).value args s none s [] = some true) (ev : u.eval args s none [] s = some (.ref a)) : (Term.elem t (Term.int j)).eval args s none [] s = some (.ref a) := by
  obtain ⟨x, y, e1, e2, k1, k2⟩ := cmp_v (Or.inl h)
  cases e2.symm.trans ev
  have hx : x.isRef = true := by cases x <;> simp_all [Kin]
  rcases ref_cases hx with rfl | ⟨b, rfl⟩
  · simp [Jvm.Cond.value, e1, e2] at h
  · have q : b = a := by simpa [Jvm.Cond.value, e1, e2] using h
    rw [e1, q]
/-- an array of the start, element by element -/
theorem own_arr {args : Array Value} {s : State} {t : Term} {a : Addr} {ty : FieldType} {vs : List Value} {n : Int32} (hfit : Fit s) (ev : t.eval args s none [] s = some (.ref a)) (h1 : (Jvm.Cond.arrayOf t ty).value args s none s [] = some true) (h2 : (Jvm.Cond.eq (Term.length t) (Term.int n)).value args s none s [] = some true)
    (hn : n.toInt = (vs.length : Int)) (hel : ∀ (j : Nat) (hj : j < vs.length), (Term.elem t (Term.int (Int32.ofNat j))).eval args s none [] s = some vs[j]) : ∃ k, Oar s s.heap a k ty vs := by
  obtain ⟨c, A⟩ := Arr.start ev h1
  obtain ⟨x, y, e1, e2, -, k2⟩ := cmp_v (Or.inl h2)
  cases (Option.some.inj (e2.symm.trans (Term.int_eval n)) : y = .int n)
  obtain ⟨z, rfl⟩ := k2
  have q : z = n := by simpa [Jvm.Cond.value, e1, e2] using h2
  subst q
  have hlt : vs.length < 2 ^ 31 := by have := z.toInt_lt; omega
  have hat := A.fin (Vm.Alike.refl _)
  have hsz : c.slots.size = vs.length := by
    by_cases hb : c.slots.size < 2 ^ 31
    · have e3 := len_f ev hat hb
      rw [e1] at e3
      have e4 : z = c.slots.size.toInt32 := by injection e3 with e3; injection e3
      have e5 := len_toInt hb
      rw [← e4, hn] at e5
      omega
    · simp [Term.eval, ev, hat, hb] at e1
  refine ⟨c.cls, c, A, rfl, ?_, hlt⟩
  apply Array.ext
  · simp [hsz]
  · intro i h3 h4
    have hi : i < vs.length := by simpa using h4
    have e6 := hel i hi
    have hj : (Int32.ofNat i).toInt = (i : Int) := Int32.toInt_ofNat_small (by omega)
    have e7 := elem_in e6 ev (Term.int_eval _) A.1
    rw [(own_idx hj).2] at e7
    have e8 := e7.2
    rw [Array.getElem?_eq_getElem h3] at e8
    injection e8 with e8
    try simpa using e8
end Jvm.RoadKit
namespace Jvm.RoadKit
open Sem ClassFile Op Lib Jvm.Stand Jvm.Free Jvm.LawKit
/-- an array of the start of which the length alone is known -/
theorem own_arrN {args : Array Value} {s : State} {t : Term} {a : Addr} {ty : FieldType} {n : Int32} {k : Nat} (ev : t.eval args s none [] s = some (.ref a)) (h1 : (Jvm.Cond.arrayOf t ty).value args s none s [] = some true) (h2 : (Jvm.Cond.eq (Term.length t) (Term.int n)).value args s none s [] = some true) (hn : n.toInt = (k : Int)) : ∃ kk vs, Oar s s.heap a kk ty vs ∧ vs.length = k := by
  obtain ⟨c, A⟩ := Arr.start ev h1
  obtain ⟨x, y, e1, e2, -, k2⟩ := cmp_v (Or.inl h2)
  cases (Option.some.inj (e2.symm.trans (Term.int_eval n)) : y = .int n)
  obtain ⟨z, rfl⟩ := k2
  have q : z = n := by simpa [Jvm.Cond.value, e1, e2] using h2
  subst q
  have hlt : k < 2 ^ 31 := by have := z.toInt_lt; omega
  have hat := A.fin (Vm.Alike.refl _)
  have hsz : c.slots.size = k := by
    by_cases hb : c.slots.size < 2 ^ 31
    · have e3 := len_f ev hat hb
      rw [e1] at e3
      have e4 : z = c.slots.size.toInt32 := by injection e3 with e3; injection e3
      have e5 := len_toInt hb
      rw [← e4, hn] at e5
      omega
    · simp [Term.eval, ev, hat, hb] at e1
  exact ⟨c.cls, c.slots.toList, ⟨c, A, rfl, by simp, by simp [hsz, hlt]⟩, by simp [hsz]⟩
end Jvm.RoadKit
namespace Jvm.Pilot.@@N@@
open Jvm Jvm.ClassFile Sem Op Lib Jvm.Free Jvm.Stand Jvm.LawKit Jvm.RoadKit Bundle Jvm.Pilot.@@N@@.Jvm.D
theorem d2_0 : decode prog_35_method_1_code 0 = .ok (.getstatic 37, 3) := by decide +kernel
theorem d2_3 : decode prog_35_method_1_code 3 = .ok (.invokevirtual 41, 3) := by decide +kernel
theorem d2_6 : decode prog_35_method_1_code 6 = .ok (.checkcast 42, 3) := by decide +kernel
theorem d2_9 : decode prog_35_method_1_code 9 = .ok (.areturn, 1) := by decide +kernel
theorem pn_com_example_weftline_weftline_codec_RouterCapabilitySubTlv : plainName "com/example/weftline/weftline/codec/RouterCapabilitySubTlv" = true := by first | (simp [plainName, overriddenIn]; done) | decide +kernel
theorem d1_0 : decode prog_35_method_4_code 0 = .ok (.invokestatic 68, 3) := by decide +kernel
theorem pd_2 : parseMethodDescriptor "()[Lcom/example/weftline/weftline/codec/RouterCapabilitySubTlv;" = some ⟨[], some (.array (.object "com/example/weftline/weftline/codec/RouterCapabilitySubTlv"))⟩ := by decide +kernel
theorem d1_3 : decode prog_35_method_4_code 3 = .ok (.astore_n 1, 1) := by decide +kernel
theorem d1_4 : decode prog_35_method_4_code 4 = .ok (.aload_n 1, 1) := by decide +kernel
theorem d1_5 : decode prog_35_method_4_code 5 = .ok (.arraylength, 1) := by decide +kernel
theorem d1_6 : decode prog_35_method_4_code 6 = .ok (.istore_n 2, 1) := by decide +kernel
theorem d1_7 : decode prog_35_method_4_code 7 = .ok (.iconst 0, 1) := by decide +kernel
theorem d1_8 : decode prog_35_method_4_code 8 = .ok (.istore_n 3, 1) := by decide +kernel
theorem d1_9 : decode prog_35_method_4_code 9 = .ok (.iload_n 3, 1) := by decide +kernel
theorem d1_10 : decode prog_35_method_4_code 10 = .ok (.iload_n 2, 1) := by decide +kernel
theorem d1_11 : decode prog_35_method_4_code 11 = .ok (.if_icmp .ge 26, 3) := by decide +kernel
theorem d1_14 : decode prog_35_method_4_code 14 = .ok (.aload_n 1, 1) := by decide +kernel
theorem d1_15 : decode prog_35_method_4_code 15 = .ok (.iload_n 3, 1) := by decide +kernel
theorem d1_16 : decode prog_35_method_4_code 16 = .ok (.aaload, 1) := by decide +kernel
theorem d1_17 : decode prog_35_method_4_code 17 = .ok (.astore 4, 2) := by decide +kernel
theorem d1_19 : decode prog_35_method_4_code 19 = .ok (.aload 4, 2) := by decide +kernel
theorem d1_21 : decode prog_35_method_4_code 21 = .ok (.getfield 56, 3) := by decide +kernel
theorem d1_24 : decode prog_35_method_4_code 24 = .ok (.iload_n 0, 1) := by decide +kernel
theorem d1_25 : decode prog_35_method_4_code 25 = .ok (.if_icmp .ne 6, 3) := by decide +kernel
theorem d1_28 : decode prog_35_method_4_code 28 = .ok (.aload 4, 2) := by decide +kernel
theorem d1_30 : decode prog_35_method_4_code 30 = .ok (.areturn, 1) := by decide +kernel
theorem d1_31 : decode prog_35_method_4_code 31 = .ok (.iinc 3 1, 3) := by decide +kernel
theorem d1_34 : decode prog_35_method_4_code 34 = .ok (.goto (-25), 3) := by decide +kernel
theorem d1_37 : decode prog_35_method_4_code 37 = .ok (.aconst_null, 1) := by decide +kernel
theorem d1_38 : decode prog_35_method_4_code 38 = .ok (.areturn, 1) := by decide +kernel
theorem d3_0 : decode method_2_code 0 = .ok (.iload_n 0, 1) := by decide +kernel
theorem d3_1 : decode method_2_code 1 = .ok (.bipush 6, 2) := by decide +kernel
theorem d3_3 : decode method_2_code 3 = .ok (.if_icmp .ne 7, 3) := by decide +kernel
theorem d3_6 : decode method_2_code 6 = .ok (.getstatic 7, 3) := by decide +kernel
theorem d3_9 : decode method_2_code 9 = .ok (.areturn, 1) := by decide +kernel
theorem d3_10 : decode method_2_code 10 = .ok (.iload_n 0, 1) := by decide +kernel
theorem d3_11 : decode method_2_code 11 = .ok (.bipush 7, 2) := by decide +kernel
theorem d3_13 : decode method_2_code 13 = .ok (.if_icmp .ne 7, 3) := by decide +kernel
theorem d3_16 : decode method_2_code 16 = .ok (.getstatic 13, 3) := by decide +kernel
theorem d3_19 : decode method_2_code 19 = .ok (.areturn, 1) := by decide +kernel
theorem d3_20 : decode method_2_code 20 = .ok (.iload_n 0, 1) := by decide +kernel
theorem d3_21 : decode method_2_code 21 = .ok (.bipush 8, 2) := by decide +kernel
theorem d3_23 : decode method_2_code 23 = .ok (.if_icmp .ne 7, 3) := by decide +kernel
theorem d3_26 : decode method_2_code 26 = .ok (.getstatic 16, 3) := by decide +kernel
theorem d3_29 : decode method_2_code 29 = .ok (.areturn, 1) := by decide +kernel
theorem d3_30 : decode method_2_code 30 = .ok (.iload_n 0, 1) := by decide +kernel
theorem d3_31 : decode method_2_code 31 = .ok (.bipush 9, 2) := by decide +kernel
theorem d3_33 : decode method_2_code 33 = .ok (.if_icmp .ne 7, 3) := by decide +kernel
theorem d3_36 : decode method_2_code 36 = .ok (.getstatic 19, 3) := by decide +kernel
theorem d3_39 : decode method_2_code 39 = .ok (.areturn, 1) := by decide +kernel
theorem d3_40 : decode method_2_code 40 = .ok (.iload_n 0, 1) := by decide +kernel
theorem d3_41 : decode method_2_code 41 = .ok (.bipush 10, 2) := by decide +kernel
theorem d3_43 : decode method_2_code 43 = .ok (.if_icmp .ne 7, 3) := by decide +kernel
theorem d3_46 : decode method_2_code 46 = .ok (.getstatic 22, 3) := by decide +kernel
theorem d3_49 : decode method_2_code 49 = .ok (.areturn, 1) := by decide +kernel
theorem d3_50 : decode method_2_code 50 = .ok (.iload_n 0, 1) := by decide +kernel
theorem d3_51 : decode method_2_code 51 = .ok (.bipush 13, 2) := by decide +kernel
theorem d3_53 : decode method_2_code 53 = .ok (.if_icmp .ne 7, 3) := by decide +kernel
theorem d3_56 : decode method_2_code 56 = .ok (.getstatic 25, 3) := by decide +kernel
theorem d3_59 : decode method_2_code 59 = .ok (.areturn, 1) := by decide +kernel
theorem d3_60 : decode method_2_code 60 = .ok (.iload_n 0, 1) := by decide +kernel
theorem d3_61 : decode method_2_code 61 = .ok (.bipush 14, 2) := by decide +kernel
theorem d3_63 : decode method_2_code 63 = .ok (.if_icmp .ne 7, 3) := by decide +kernel
theorem d3_66 : decode method_2_code 66 = .ok (.getstatic 28, 3) := by decide +kernel
theorem d3_69 : decode method_2_code 69 = .ok (.areturn, 1) := by decide +kernel
theorem d3_70 : decode method_2_code 70 = .ok (.iload_n 0, 1) := by decide +kernel
theorem d3_71 : decode method_2_code 71 = .ok (.bipush 15, 2) := by decide +kernel
theorem d3_73 : decode method_2_code 73 = .ok (.if_icmp .ne 7, 3) := by decide +kernel
theorem d3_76 : decode method_2_code 76 = .ok (.getstatic 31, 3) := by decide +kernel
theorem d3_79 : decode method_2_code 79 = .ok (.areturn, 1) := by decide +kernel
theorem d3_80 : decode method_2_code 80 = .ok (.iload_n 0, 1) := by decide +kernel
theorem d3_81 : decode method_2_code 81 = .ok (.bipush 16, 2) := by decide +kernel
theorem d3_83 : decode method_2_code 83 = .ok (.if_icmp .ne 7, 3) := by decide +kernel
theorem d3_86 : decode method_2_code 86 = .ok (.getstatic 34, 3) := by decide +kernel
theorem d3_89 : decode method_2_code 89 = .ok (.areturn, 1) := by decide +kernel
theorem d3_90 : decode method_2_code 90 = .ok (.iload_n 0, 1) := by decide +kernel
theorem d3_91 : decode method_2_code 91 = .ok (.bipush 17, 2) := by decide +kernel
theorem d3_93 : decode method_2_code 93 = .ok (.if_icmp .ne 7, 3) := by decide +kernel
theorem d3_96 : decode method_2_code 96 = .ok (.getstatic 37, 3) := by decide +kernel
theorem d3_99 : decode method_2_code 99 = .ok (.areturn, 1) := by decide +kernel
theorem d3_100 : decode method_2_code 100 = .ok (.iload_n 0, 1) := by decide +kernel
theorem d3_101 : decode method_2_code 101 = .ok (.bipush 18, 2) := by decide +kernel
theorem d3_103 : decode method_2_code 103 = .ok (.if_icmp .ne 7, 3) := by decide +kernel
theorem d3_106 : decode method_2_code 106 = .ok (.getstatic 40, 3) := by decide +kernel
theorem d3_109 : decode method_2_code 109 = .ok (.areturn, 1) := by decide +kernel
theorem d3_110 : decode method_2_code 110 = .ok (.aconst_null, 1) := by decide +kernel
theorem d3_111 : decode method_2_code 111 = .ok (.areturn, 1) := by decide +kernel
theorem pn_com_example_weftline_weftline_codec_RouterCapabilitySubTlvOfCodePinLaw : plainName "com/example/weftline/weftline/codec/RouterCapabilitySubTlvOfCodePinLaw" = true := by first | (simp [plainName, overriddenIn]; done) | decide +kernel
theorem d4_0 : decode prog_35_method_5_code 0 = .ok (.aload_n 0, 1) := by decide +kernel
theorem d4_1 : decode prog_35_method_5_code 1 = .ok (.getfield 56, 3) := by decide +kernel
theorem d4_4 : decode prog_35_method_5_code 4 = .ok (.ireturn, 1) := by decide +kernel
theorem pd_3 : parseMethodDescriptor "(I)Lcom/example/weftline/weftline/codec/RouterCapabilitySubTlv;" = some ⟨[.int], some (.object "com/example/weftline/weftline/codec/RouterCapabilitySubTlv")⟩ := by decide +kernel
theorem pd_0 : parseMethodDescriptor "()I" = some ⟨[], some .int⟩ := by decide +kernel
def F1 (p0 : Int32) (w_NICKNAME : Addr) (w_TREES : Addr) (w_TREE_ROOT_IDS : Addr) (w_TREE_USE_IDS : Addr) (w_INTERESTED_VLANS : Addr) (w_TRILL_VERSION : Addr) (w_VLAN_GROUP : Addr) (w_INTERESTED_LABELS : Addr) (w_RBRIDGE_CHANNELS : Addr) (w_AFFINITY : Addr) (w_LABEL_GROUP : Addr) : Value := if (6 : Int32) = p0 then (.ref w_NICKNAME) else (if (7 : Int32) = p0 then (.ref w_TREES) else (if (8 : Int32) = p0 then (.ref w_TREE_ROOT_IDS) else (if (9 : Int32) = p0 then (.ref w_TREE_USE_IDS) else (if (10 : Int32) = p0 then (.ref w_INTERESTED_VLANS) else (if (13 : Int32) = p0 then (.ref w_TRILL_VERSION) else (if (14 : Int32) = p0 then (.ref w_VLAN_GROUP) else (if (15 : Int32) = p0 then (.ref w_INTERESTED_LABELS) else (if (16 : Int32) = p0 then (.ref w_RBRIDGE_CHANNELS) else (if (17 : Int32) = p0 then (.ref w_AFFINITY) else (if (18 : Int32) = p0 then (.ref w_LABEL_GROUP) else (.null)))))))))))
theorem own_F1r (p0 : Int32) (w_NICKNAME : Addr) (w_TREES : Addr) (w_TREE_ROOT_IDS : Addr) (w_TREE_USE_IDS : Addr) (w_INTERESTED_VLANS : Addr) (w_TRILL_VERSION : Addr) (w_VLAN_GROUP : Addr) (w_INTERESTED_LABELS : Addr) (w_RBRIDGE_CHANNELS : Addr) (w_AFFINITY : Addr) (w_LABEL_GROUP : Addr) : (F1 p0 w_NICKNAME w_TREES w_TREE_ROOT_IDS w_TREE_USE_IDS w_INTERESTED_VLANS w_TRILL_VERSION w_VLAN_GROUP w_INTERESTED_LABELS w_RBRIDGE_CHANNELS w_AFFINITY w_LABEL_GROUP).isRef = true := own_ite (P := fun v => Value.isRef v = true) rfl (own_ite (P := fun v => Value.isRef v = true) rfl (own_ite (P := fun v => Value.isRef v = true) rfl (own_ite (P := fun v => Value.isRef v = true) rfl (own_ite (P := fun v => Value.isRef v = true) rfl (own_ite (P := fun v => Value.isRef v = true) rfl (own_ite (P := fun v => Value.isRef v = true) rfl (own_ite (P := fun v => Value.isRef v = true) rfl (own_ite (P := fun v => Value.isRef v = true) rfl (own_ite (P := fun v => Value.isRef v = true) rfl (own_ite (P := fun v => Value.isRef v = true) rfl (rfl)))))))))))
theorem ef_rm2 (m : MethodId)  : entryFrame m #[] 0 = mkF m 0 #[] [] := by first | (simp [entryFrame, mkF, argsToLocals, Value.category]; done) | rfl
def Qrm2 (Z : State) (w_NICKNAME : Addr) (w_TREES : Addr) (w_TREE_ROOT_IDS : Addr) (w_TREE_USE_IDS : Addr) (w_INTERESTED_VLANS : Addr) (w_TRILL_VERSION : Addr) (w_VLAN_GROUP : Addr) (w_INTERESTED_LABELS : Addr) (w_RBRIDGE_CHANNELS : Addr) (w_AFFINITY : Addr) (w_LABEL_GROUP : Addr) (kV : ClassId) (w__VALUES : Addr) (h0 : Heap) (n0 : Nat) (v : Option Value) (h : Heap) (L : List Loc) : Prop := ∃ (b : Addr), v = some (Value.ref b) ∧ Fr n0 L ∧ Keep h0 h [] ∧ Oar Z h b kV (.object "com/example/weftline/weftline/codec/RouterCapabilitySubTlv") [(.ref w_NICKNAME), (.ref w_TREES), (.ref w_TREE_ROOT_IDS), (.ref w_TREE_USE_IDS), (.ref w_INTERESTED_VLANS), (.ref w_TRILL_VERSION), (.ref w_VLAN_GROUP), (.ref w_INTERESTED_LABELS), (.ref w_RBRIDGE_CHANNELS), (.ref w_AFFINITY), (.ref w_LABEL_GROUP)] ∧ n0 ≤ b
set_option maxRecDepth 65536 in
set_option maxHeartbeats 40000000 in
theorem rm2 (l : Launch) (Z : State) (a0 : Array Value) (hw : ∀ d ∈ tables_1, d.before a0 Z = true) (ws : List Jvm.Cond) (w_NICKNAME : Addr) (w_TREES : Addr) (w_TREE_ROOT_IDS : Addr) (w_TREE_USE_IDS : Addr) (w_INTERESTED_VLANS : Addr) (w_TRILL_VERSION : Addr) (w_VLAN_GROUP : Addr) (w_INTERESTED_LABELS : Addr) (w_RBRIDGE_CHANNELS : Addr) (w_AFFINITY : Addr) (w_LABEL_GROUP : Addr) (kV : ClassId) (w__VALUES : Addr) (h0 : Heap) (n0 : Nat) (O0 : Old Z n0 h0) (A_w__VALUES : Oar Z h0 w__VALUES kV (.object "com/example/weftline/weftline/codec/RouterCapabilitySubTlv") [(.ref w_NICKNAME), (.ref w_TREES), (.ref w_TREE_ROOT_IDS), (.ref w_TREE_USE_IDS), (.ref w_INTERESTED_VLANS), (.ref w_TRILL_VERSION), (.ref w_VLAN_GROUP), (.ref w_INTERESTED_LABELS), (.ref w_RBRIDGE_CHANNELS), (.ref w_AFFINITY), (.ref w_LABEL_GROUP)]) (E_w__VALUES : Exa Z h0 w__VALUES "[Lcom/example/weftline/weftline/codec/RouterCapabilitySubTlv;") (S__VALUES : Sta Z Z.heap "com/example/weftline/weftline/codec/RouterCapabilitySubTlv" "$VALUES" "[Lcom/example/weftline/weftline/codec/RouterCapabilitySubTlv;" (.ref w__VALUES)) :
    MetFree l (⟨"com/example/weftline/weftline/codec/RouterCapabilitySubTlv", "values", "()[Lcom/example/weftline/weftline/codec/RouterCapabilitySubTlv;"⟩ : MethodName) (head1 (Jvm.Cond.code (⟨"com/example/weftline/weftline/codec/RouterCapabilitySubTlv", "values", "()[Lcom/example/weftline/weftline/codec/RouterCapabilitySubTlv;"⟩ : MethodName) prog_35_method_1_code 0 (some (.array (.object "com/example/weftline/weftline/codec/RouterCapabilitySubTlv"))) :: ws) ({ frames := 1, cells := 1, slots := 11, locals := 14 } : Room)) (fun a U => a = #[] ∧ Z.Warmed39 U.vm ∧ U.heap = h0) (fun _ _ _ _ _ => True) (fun _ U o U' => ∃ v L, o = .returned v ∧ Qrm2 Z w_NICKNAME w_TREES w_TREE_ROOT_IDS w_TREE_USE_IDS w_INTERESTED_VLANS w_TRILL_VERSION w_VLAN_GROUP w_INTERESTED_LABELS w_RBRIDGE_CHANNELS w_AFFINITY w_LABEL_GROUP kV w__VALUES h0 n0 v U'.heap L ∧ FrameEnd U o U' L ({ frames := 1, cells := 1, slots := 11, locals := 14 } : Room).cells ({ frames := 1, cells := 1, slots := 11, locals := 14 } : Room).slots) := by
  refine MetFree.of_bodySF (plainFor_of_name pn_com_example_weftline_weftline_codec_RouterCapabilitySubTlv) hisR ?_
  intro p e s m args below meth c s₁ Bd hml0 hP hK
  obtain ⟨rfl, hZ, hh⟩ := hP
  have hx := Bd.exec
  have hby := Bd.bytes
  have hml : c.maxLocals = 0 := hml0
  have hown : s.vm.findClass "com/example/weftline/weftline/codec/RouterCapabilitySubTlv" = some m.cls := findClass_of_methodNamed Bd.named
  have hnm := (name_of_methodNamed Bd.named Bd.method).1
  have X0 : Stand p l e ({ frames := 1, cells := 1, slots := 11, locals := 14 } : Room) s m #[] below meth c s₁ [] 0 0 := Stand.of_body Bd
  have e0 : s₁.heap = h0 := by rw [← hh, Bd.state]; rfl
  have N0 := Fr.nil n0
  show OFin p e below (fun o t L => FrameEnd s o t L ({ frames := 1, cells := 1, slots := 11, locals := 14 } : Room).cells ({ frames := 1, cells := 1, slots := 11, locals := 14 } : Room).slots) (fun v h L => Qrm2 Z w_NICKNAME w_TREES w_TREE_ROOT_IDS w_TREE_USE_IDS w_INTERESTED_VLANS w_TRILL_VERSION w_VLAN_GROUP w_INTERESTED_LABELS w_RBRIDGE_CHANNELS w_AFFINITY w_LABEL_GROUP kV w__VALUES h0 n0 v h L) s₁ (entryFrame m #[] 0)
  refine OFin.cast (ef_rm2 m ) ?_
  show OFin p e below _ _ s₁ (mkF m 0 #[] [])
  obtain ⟨T1, X1, e1, st1⟩ := getS2 X0 hx hZ hown (host := "") (Or.inl (hw _ (List.mem_of_getElem? (i := 7) rfl))) Via.refl e0 (S__VALUES.ext O0.2) (g := (mkF m 0 #[] [])) rfl (hb hby d2_0)
  refine OFin.st st1 ?_
  show OFin p e below _ _ T1 (mkF m 3 #[] [(.ref w__VALUES)])
  obtain ⟨T2, h2, X2, e2, E2, V2, A2, st2⟩ := own_clone X1 hx hZ hown (hw _ (List.mem_of_getElem? (i := 9) rfl)) (hw _ (List.mem_of_getElem? (i := 10) rfl)) (hw _ (List.mem_of_getElem? (i := 14) rfl)) (hw _ (List.mem_of_getElem? (i := 12) rfl)) (hw _ (List.mem_of_getElem? (i := 13) rfl)) (hw _ (List.mem_of_getElem? (i := 15) rfl)) e1 A_w__VALUES (by simp [fits]) E_w__VALUES (g := (mkF m 3 #[] [(.ref w__VALUES)])) rfl (by rw [hml]; rfl) rfl (hb hby d2_3) (by decide) (W := 0) (cap := 11) (by show 2 * 0 + _ ≤ _; exact Nat.le_of_eq rfl) (by decide) (Nat.le_of_eq rfl) (by decide) (by decide)
  obtain ⟨b2, gz_b2⟩ : ∃ z, z = h0.size := ⟨_, rfl⟩
  rw [← gz_b2] at V2 A2 st2
  have N_w__VALUES_b2 : w__VALUES ≠ b2 := Nat.ne_of_lt (Nat.lt_of_lt_of_le A_w__VALUES.lt (Nat.le_of_eq gz_b2.symm))
  have g_b2 : n0 ≤ b2 := Nat.le_trans (Nat.le_trans (Nat.le_of_eq O0.1.symm) O0.2.1) (Nat.le_of_eq gz_b2.symm)
  have sz_b2 : h0.size ≤ b2 := Nat.le_trans (Keep.refl h0 []).1 (Nat.le_of_eq gz_b2.symm)
  have K2 : Keep h0 h2 [] := (Keep.refl h0 []).ext E2
  have O2 : Old Z n0 h2 := O0.ext E2
  refine OFin.st st2 ?_
  show OFin p e below _ _ T2 (mkF m 6 #[] [(.ref b2)])
  obtain ⟨T3, X3, e3, st3⟩ := castY X2 hx hZ hown (hw _ (List.mem_of_getElem? (i := 28) rfl)) e2 (Ins.self A2) (g := (mkF m 6 #[] [(.ref b2)])) rfl rfl (hb hby d2_6)
  refine OFin.st st3 ?_
  show OFin p e below _ _ T3 (mkF m 9 #[] [(.ref b2)])
  exact own_retR X3 hx Bd.returns Bd.notSynchronized rfl rfl rfl (hb hby d2_9) (by show Qrm2 Z w_NICKNAME w_TREES w_TREE_ROOT_IDS w_TREE_USE_IDS w_INTERESTED_VLANS w_TRILL_VERSION w_VLAN_GROUP w_INTERESTED_LABELS w_RBRIDGE_CHANNELS w_AFFINITY w_LABEL_GROUP kV w__VALUES h0 n0 _ T3.heap _; rw [e3]; exact ⟨b2, rfl, N0, K2, V2, g_b2⟩) (own_endN (by decide) (by decide))
theorem ef_rm1 (m : MethodId) (p0 : Int32) : entryFrame m #[(.int p0)] 5 = mkF m 0 #[.val (.int p0), .unset, .unset, .unset, .unset] [] := by first | (simp [entryFrame, mkF, argsToLocals, Value.category]; done) | rfl
def Qrm1 (Z : State) (p0 : Int32) (w_NICKNAME : Addr) (w_TREES : Addr) (w_TREE_ROOT_IDS : Addr) (w_TREE_USE_IDS : Addr) (w_INTERESTED_VLANS : Addr) (w_TRILL_VERSION : Addr) (w_VLAN_GROUP : Addr) (w_INTERESTED_LABELS : Addr) (w_RBRIDGE_CHANNELS : Addr) (w_AFFINITY : Addr) (w_LABEL_GROUP : Addr) (kV : ClassId) (w__VALUES : Addr) (h0 : Heap) (n0 : Nat) (v : Option Value) (h : Heap) (L : List Loc) : Prop := v = some (F1 p0 w_NICKNAME w_TREES w_TREE_ROOT_IDS w_TREE_USE_IDS w_INTERESTED_VLANS w_TRILL_VERSION w_VLAN_GROUP w_INTERESTED_LABELS w_RBRIDGE_CHANNELS w_AFFINITY w_LABEL_GROUP) ∧ Fr n0 L ∧ Keep h0 h []
set_option maxRecDepth 65536 in
set_option maxHeartbeats 40000000 in
theorem rm1 (l : Launch) (Z : State) (a0 : Array Value) (hw : ∀ d ∈ tables_1, d.before a0 Z = true) (ws : List Jvm.Cond) (p0 : Int32) (w_NICKNAME : Addr) (w_TREES : Addr) (w_TREE_ROOT_IDS : Addr) (w_TREE_USE_IDS : Addr) (w_INTERESTED_VLANS : Addr) (w_TRILL_VERSION : Addr) (w_VLAN_GROUP : Addr) (w_INTERESTED_LABELS : Addr) (w_RBRIDGE_CHANNELS : Addr) (w_AFFINITY : Addr) (w_LABEL_GROUP : Addr) (kV : ClassId) (w__VALUES : Addr) (h0 : Heap) (n0 : Nat) (O0 : Old Z n0 h0) (A_w__VALUES : Oar Z h0 w__VALUES kV (.object "com/example/weftline/weftline/codec/RouterCapabilitySubTlv") [(.ref w_NICKNAME), (.ref w_TREES), (.ref w_TREE_ROOT_IDS), (.ref w_TREE_USE_IDS), (.ref w_INTERESTED_VLANS), (.ref w_TRILL_VERSION), (.ref w_VLAN_GROUP), (.ref w_INTERESTED_LABELS), (.ref w_RBRIDGE_CHANNELS), (.ref w_AFFINITY), (.ref w_LABEL_GROUP)]) (E_w__VALUES : Exa Z h0 w__VALUES "[Lcom/example/weftline/weftline/codec/RouterCapabilitySubTlv;") (F_code_w_NICKNAME : Fld Z h0 w_NICKNAME "com/example/weftline/weftline/codec/RouterCapabilitySubTlv" "code" "I" (.int (6 : Int32))) (F_code_w_TREES : Fld Z h0 w_TREES "com/example/weftline/weftline/codec/RouterCapabilitySubTlv" "code" "I" (.int (7 : Int32))) (F_code_w_TREE_ROOT_IDS : Fld Z h0 w_TREE_ROOT_IDS "com/example/weftline/weftline/codec/RouterCapabilitySubTlv" "code" "I" (.int (8 : Int32))) (F_code_w_TREE_USE_IDS : Fld Z h0 w_TREE_USE_IDS "com/example/weftline/weftline/codec/RouterCapabilitySubTlv" "code" "I" (.int (9 : Int32))) (F_code_w_INTERESTED_VLANS : Fld Z h0 w_INTERESTED_VLANS "com/example/weftline/weftline/codec/RouterCapabilitySubTlv" "code" "I" (.int (10 : Int32))) (F_code_w_TRILL_VERSION : Fld Z h0 w_TRILL_VERSION "com/example/weftline/weftline/codec/RouterCapabilitySubTlv" "code" "I" (.int (13 : Int32))) (F_code_w_VLAN_GROUP : Fld Z h0 w_VLAN_GROUP "com/example/weftline/weftline/codec/RouterCapabilitySubTlv" "code" "I" (.int (14 : Int32))) (F_code_w_INTERESTED_LABELS : Fld Z h0 w_INTERESTED_LABELS "com/example/weftline/weftline/codec/RouterCapabilitySubTlv" "code" "I" (.int (15 : Int32))) (F_code_w_RBRIDGE_CHANNELS : Fld Z h0 w_RBRIDGE_CHANNELS "com/example/weftline/weftline/codec/RouterCapabilitySubTlv" "code" "I" (.int (16 : Int32))) (F_code_w_AFFINITY : Fld Z h0 w_AFFINITY "com/example/weftline/weftline/codec/RouterCapabilitySubTlv" "code" "I" (.int (17 : Int32))) (F_code_w_LABEL_GROUP : Fld Z h0 w_LABEL_GROUP "com/example/weftline/weftline/codec/RouterCapabilitySubTlv" "code" "I" (.int (18 : Int32))) (S__VALUES : Sta Z Z.heap "com/example/weftline/weftline/codec/RouterCapabilitySubTlv" "$VALUES" "[Lcom/example/weftline/weftline/codec/RouterCapabilitySubTlv;" (.ref w__VALUES)) :
    MetFree l (⟨"com/example/weftline/weftline/codec/RouterCapabilitySubTlv", "ofCode", "(I)Lcom/example/weftline/weftline/codec/RouterCapabilitySubTlv;"⟩ : MethodName) (head1 (Jvm.Cond.code (⟨"com/example/weftline/weftline/codec/RouterCapabilitySubTlv", "ofCode", "(I)Lcom/example/weftline/weftline/codec/RouterCapabilitySubTlv;"⟩ : MethodName) prog_35_method_4_code 5 (some (.object "com/example/weftline/weftline/codec/RouterCapabilitySubTlv")) :: ws) ({ frames := 2, cells := 1, slots := 11, locals := 25 } : Room)) (fun a U => a = #[(.int p0)] ∧ Z.Warmed39 U.vm ∧ U.heap = h0) (fun _ _ _ _ _ => True) (fun _ U o U' => ∃ v L, o = .returned v ∧ Qrm1 Z p0 w_NICKNAME w_TREES w_TREE_ROOT_IDS w_TREE_USE_IDS w_INTERESTED_VLANS w_TRILL_VERSION w_VLAN_GROUP w_INTERESTED_LABELS w_RBRIDGE_CHANNELS w_AFFINITY w_LABEL_GROUP kV w__VALUES h0 n0 v U'.heap L ∧ FrameEnd U o U' L ({ frames := 2, cells := 1, slots := 11, locals := 25 } : Room).cells ({ frames := 2, cells := 1, slots := 11, locals := 25 } : Room).slots) := by
  refine MetFree.of_bodySF (plainFor_of_name pn_com_example_weftline_weftline_codec_RouterCapabilitySubTlv) hisR ?_
  intro p e s m args below meth c s₁ Bd hml0 hP hK
  obtain ⟨rfl, hZ, hh⟩ := hP
  have hx := Bd.exec
  have hby := Bd.bytes
  have hml : c.maxLocals = 5 := hml0
  have hown : s.vm.findClass "com/example/weftline/weftline/codec/RouterCapabilitySubTlv" = some m.cls := findClass_of_methodNamed Bd.named
  have hnm := (name_of_methodNamed Bd.named Bd.method).1
  have X0 : Stand p l e ({ frames := 2, cells := 1, slots := 11, locals := 25 } : Room) s m #[(.int p0)] below meth c s₁ [] 0 0 := Stand.of_body Bd
  have e0 : s₁.heap = h0 := by rw [← hh, Bd.state]; rfl
  have N0 := Fr.nil n0
  show OFin p e below (fun o t L => FrameEnd s o t L ({ frames := 2, cells := 1, slots := 11, locals := 25 } : Room).cells ({ frames := 2, cells := 1, slots := 11, locals := 25 } : Room).slots) (fun v h L => Qrm1 Z p0 w_NICKNAME w_TREES w_TREE_ROOT_IDS w_TREE_USE_IDS w_INTERESTED_VLANS w_TRILL_VERSION w_VLAN_GROUP w_INTERESTED_LABELS w_RBRIDGE_CHANNELS w_AFFINITY w_LABEL_GROUP kV w__VALUES h0 n0 v h L) s₁ (entryFrame m #[(.int p0)] 5)
  refine OFin.cast (ef_rm1 m p0) ?_
  show OFin p e below _ _ s₁ (mkF m 0 #[.val (.int p0), .unset, .unset, .unset, .unset] [])
  obtain ⟨_, _, ⟨T1, L1, k1, n1⟩, -, X1, ⟨Lc1, hQ1, l1, y1, z1⟩, st1⟩ := Jvm.LawKit.callS X0 hx (y := (⟨"com/example/weftline/weftline/codec/RouterCapabilitySubTlv", "values", "()[Lcom/example/weftline/weftline/codec/RouterCapabilitySubTlv;"⟩ : MethodName)) hown (mvT hZ (hw _ (List.mem_of_getElem? (i := 4) rfl))) (mvT hZ (hw _ (List.mem_of_getElem? (i := 5) rfl))) (mvT hZ (hw _ (List.mem_of_getElem? (i := 2) rfl))) (mvT hZ (hw _ (List.mem_of_getElem? (i := 6) rfl))) (by decide) (backOf (W := 0) (rm2 l Z a0 hw [] w_NICKNAME w_TREES w_TREE_ROOT_IDS w_TREE_USE_IDS w_INTERESTED_VLANS w_TRILL_VERSION w_VLAN_GROUP w_INTERESTED_LABELS w_RBRIDGE_CHANNELS w_AFFINITY w_LABEL_GROUP kV w__VALUES h0 n0 O0 A_w__VALUES E_w__VALUES S__VALUES) hZ (hw _ (List.mem_of_getElem? (i := 6) rfl)) (hw _ (List.mem_of_getElem? (i := 2) rfl)) (by decide) (by decide)) (g := (mkF m 0 #[.val (.int p0), .unset, .unset, .unset, .unset] [])) rfl (by rw [hml]; rfl) (argsL := []) (rest := []) (lenOf pd_2 rfl) rfl (by show 2 * 0 + _ ≤ _; exact Nat.le_of_eq rfl) (hb hby d1_0) (fun _ _ => ⟨rfl, e0, (by decide : 0 + 1 ≤ _), (by decide : 0 + 11 ≤ _)⟩)
  dsimp only [Pt.U, Pt.locs, Pt.cells, Pt.slots] at X1 l1 y1 z1 st1 hQ1
  subst l1 y1 z1
  obtain ⟨b1, rfl, N1q, K1q, P1_0, P1_1⟩ := hQ1
  have N1 := Fr.app N0 N1q
  have K1 : Keep h0 T1.heap [] := (Keep.refl h0 []).trans K1q all0
  have O1 : Old Z n0 T1.heap := O0.keep K1q all0
  refine OFin.st st1 ?_
  show OFin p e below _ _ T1 (mkF m 3 #[.val (.int p0), .unset, .unset, .unset, .unset] [(.ref b1)])
  refine OFin.st (fun t k => XS.astoreN X1.here hx rfl (hb hby d1_3) rfl rfl (l' := #[.val (.int p0), .val (.ref b1), .unset, .unset, .unset]) rfl k) ?_
  show OFin p e below _ _ T1 (mkF m 4 #[.val (.int p0), .val (.ref b1), .unset, .unset, .unset] [])
  refine OFin.st (fun t k => XS.aloadN X1.here hx rfl (hb hby d1_4) rfl rfl k) ?_
  show OFin p e below _ _ T1 (mkF m 5 #[.val (.int p0), .val (.ref b1), .unset, .unset, .unset] [(.ref b1)])
  refine own_alen X1 hx hZ rfl P1_0 (z := (11 : Int32)) (by simp only [List.length_cons, List.length_nil]; decide) (hb hby d1_5) (pc' := 6) rfl ?_
  show OFin p e below _ _ T1 (mkF m 6 #[.val (.int p0), .val (.ref b1), .unset, .unset, .unset] [(.int (11 : Int32))])
  refine OFin.st (fun t k => XS.istoreN X1.here hx rfl (hb hby d1_6) rfl (l' := #[.val (.int p0), .val (.ref b1), .val (.int (11 : Int32)), .unset, .unset]) rfl k) ?_
  show OFin p e below _ _ T1 (mkF m 7 #[.val (.int p0), .val (.ref b1), .val (.int (11 : Int32)), .unset, .unset] [])
  refine OFin.st (fun t k => XS.iconst X1.here hx rfl (hb hby d1_7) k) ?_
  show OFin p e below _ _ T1 (mkF m 8 #[.val (.int p0), .val (.ref b1), .val (.int (11 : Int32)), .unset, .unset] [(.int (0 : Int32))])
  refine OFin.st (fun t k => XS.istoreN X1.here hx rfl (hb hby d1_8) rfl (l' := #[.val (.int p0), .val (.ref b1), .val (.int (11 : Int32)), .val (.int (0 : Int32)), .unset]) rfl k) ?_
  show OFin p e below _ _ T1 (mkF m 9 #[.val (.int p0), .val (.ref b1), .val (.int (11 : Int32)), .val (.int (0 : Int32)), .unset] [])
  refine OFin.st (fun t k => XS.iloadN X1.here hx rfl (hb hby d1_9) rfl k) ?_
  show OFin p e below _ _ T1 (mkF m 10 #[.val (.int p0), .val (.ref b1), .val (.int (11 : Int32)), .val (.int (0 : Int32)), .unset] [(.int (0 : Int32))])
  refine OFin.st (fun t k => XS.iloadN X1.here hx rfl (hb hby d1_10) rfl k) ?_
  show OFin p e below _ _ T1 (mkF m 11 #[.val (.int p0), .val (.ref b1), .val (.int (11 : Int32)), .val (.int (0 : Int32)), .unset] [(.int (11 : Int32)), (.int (0 : Int32))])
  refine OFin.st (fun t k => XS.icmpNo X1.here hx rfl (hb hby d1_11) rfl (tlt (by decide : (0 : Int32) < (11 : Int32))).2.1 k) ?_
  show OFin p e below _ _ T1 (mkF m 14 #[.val (.int p0), .val (.ref b1), .val (.int (11 : Int32)), .val (.int (0 : Int32)), .unset] [])
  refine OFin.st (fun t k => XS.aloadN X1.here hx rfl (hb hby d1_14) rfl rfl k) ?_
  show OFin p e below _ _ T1 (mkF m 15 #[.val (.int p0), .val (.ref b1), .val (.int (11 : Int32)), .val (.int (0 : Int32)), .unset] [(.ref b1)])
  refine OFin.st (fun t k => XS.iloadN X1.here hx rfl (hb hby d1_15) rfl k) ?_
  show OFin p e below _ _ T1 (mkF m 16 #[.val (.int p0), .val (.ref b1), .val (.int (11 : Int32)), .val (.int (0 : Int32)), .unset] [(.int (0 : Int32)), (.ref b1)])
  refine own_aaload X1 hx hZ rfl P1_0 rfl (i := 0) (j := (0 : Int32)) (by decide) (v := (.ref w_NICKNAME)) rfl (hb hby d1_16) (pc' := 17) rfl ?_
  show OFin p e below _ _ T1 (mkF m 17 #[.val (.int p0), .val (.ref b1), .val (.int (11 : Int32)), .val (.int (0 : Int32)), .unset] [(.ref w_NICKNAME)])
  refine OFin.st (fun t k => XS.astore X1.here hx rfl (hb hby d1_17) rfl rfl (l' := #[.val (.int p0), .val (.ref b1), .val (.int (11 : Int32)), .val (.int (0 : Int32)), .val (.ref w_NICKNAME)]) rfl k) ?_
  show OFin p e below _ _ T1 (mkF m 19 #[.val (.int p0), .val (.ref b1), .val (.int (11 : Int32)), .val (.int (0 : Int32)), .val (.ref w_NICKNAME)] [])
  refine OFin.st (fun t k => XS.aload X1.here hx rfl (hb hby d1_19) rfl rfl k) ?_
  show OFin p e below _ _ T1 (mkF m 21 #[.val (.int p0), .val (.ref b1), .val (.int (11 : Int32)), .val (.int (0 : Int32)), .val (.ref w_NICKNAME)] [(.ref w_NICKNAME)])
  obtain ⟨T2, X2, e2, st2⟩ := getF X1 hx hZ hown (host := "") (Or.inl (hw _ (List.mem_of_getElem? (i := 30) rfl))) Via.refl rfl (F_code_w_NICKNAME.keep K1q nin0) (g := (mkF m 21 #[.val (.int p0), .val (.ref b1), .val (.int (11 : Int32)), .val (.int (0 : Int32)), .val (.ref w_NICKNAME)] [(.ref w_NICKNAME)])) rfl rfl (hb hby d1_21)
  refine OFin.st st2 ?_
  show OFin p e below _ _ T2 (mkF m 24 #[.val (.int p0), .val (.ref b1), .val (.int (11 : Int32)), .val (.int (0 : Int32)), .val (.ref w_NICKNAME)] [(.int (6 : Int32))])
  refine OFin.st (fun t k => XS.iloadN X2.here hx rfl (hb hby d1_24) rfl k) ?_
  show OFin p e below _ _ T2 (mkF m 25 #[.val (.int p0), .val (.ref b1), .val (.int (11 : Int32)), .val (.int (0 : Int32)), .val (.ref w_NICKNAME)] [(.int p0), (.int (6 : Int32))])
  by_cases hc25 : (6 : Int32) = p0
  · refine OFin.st (fun t k => XS.icmpNo X2.here hx rfl (hb hby d1_25) rfl (teq hc25).2 k) ?_
    show OFin p e below _ _ T2 (mkF m 28 #[.val (.int p0), .val (.ref b1), .val (.int (11 : Int32)), .val (.int (0 : Int32)), .val (.ref w_NICKNAME)] [])
    refine OFin.st (fun t k => XS.aload X2.here hx rfl (hb hby d1_28) rfl rfl k) ?_
    show OFin p e below _ _ T2 (mkF m 30 #[.val (.int p0), .val (.ref b1), .val (.int (11 : Int32)), .val (.int (0 : Int32)), .val (.ref w_NICKNAME)] [(.ref w_NICKNAME)])
    exact own_retR X2 hx Bd.returns Bd.notSynchronized rfl rfl rfl (hb hby d1_30) (by show Qrm1 Z p0 w_NICKNAME w_TREES w_TREE_ROOT_IDS w_TREE_USE_IDS w_INTERESTED_VLANS w_TRILL_VERSION w_VLAN_GROUP w_INTERESTED_LABELS w_RBRIDGE_CHANNELS w_AFFINITY w_LABEL_GROUP kV w__VALUES h0 n0 _ T2.heap _; rw [e2]; exact ⟨(by rw [F1, if_pos hc25]), N1, K1⟩) (own_endN (by decide) (by decide))
  · refine OFin.st (fun t k => XS.icmpYes X2.here hx rfl (pc0 := 25) (pc' := 31) rfl (hb hby d1_25) rfl (feq hc25).2 (by decide) (by decide) k) ?_
    show OFin p e below _ _ T2 (mkF m 31 #[.val (.int p0), .val (.ref b1), .val (.int (11 : Int32)), .val (.int (0 : Int32)), .val (.ref w_NICKNAME)] [])
    refine OFin.st (fun t k => XS.iinc X2.here hx rfl (hb hby d1_31) rfl (l' := #[.val (.int p0), .val (.ref b1), .val (.int (11 : Int32)), .val (.int (1 : Int32)), .val (.ref w_NICKNAME)]) rfl k) ?_
    show OFin p e below _ _ T2 (mkF m 34 #[.val (.int p0), .val (.ref b1), .val (.int (11 : Int32)), .val (.int (1 : Int32)), .val (.ref w_NICKNAME)] [])
    refine OFin.st (fun t k => XS.goto X2.here hx rfl (pc0 := 34) (pc' := 9) rfl (hb hby d1_34) (by decide) (by decide) k) ?_
    show OFin p e below _ _ T2 (mkF m 9 #[.val (.int p0), .val (.ref b1), .val (.int (11 : Int32)), .val (.int (1 : Int32)), .val (.ref w_NICKNAME)] [])
    refine OFin.st (fun t k => XS.iloadN X2.here hx rfl (hb hby d1_9) rfl k) ?_
    show OFin p e below _ _ T2 (mkF m 10 #[.val (.int p0), .val (.ref b1), .val (.int (11 : Int32)), .val (.int (1 : Int32)), .val (.ref w_NICKNAME)] [(.int (1 : Int32))])
    refine OFin.st (fun t k => XS.iloadN X2.here hx rfl (hb hby d1_10) rfl k) ?_
    show OFin p e below _ _ T2 (mkF m 11 #[.val (.int p0), .val (.ref b1), .val (.int (11 : Int32)), .val (.int (1 : Int32)), .val (.ref w_NICKNAME)] [(.int (11 : Int32)), (.int (1 : Int32))])
    refine OFin.st (fun t k => XS.icmpNo X2.here hx rfl (hb hby d1_11) rfl (tlt (by decide : (1 : Int32) < (11 : Int32))).2.1 k) ?_
    show OFin p e below _ _ T2 (mkF m 14 #[.val (.int p0), .val (.ref b1), .val (.int (11 : Int32)), .val (.int (1 : Int32)), .val (.ref w_NICKNAME)] [])
    refine OFin.st (fun t k => XS.aloadN X2.here hx rfl (hb hby d1_14) rfl rfl k) ?_
    show OFin p e below _ _ T2 (mkF m 15 #[.val (.int p0), .val (.ref b1), .val (.int (11 : Int32)), .val (.int (1 : Int32)), .val (.ref w_NICKNAME)] [(.ref b1)])
    refine OFin.st (fun t k => XS.iloadN X2.here hx rfl (hb hby d1_15) rfl k) ?_
    show OFin p e below _ _ T2 (mkF m 16 #[.val (.int p0), .val (.ref b1), .val (.int (11 : Int32)), .val (.int (1 : Int32)), .val (.ref w_NICKNAME)] [(.int (1 : Int32)), (.ref b1)])
    refine own_aaload X2 hx hZ e2 P1_0 rfl (i := 1) (j := (1 : Int32)) (by decide) (v := (.ref w_TREES)) rfl (hb hby d1_16) (pc' := 17) rfl ?_
    show OFin p e below _ _ T2 (mkF m 17 #[.val (.int p0), .val (.ref b1), .val (.int (11 : Int32)), .val (.int (1 : Int32)), .val (.ref w_NICKNAME)] [(.ref w_TREES)])
    refine OFin.st (fun t k => XS.astore X2.here hx rfl (hb hby d1_17) rfl rfl (l' := #[.val (.int p0), .val (.ref b1), .val (.int (11 : Int32)), .val (.int (1 : Int32)), .val (.ref w_TREES)]) rfl k) ?_
    show OFin p e below _ _ T2 (mkF m 19 #[.val (.int p0), .val (.ref b1), .val (.int (11 : Int32)), .val (.int (1 : Int32)), .val (.ref w_TREES)] [])
    refine OFin.st (fun t k => XS.aload X2.here hx rfl (hb hby d1_19) rfl rfl k) ?_
    show OFin p e below _ _ T2 (mkF m 21 #[.val (.int p0), .val (.ref b1), .val (.int (11 : Int32)), .val (.int (1 : Int32)), .val (.ref w_TREES)] [(.ref w_TREES)])
    obtain ⟨T3, X3, e3, st3⟩ := getF X2 hx hZ hown (host := "") (Or.inl (hw _ (List.mem_of_getElem? (i := 30) rfl))) Via.refl e2 (F_code_w_TREES.keep K1q nin0) (g := (mkF m 21 #[.val (.int p0), .val (.ref b1), .val (.int (11 : Int32)), .val (.int (1 : Int32)), .val (.ref w_TREES)] [(.ref w_TREES)])) rfl rfl (hb hby d1_21)
    refine OFin.st st3 ?_
    show OFin p e below _ _ T3 (mkF m 24 #[.val (.int p0), .val (.ref b1), .val (.int (11 : Int32)), .val (.int (1 : Int32)), .val (.ref w_TREES)] [(.int (7 : Int32))])
    refine OFin.st (fun t k => XS.iloadN X3.here hx rfl (hb hby d1_24) rfl k) ?_
    show OFin p e below _ _ T3 (mkF m 25 #[.val (.int p0), .val (.ref b1), .val (.int (11 : Int32)), .val (.int (1 : Int32)), .val (.ref w_TREES)] [(.int p0), (.int (7 : Int32))])
    by_cases hc25' : (7 : Int32) = p0
    · refine OFin.st (fun t k => XS.icmpNo X3.here hx rfl (hb hby d1_25) rfl (teq hc25').2 k) ?_
      show OFin p e below _ _ T3 (mkF m 28 #[.val (.int p0), .val (.ref b1), .val (.int (11 : Int32)), .val (.int (1 : Int32)), .val (.ref w_TREES)] [])
      refine OFin.st (fun t k => XS.aload X3.here hx rfl (hb hby d1_28) rfl rfl k) ?_
      show OFin p e below _ _ T3 (mkF m 30 #[.val (.int p0), .val (.ref b1), .val (.int (11 : Int32)), .val (.int (1 : Int32)), .val (.ref w_TREES)] [(.ref w_TREES)])
      exact own_retR X3 hx Bd.returns Bd.notSynchronized rfl rfl rfl (hb hby d1_30) (by show Qrm1 Z p0 w_NICKNAME w_TREES w_TREE_ROOT_IDS w_TREE_USE_IDS w_INTERESTED_VLANS w_TRILL_VERSION w_VLAN_GROUP w_INTERESTED_LABELS w_RBRIDGE_CHANNELS w_AFFINITY w_LABEL_GROUP kV w__VALUES h0 n0 _ T3.heap _; rw [e3]; exact ⟨(by rw [F1, if_neg hc25, if_pos hc25']), N1, K1⟩) (own_endN (by decide) (by decide))
    · refine OFin.st (fun t k => XS.icmpYes X3.here hx rfl (pc0 := 25) (pc' := 31) rfl (hb hby d1_25) rfl (feq hc25').2 (by decide) (by decide) k) ?_
      show OFin p e below _ _ T3 (mkF m 31 #[.val (.int p0), .val (.ref b1), .val (.int (11 : Int32)), .val (.int (1 : Int32)), .val (.ref w_TREES)] [])
      refine OFin.st (fun t k => XS.iinc X3.here hx rfl (hb hby d1_31) rfl (l' := #[.val (.int p0), .val (.ref b1), .val (.int (11 : Int32)), .val (.int (2 : Int32)), .val (.ref w_TREES)]) rfl k) ?_
      show OFin p e below _ _ T3 (mkF m 34 #[.val (.int p0), .val (.ref b1), .val (.int (11 : Int32)), .val (.int (2 : Int32)), .val (.ref w_TREES)] [])
      refine OFin.st (fun t k => XS.goto X3.here hx rfl (pc0 := 34) (pc' := 9) rfl (hb hby d1_34) (by decide) (by decide) k) ?_
      show OFin p e below _ _ T3 (mkF m 9 #[.val (.int p0), .val (.ref b1), .val (.int (11 : Int32)), .val (.int (2 : Int32)), .val (.ref w_TREES)] [])
      refine OFin.st (fun t k => XS.iloadN X3.here hx rfl (hb hby d1_9) rfl k) ?_
      show OFin p e below _ _ T3 (mkF m 10 #[.val (.int p0), .val (.ref b1), .val (.int (11 : Int32)), .val (.int (2 : Int32)), .val (.ref w_TREES)] [(.int (2 : Int32))])
      refine OFin.st (fun t k => XS.iloadN X3.here hx rfl (hb hby d1_10) rfl k) ?_
      show OFin p e below _ _ T3 (mkF m 11 #[.val (.int p0), .val (.ref b1), .val (.int (11 : Int32)), .val (.int (2 : Int32)), .val (.ref w_TREES)] [(.int (11 : Int32)), (.int (2 : Int32))])
      refine OFin.st (fun t k => XS.icmpNo X3.here hx rfl (hb hby d1_11) rfl (tlt (by decide : (2 : Int32) < (11 : Int32))).2.1 k) ?_
      show OFin p e below _ _ T3 (mkF m 14 #[.val (.int p0), .val (.ref b1), .val (.int (11 : Int32)), .val (.int (2 : Int32)), .val (.ref w_TREES)] [])
      refine OFin.st (fun t k => XS.aloadN X3.here hx rfl (hb hby d1_14) rfl rfl k) ?_
      show OFin p e below _ _ T3 (mkF m 15 #[.val (.int p0), .val (.ref b1), .val (.int (11 : Int32)), .val (.int (2 : Int32)), .val (.ref w_TREES)] [(.ref b1)])
      refine OFin.st (fun t k => XS.iloadN X3.here hx rfl (hb hby d1_15) rfl k) ?_
      show OFin p e below _ _ T3 (mkF m 16 #[.val (.int p0), .val (.ref b1), .val (.int (11 : Int32)), .val (.int (2 : Int32)), .val (.ref w_TREES)] [(.int (2 : Int32)), (.ref b1)])
      refine own_aaload X3 hx hZ e3 P1_0 rfl (i := 2) (j := (2 : Int32)) (by decide) (v := (.ref w_TREE_ROOT_IDS)) rfl (hb hby d1_16) (pc' := 17) rfl ?_
      show OFin p e below _ _ T3 (mkF m 17 #[.val (.int p0), .val (.ref b1), .val (.int (11 : Int32)), .val (.int (2 : Int32)), .val (.ref w_TREES)] [(.ref w_TREE_ROOT_IDS)])
      refine OFin.st (fun t k => XS.astore X3.here hx rfl (hb hby d1_17) rfl rfl (l' := #[.val (.int p0), .val (.ref b1), .val (.int (11 : Int32)), .val (.int (2 : Int32)), .val (.ref w_TREE_ROOT_IDS)]) rfl k) ?_
      show OFin p e below _ _ T3 (mkF m 19 #[.val (.int p0), .val (.ref b1), .val (.int (11 : Int32)), .val (.int (2 : Int32)), .val (.ref w_TREE_ROOT_IDS)] [])
      refine OFin.st (fun t k => XS.aload X3.here hx rfl (hb hby d1_19) rfl rfl k) ?_
      show OFin p e below _ _ T3 (mkF m 21 #[.val (.int p0), .val (.ref b1), .val (.int (11 : Int32)), .val (.int (2 : Int32)), .val (.ref w_TREE_ROOT_IDS)] [(.ref w_TREE_ROOT_IDS)])
      obtain ⟨T4, X4, e4, st4⟩ := getF X3 hx hZ hown (host := "") (Or.inl (hw _ (List.mem_of_getElem? (i := 30) rfl))) Via.refl e3 (F_code_w_TREE_ROOT_IDS.keep K1q nin0) (g := (mkF m 21 #[.val (.int p0), .val (.ref b1), .val (.int (11 : Int32)), .val (.int (2 : Int32)), .val (.ref w_TREE_ROOT_IDS)] [(.ref w_TREE_ROOT_IDS)])) rfl rfl (hb hby d1_21)
      refine OFin.st st4 ?_
      show OFin p e below _ _ T4 (mkF m 24 #[.val (.int p0), .val (.ref b1), .val (.int (11 : Int32)), .val (.int (2 : Int32)), .val (.ref w_TREE_ROOT_IDS)] [(.int (8 : Int32))])
      refine OFin.st (fun t k => XS.iloadN X4.here hx rfl (hb hby d1_24) rfl k) ?_
      show OFin p e below _ _ T4 (mkF m 25 #[.val (.int p0), .val (.ref b1), .val (.int (11 : Int32)), .val (.int (2 : Int32)), .val (.ref w_TREE_ROOT_IDS)] [(.int p0), (.int (8 : Int32))])
      by_cases hc25'' : (8 : Int32) = p0
      · refine OFin.st (fun t k => XS.icmpNo X4.here hx rfl (hb hby d1_25) rfl (teq hc25'').2 k) ?_
        show OFin p e below _ _ T4 (mkF m 28 #[.val (.int p0), .val (.ref b1), .val (.int (11 : Int32)), .val (.int (2 : Int32)), .val (.ref w_TREE_ROOT_IDS)] [])
        refine OFin.st (fun t k => XS.aload X4.here hx rfl (hb hby d1_28) rfl rfl k) ?_
        show OFin p e below _ _ T4 (mkF m 30 #[.val (.int p0), .val (.ref b1), .val (.int (11 : Int32)), .val (.int (2 : Int32)), .val (.ref w_TREE_ROOT_IDS)] [(.ref w_TREE_ROOT_IDS)])
        exact own_retR X4 hx Bd.returns Bd.notSynchronized rfl rfl rfl (hb hby d1_30) (by show Qrm1 Z p0 w_NICKNAME w_TREES w_TREE_ROOT_IDS w_TREE_USE_IDS w_INTERESTED_VLANS w_TRILL_VERSION w_VLAN_GROUP w_INTERESTED_LABELS w_RBRIDGE_CHANNELS w_AFFINITY w_LABEL_GROUP kV w__VALUES h0 n0 _ T4.heap _; rw [e4]; exact ⟨(by rw [F1, if_neg hc25, if_neg hc25', if_pos hc25'']), N1, K1⟩) (own_endN (by decide) (by decide))
      · refine OFin.st (fun t k => XS.icmpYes X4.here hx rfl (pc0 := 25) (pc' := 31) rfl (hb hby d1_25) rfl (feq hc25'').2 (by decide) (by decide) k) ?_
        show OFin p e below _ _ T4 (mkF m 31 #[.val (.int p0), .val (.ref b1), .val (.int (11 : Int32)), .val (.int (2 : Int32)), .val (.ref w_TREE_ROOT_IDS)] [])
        refine OFin.st (fun t k => XS.iinc X4.here hx rfl (hb hby d1_31) rfl (l' := #[.val (.int p0), .val (.ref b1), .val (.int (11 : Int32)), .val (.int (3 : Int32)), .val (.ref w_TREE_ROOT_IDS)]) rfl k) ?_
        show OFin p e below _ _ T4 (mkF m 34 #[.val (.int p0), .val (.ref b1), .val (.int (11 : Int32)), .val (.int (3 : Int32)), .val (.ref w_TREE_ROOT_IDS)] [])
        refine OFin.st (fun t k => XS.goto X4.here hx rfl (pc0 := 34) (pc' := 9) rfl (hb hby d1_34) (by decide) (by decide) k) ?_
        show OFin p e below _ _ T4 (mkF m 9 #[.val (.int p0), .val (.ref b1), .val (.int (11 : Int32)), .val (.int (3 : Int32)), .val (.ref w_TREE_ROOT_IDS)] [])
        refine OFin.st (fun t k => XS.iloadN X4.here hx rfl (hb hby d1_9) rfl k) ?_
        show OFin p e below _ _ T4 (mkF m 10 #[.val (.int p0), .val (.ref b1), .val (.int (11 : Int32)), .val (.int (3 : Int32)), .val (.ref w_TREE_ROOT_IDS)] [(.int (3 : Int32))])
        refine OFin.st (fun t k => XS.iloadN X4.here hx rfl (hb hby d1_10) rfl k) ?_
        show OFin p e below _ _ T4 (mkF m 11 #[.val (.int p0), .val (.ref b1), .val (.int (11 : Int32)), .val (.int (3 : Int32)), .val (.ref w_TREE_ROOT_IDS)] [(.int (11 : Int32)), (.int (3 : Int32))])
        refine OFin.st (fun t k => XS.icmpNo X4.here hx rfl (hb hby d1_11) rfl (tlt (by decide : (3 : Int32) < (11 : Int32))).2.1 k) ?_
        show OFin p e below _ _ T4 (mkF m 14 #[.val (.int p0), .val (.ref b1), .val (.int (11 : Int32)), .val (.int (3 : Int32)), .val (.ref w_TREE_ROOT_IDS)] [])
        refine OFin.st (fun t k => XS.aloadN X4.here hx rfl (hb hby d1_14) rfl rfl k) ?_
        show OFin p e below _ _ T4 (mkF m 15 #[.val (.int p0), .val (.ref b1), .val (.int (11 : Int32)), .val (.int (3 : Int32)), .val (.ref w_TREE_ROOT_IDS)] [(.ref b1)])
        refine OFin.st (fun t k => XS.iloadN X4.here hx rfl (hb hby d1_15) rfl k) ?_
        show OFin p e below _ _ T4 (mkF m 16 #[.val (.int p0), .val (.ref b1), .val (.int (11 : Int32)), .val (.int (3 : Int32)), .val (.ref w_TREE_ROOT_IDS)] [(.int (3 : Int32)), (.ref b1)])
        refine own_aaload X4 hx hZ e4 P1_0 rfl (i := 3) (j := (3 : Int32)) (by decide) (v := (.ref w_TREE_USE_IDS)) rfl (hb hby d1_16) (pc' := 17) rfl ?_
        show OFin p e below _ _ T4 (mkF m 17 #[.val (.int p0), .val (.ref b1), .val (.int (11 : Int32)), .val (.int (3 : Int32)), .val (.ref w_TREE_ROOT_IDS)] [(.ref w_TREE_USE_IDS)])
        refine OFin.st (fun t k => XS.astore X4.here hx rfl (hb hby d1_17) rfl rfl (l' := #[.val (.int p0), .val (.ref b1), .val (.int (11 : Int32)), .val (.int (3 : Int32)), .val (.ref w_TREE_USE_IDS)]) rfl k) ?_
        show OFin p e below _ _ T4 (mkF m 19 #[.val (.int p0), .val (.ref b1), .val (.int (11 : Int32)), .val (.int (3 : Int32)), .val (.ref w_TREE_USE_IDS)] [])
        refine OFin.st (fun t k => XS.aload X4.here hx rfl (hb hby d1_19) rfl rfl k) ?_
        show OFin p e below _ _ T4 (mkF m 21 #[.val (.int p0), .val (.ref b1), .val (.int (11 : Int32)), .val (.int (3 : Int32)), .val (.ref w_TREE_USE_IDS)] [(.ref w_TREE_USE_IDS)])
        obtain ⟨T5, X5, e5, st5⟩ := getF X4 hx hZ hown (host := "") (Or.inl (hw _ (List.mem_of_getElem? (i := 30) rfl))) Via.refl e4 (F_code_w_TREE_USE_IDS.keep K1q nin0) (g := (mkF m 21 #[.val (.int p0), .val (.ref b1), .val (.int (11 : Int32)), .val (.int (3 : Int32)), .val (.ref w_TREE_USE_IDS)] [(.ref w_TREE_USE_IDS)])) rfl rfl (hb hby d1_21)
        refine OFin.st st5 ?_
        show OFin p e below _ _ T5 (mkF m 24 #[.val (.int p0), .val (.ref b1), .val (.int (11 : Int32)), .val (.int (3 : Int32)), .val (.ref w_TREE_USE_IDS)] [(.int (9 : Int32))])
        refine OFin.st (fun t k => XS.iloadN X5.here hx rfl (hb hby d1_24) rfl k) ?_
        show OFin p e below _ _ T5 (mkF m 25 #[.val (.int p0), .val (.ref b1), .val (.int (11 : Int32)), .val (.int (3 : Int32)), .val (.ref w_TREE_USE_IDS)] [(.int p0), (.int (9 : Int32))])
        by_cases hc25''' : (9 : Int32) = p0
        · refine OFin.st (fun t k => XS.icmpNo X5.here hx rfl (hb hby d1_25) rfl (teq hc25''').2 k) ?_
          show OFin p e below _ _ T5 (mkF m 28 #[.val (.int p0), .val (.ref b1), .val (.int (11 : Int32)), .val (.int (3 : Int32)), .val (.ref w_TREE_USE_IDS)] [])
          refine OFin.st (fun t k => XS.aload X5.here hx rfl (hb hby d1_28) rfl rfl k) ?_
          show OFin p e below _ _ T5 (mkF m 30 #[.val (.int p0), .val (.ref b1), .val (.int (11 : Int32)), .val (.int (3 : Int32)), .val (.ref w_TREE_USE_IDS)] [(.ref w_TREE_USE_IDS)])
          exact own_retR X5 hx Bd.returns Bd.notSynchronized rfl rfl rfl (hb hby d1_30) (by show Qrm1 Z p0 w_NICKNAME w_TREES w_TREE_ROOT_IDS w_TREE_USE_IDS w_INTERESTED_VLANS w_TRILL_VERSION w_VLAN_GROUP w_INTERESTED_LABELS w_RBRIDGE_CHANNELS w_AFFINITY w_LABEL_GROUP kV w__VALUES h0 n0 _ T5.heap _; rw [e5]; exact ⟨(by rw [F1, if_neg hc25, if_neg hc25', if_neg hc25'', if_pos hc25''']), N1, K1⟩) (own_endN (by decide) (by decide))
        · refine OFin.st (fun t k => XS.icmpYes X5.here hx rfl (pc0 := 25) (pc' := 31) rfl (hb hby d1_25) rfl (feq hc25''').2 (by decide) (by decide) k) ?_
          show OFin p e below _ _ T5 (mkF m 31 #[.val (.int p0), .val (.ref b1), .val (.int (11 : Int32)), .val (.int (3 : Int32)), .val (.ref w_TREE_USE_IDS)] [])
          refine OFin.st (fun t k => XS.iinc X5.here hx rfl (hb hby d1_31) rfl (l' := #[.val (.int p0), .val (.ref b1), .val (.int (11 : Int32)), .val (.int (4 : Int32)), .val (.ref w_TREE_USE_IDS)]) rfl k) ?_
          show OFin p e below _ _ T5 (mkF m 34 #[.val (.int p0), .val (.ref b1), .val (.int (11 : Int32)), .val (.int (4 : Int32)), .val (.ref w_TREE_USE_IDS)] [])
          refine OFin.st (fun t k => XS.goto X5.here hx rfl (pc0 := 34) (pc' := 9) rfl (hb hby d1_34) (by decide) (by decide) k) ?_
          show OFin p e below _ _ T5 (mkF m 9 #[.val (.int p0), .val (.ref b1), .val (.int (11 : Int32)), .val (.int (4 : Int32)), .val (.ref w_TREE_USE_IDS)] [])
          refine OFin.st (fun t k => XS.iloadN X5.here hx rfl (hb hby d1_9) rfl k) ?_
          show OFin p e below _ _ T5 (mkF m 10 #[.val (.int p0), .val (.ref b1), .val (.int (11 : Int32)), .val (.int (4 : Int32)), .val (.ref w_TREE_USE_IDS)] [(.int (4 : Int32))])
          refine OFin.st (fun t k => XS.iloadN X5.here hx rfl (hb hby d1_10) rfl k) ?_
          show OFin p e below _ _ T5 (mkF m 11 #[.val (.int p0), .val (.ref b1), .val (.int (11 : Int32)), .val (.int (4 : Int32)), .val (.ref w_TREE_USE_IDS)] [(.int (11 : Int32)), (.int (4 : Int32))])
          refine OFin.st (fun t k => XS.icmpNo X5.here hx rfl (hb hby d1_11) rfl (tlt (by decide : (4 : Int32) < (11 : Int32))).2.1 k) ?_
          show OFin p e below _ _ T5 (mkF m 14 #[.val (.int p0), .val (.ref b1), .val (.int (11 : Int32)), .val (.int (4 : Int32)), .val (.ref w_TREE_USE_IDS)] [])
          refine OFin.st (fun t k => XS.aloadN X5.here hx rfl (hb hby d1_14) rfl rfl k) ?_
          show OFin p e below _ _ T5 (mkF m 15 #[.val (.int p0), .val (.ref b1), .val (.int (11 : Int32)), .val (.int (4 : Int32)), .val (.ref w_TREE_USE_IDS)] [(.ref b1)])
          refine OFin.st (fun t k => XS.iloadN X5.here hx rfl (hb hby d1_15) rfl k) ?_
          show OFin p e below _ _ T5 (mkF m 16 #[.val (.int p0), .val (.ref b1), .val (.int (11 : Int32)), .val (.int (4 : Int32)), .val (.ref w_TREE_USE_IDS)] [(.int (4 : Int32)), (.ref b1)])
          refine own_aaload X5 hx hZ e5 P1_0 rfl (i := 4) (j := (4 : Int32)) (by decide) (v := (.ref w_INTERESTED_VLANS)) rfl (hb hby d1_16) (pc' := 17) rfl ?_
          show OFin p e below _ _ T5 (mkF m 17 #[.val (.int p0), .val (.ref b1), .val (.int (11 : Int32)), .val (.int (4 : Int32)), .val (.ref w_TREE_USE_IDS)] [(.ref w_INTERESTED_VLANS)])
          refine OFin.st (fun t k => XS.astore X5.here hx rfl (hb hby d1_17) rfl rfl (l' := #[.val (.int p0), .val (.ref b1), .val (.int (11 : Int32)), .val (.int (4 : Int32)), .val (.ref w_INTERESTED_VLANS)]) rfl k) ?_
          show OFin p e below _ _ T5 (mkF m 19 #[.val (.int p0), .val (.ref b1), .val (.int (11 : Int32)), .val (.int (4 : Int32)), .val (.ref w_INTERESTED_VLANS)] [])
          refine OFin.st (fun t k => XS.aload X5.here hx rfl (hb hby d1_19) rfl rfl k) ?_
          show OFin p e below _ _ T5 (mkF m 21 #[.val (.int p0), .val (.ref b1), .val (.int (11 : Int32)), .val (.int (4 : Int32)), .val (.ref w_INTERESTED_VLANS)] [(.ref w_INTERESTED_VLANS)])
          obtain ⟨T6, X6, e6, st6⟩ := getF X5 hx hZ hown (host := "") (Or.inl (hw _ (List.mem_of_getElem? (i := 30) rfl))) Via.refl e5 (F_code_w_INTERESTED_VLANS.keep K1q nin0) (g := (mkF m 21 #[.val (.int p0), .val (.ref b1), .val (.int (11 : Int32)), .val (.int (4 : Int32)), .val (.ref w_INTERESTED_VLANS)] [(.ref w_INTERESTED_VLANS)])) rfl rfl (hb hby d1_21)
          refine OFin.st st6 ?_
          show OFin p e below _ _ T6 (mkF m 24 #[.val (.int p0), .val (.ref b1), .val (.int (11 : Int32)), .val (.int (4 : Int32)), .val (.ref w_INTERESTED_VLANS)] [(.int (10 : Int32))])
          refine OFin.st (fun t k => XS.iloadN X6.here hx rfl (hb hby d1_24) rfl k) ?_
          show OFin p e below _ _ T6 (mkF m 25 #[.val (.int p0), .val (.ref b1), .val (.int (11 : Int32)), .val (.int (4 : Int32)), .val (.ref w_INTERESTED_VLANS)] [(.int p0), (.int (10 : Int32))])
          by_cases hc25'''' : (10 : Int32) = p0
          · refine OFin.st (fun t k => XS.icmpNo X6.here hx rfl (hb hby d1_25) rfl (teq hc25'''').2 k) ?_
            show OFin p e below _ _ T6 (mkF m 28 #[.val (.int p0), .val (.ref b1), .val (.int (11 : Int32)), .val (.int (4 : Int32)), .val (.ref w_INTERESTED_VLANS)] [])
            refine OFin.st (fun t k => XS.aload X6.here hx rfl (hb hby d1_28) rfl rfl k) ?_
            show OFin p e below _ _ T6 (mkF m 30 #[.val (.int p0), .val (.ref b1), .val (.int (11 : Int32)), .val (.int (4 : Int32)), .val (.ref w_INTERESTED_VLANS)] [(.ref w_INTERESTED_VLANS)])
            exact own_retR X6 hx Bd.returns Bd.notSynchronized rfl rfl rfl (hb hby d1_30) (by show Qrm1 Z p0 w_NICKNAME w_TREES w_TREE_ROOT_IDS w_TREE_USE_IDS w_INTERESTED_VLANS w_TRILL_VERSION w_VLAN_GROUP w_INTERESTED_LABELS w_RBRIDGE_CHANNELS w_AFFINITY w_LABEL_GROUP kV w__VALUES h0 n0 _ T6.heap _; rw [e6]; exact ⟨(by rw [F1, if_neg hc25, if_neg hc25', if_neg hc25'', if_neg hc25''', if_pos hc25'''']), N1, K1⟩) (own_endN (by decide) (by decide))
          · refine OFin.st (fun t k => XS.icmpYes X6.here hx rfl (pc0 := 25) (pc' := 31) rfl (hb hby d1_25) rfl (feq hc25'''').2 (by decide) (by decide) k) ?_
            show OFin p e below _ _ T6 (mkF m 31 #[.val (.int p0), .val (.ref b1), .val (.int (11 : Int32)), .val (.int (4 : Int32)), .val (.ref w_INTERESTED_VLANS)] [])
            refine OFin.st (fun t k => XS.iinc X6.here hx rfl (hb hby d1_31) rfl (l' := #[.val (.int p0), .val (.ref b1), .val (.int (11 : Int32)), .val (.int (5 : Int32)), .val (.ref w_INTERESTED_VLANS)]) rfl k) ?_
            show OFin p e below _ _ T6 (mkF m 34 #[.val (.int p0), .val (.ref b1), .val (.int (11 : Int32)), .val (.int (5 : Int32)), .val (.ref w_INTERESTED_VLANS)] [])
            refine OFin.st (fun t k => XS.goto X6.here hx rfl (pc0 := 34) (pc' := 9) rfl (hb hby d1_34) (by decide) (by decide) k) ?_
            show OFin p e below _ _ T6 (mkF m 9 #[.val (.int p0), .val (.ref b1), .val (.int (11 : Int32)), .val (.int (5 : Int32)), .val (.ref w_INTERESTED_VLANS)] [])
            refine OFin.st (fun t k => XS.iloadN X6.here hx rfl (hb hby d1_9) rfl k) ?_
            show OFin p e below _ _ T6 (mkF m 10 #[.val (.int p0), .val (.ref b1), .val (.int (11 : Int32)), .val (.int (5 : Int32)), .val (.ref w_INTERESTED_VLANS)] [(.int (5 : Int32))])
            refine OFin.st (fun t k => XS.iloadN X6.here hx rfl (hb hby d1_10) rfl k) ?_
            show OFin p e below _ _ T6 (mkF m 11 #[.val (.int p0), .val (.ref b1), .val (.int (11 : Int32)), .val (.int (5 : Int32)), .val (.ref w_INTERESTED_VLANS)] [(.int (11 : Int32)), (.int (5 : Int32))])
            refine OFin.st (fun t k => XS.icmpNo X6.here hx rfl (hb hby d1_11) rfl (tlt (by decide : (5 : Int32) < (11 : Int32))).2.1 k) ?_
            show OFin p e below _ _ T6 (mkF m 14 #[.val (.int p0), .val (.ref b1), .val (.int (11 : Int32)), .val (.int (5 : Int32)), .val (.ref w_INTERESTED_VLANS)] [])
            refine OFin.st (fun t k => XS.aloadN X6.here hx rfl (hb hby d1_14) rfl rfl k) ?_
            show OFin p e below _ _ T6 (mkF m 15 #[.val (.int p0), .val (.ref b1), .val (.int (11 : Int32)), .val (.int (5 : Int32)), .val (.ref w_INTERESTED_VLANS)] [(.ref b1)])
            refine OFin.st (fun t k => XS.iloadN X6.here hx rfl (hb hby d1_15) rfl k) ?_
            show OFin p e below _ _ T6 (mkF m 16 #[.val (.int p0), .val (.ref b1), .val (.int (11 : Int32)), .val (.int (5 : Int32)), .val (.ref w_INTERESTED_VLANS)] [(.int (5 : Int32)), (.ref b1)])
            refine own_aaload X6 hx hZ e6 P1_0 rfl (i := 5) (j := (5 : Int32)) (by decide) (v := (.ref w_TRILL_VERSION)) rfl (hb hby d1_16) (pc' := 17) rfl ?_
            show OFin p e below _ _ T6 (mkF m 17 #[.val (.int p0), .val (.ref b1), .val (.int (11 : Int32)), .val (.int (5 : Int32)), .val (.ref w_INTERESTED_VLANS)] [(.ref w_TRILL_VERSION)])
            refine OFin.st (fun t k => XS.astore X6.here hx rfl (hb hby d1_17) rfl rfl (l' := #[.val (.int p0), .val (.ref b1), .val (.int (11 : Int32)), .val (.int (5 : Int32)), .val (.ref w_TRILL_VERSION)]) rfl k) ?_
            show OFin p e below _ _ T6 (mkF m 19 #[.val (.int p0), .val (.ref b1), .val (.int (11 : Int32)), .val (.int (5 : Int32)), .val (.ref w_TRILL_VERSION)] [])
            refine OFin.st (fun t k => XS.aload X6.here hx rfl (hb hby d1_19) rfl rfl k) ?_
            show OFin p e below _ _ T6 (mkF m 21 #[.val (.int p0), .val (.ref b1), .val (.int (11 : Int32)), .val (.int (5 : Int32)), .val (.ref w_TRILL_VERSION)] [(.ref w_TRILL_VERSION)])
            obtain ⟨T7, X7, e7, st7⟩ := getF X6 hx hZ hown (host := "") (Or.inl (hw _ (List.mem_of_getElem? (i := 30) rfl))) Via.refl e6 (F_code_w_TRILL_VERSION.keep K1q nin0) (g := (mkF m 21 #[.val (.int p0), .val (.ref b1), .val (.int (11 : Int32)), .val (.int (5 : Int32)), .val (.ref w_TRILL_VERSION)] [(.ref w_TRILL_VERSION)])) rfl rfl (hb hby d1_21)
            refine OFin.st st7 ?_
            show OFin p e below _ _ T7 (mkF m 24 #[.val (.int p0), .val (.ref b1), .val (.int (11 : Int32)), .val (.int (5 : Int32)), .val (.ref w_TRILL_VERSION)] [(.int (13 : Int32))])
            refine OFin.st (fun t k => XS.iloadN X7.here hx rfl (hb hby d1_24) rfl k) ?_
            show OFin p e below _ _ T7 (mkF m 25 #[.val (.int p0), .val (.ref b1), .val (.int (11 : Int32)), .val (.int (5 : Int32)), .val (.ref w_TRILL_VERSION)] [(.int p0), (.int (13 : Int32))])
            by_cases hc25''''' : (13 : Int32) = p0
            · refine OFin.st (fun t k => XS.icmpNo X7.here hx rfl (hb hby d1_25) rfl (teq hc25''''').2 k) ?_
              show OFin p e below _ _ T7 (mkF m 28 #[.val (.int p0), .val (.ref b1), .val (.int (11 : Int32)), .val (.int (5 : Int32)), .val (.ref w_TRILL_VERSION)] [])
              refine OFin.st (fun t k => XS.aload X7.here hx rfl (hb hby d1_28) rfl rfl k) ?_
              show OFin p e below _ _ T7 (mkF m 30 #[.val (.int p0), .val (.ref b1), .val (.int (11 : Int32)), .val (.int (5 : Int32)), .val (.ref w_TRILL_VERSION)] [(.ref w_TRILL_VERSION)])
              exact own_retR X7 hx Bd.returns Bd.notSynchronized rfl rfl rfl (hb hby d1_30) (by show Qrm1 Z p0 w_NICKNAME w_TREES w_TREE_ROOT_IDS w_TREE_USE_IDS w_INTERESTED_VLANS w_TRILL_VERSION w_VLAN_GROUP w_INTERESTED_LABELS w_RBRIDGE_CHANNELS w_AFFINITY w_LABEL_GROUP kV w__VALUES h0 n0 _ T7.heap _; rw [e7]; exact ⟨(by rw [F1, if_neg hc25, if_neg hc25', if_neg hc25'', if_neg hc25''', if_neg hc25'''', if_pos hc25''''']), N1, K1⟩) (own_endN (by decide) (by decide))
            · refine OFin.st (fun t k => XS.icmpYes X7.here hx rfl (pc0 := 25) (pc' := 31) rfl (hb hby d1_25) rfl (feq hc25''''').2 (by decide) (by decide) k) ?_
              show OFin p e below _ _ T7 (mkF m 31 #[.val (.int p0), .val (.ref b1), .val (.int (11 : Int32)), .val (.int (5 : Int32)), .val (.ref w_TRILL_VERSION)] [])
              refine OFin.st (fun t k => XS.iinc X7.here hx rfl (hb hby d1_31) rfl (l' := #[.val (.int p0), .val (.ref b1), .val (.int (11 : Int32)), .val (.int (6 : Int32)), .val (.ref w_TRILL_VERSION)]) rfl k) ?_
              show OFin p e below _ _ T7 (mkF m 34 #[.val (.int p0), .val (.ref b1), .val (.int (11 : Int32)), .val (.int (6 : Int32)), .val (.ref w_TRILL_VERSION)] [])
              refine OFin.st (fun t k => XS.goto X7.here hx rfl (pc0 := 34) (pc' := 9) rfl (hb hby d1_34) (by decide) (by decide) k) ?_
              show OFin p e below _ _ T7 (mkF m 9 #[.val (.int p0), .val (.ref b1), .val (.int (11 : Int32)), .val (.int (6 : Int32)), .val (.ref w_TRILL_VERSION)] [])
              refine OFin.st (fun t k => XS.iloadN X7.here hx rfl (hb hby d1_9) rfl k) ?_
              show OFin p e below _ _ T7 (mkF m 10 #[.val (.int p0), .val (.ref b1), .val (.int (11 : Int32)), .val (.int (6 : Int32)), .val (.ref w_TRILL_VERSION)] [(.int (6 : Int32))])
              refine OFin.st (fun t k => XS.iloadN X7.here hx rfl (hb hby d1_10) rfl k) ?_
              show OFin p e below _ _ T7 (mkF m 11 #[.val (.int p0), .val (.ref b1), .val (.int (11 : Int32)), .val (.int (6 : Int32)), .val (.ref w_TRILL_VERSION)] [(.int (11 : Int32)), (.int (6 : Int32))])
              refine OFin.st (fun t k => XS.icmpNo X7.here hx rfl (hb hby d1_11) rfl (tlt (by decide : (6 : Int32) < (11 : Int32))).2.1 k) ?_
              show OFin p e below _ _ T7 (mkF m 14 #[.val (.int p0), .val (.ref b1), .val (.int (11 : Int32)), .val (.int (6 : Int32)), .val (.ref w_TRILL_VERSION)] [])
              refine OFin.st (fun t k => XS.aloadN X7.here hx rfl (hb hby d1_14) rfl rfl k) ?_
              show OFin p e below _ _ T7 (mkF m 15 #[.val (.int p0), .val (.ref b1), .val (.int (11 : Int32)), .val (.int (6 : Int32)), .val (.ref w_TRILL_VERSION)] [(.ref b1)])
              refine OFin.st (fun t k => XS.iloadN X7.here hx rfl (hb hby d1_15) rfl k) ?_
              show OFin p e below _ _ T7 (mkF m 16 #[.val (.int p0), .val (.ref b1), .val (.int (11 : Int32)), .val (.int (6 : Int32)), .val (.ref w_TRILL_VERSION)] [(.int (6 : Int32)), (.ref b1)])
              refine own_aaload X7 hx hZ e7 P1_0 rfl (i := 6) (j := (6 : Int32)) (by decide) (v := (.ref w_VLAN_GROUP)) rfl (hb hby d1_16) (pc' := 17) rfl ?_
              show OFin p e below _ _ T7 (mkF m 17 #[.val (.int p0), .val (.ref b1), .val (.int (11 : Int32)), .val (.int (6 : Int32)), .val (.ref w_TRILL_VERSION)] [(.ref w_VLAN_GROUP)])
              refine OFin.st (fun t k => XS.astore X7.here hx rfl (hb hby d1_17) rfl rfl (l' := #[.val (.int p0), .val (.ref b1), .val (.int (11 : Int32)), .val (.int (6 : Int32)), .val (.ref w_VLAN_GROUP)]) rfl k) ?_
              show OFin p e below _ _ T7 (mkF m 19 #[.val (.int p0), .val (.ref b1), .val (.int (11 : Int32)), .val (.int (6 : Int32)), .val (.ref w_VLAN_GROUP)] [])
              refine OFin.st (fun t k => XS.aload X7.here hx rfl (hb hby d1_19) rfl rfl k) ?_
              show OFin p e below _ _ T7 (mkF m 21 #[.val (.int p0), .val (.ref b1), .val (.int (11 : Int32)), .val (.int (6 : Int32)), .val (.ref w_VLAN_GROUP)] [(.ref w_VLAN_GROUP)])
              obtain ⟨T8, X8, e8, st8⟩ := getF X7 hx hZ hown (host := "") (Or.inl (hw _ (List.mem_of_getElem? (i := 30) rfl))) Via.refl e7 (F_code_w_VLAN_GROUP.keep K1q nin0) (g := (mkF m 21 #[.val (.int p0), .val (.ref b1), .val (.int (11 : Int32)), .val (.int (6 : Int32)), .val (.ref w_VLAN_GROUP)] [(.ref w_VLAN_GROUP)])) rfl rfl (hb hby d1_21)
              refine OFin.st st8 ?_
              show OFin p e below _ _ T8 (mkF m 24 #[.val (.int p0), .val (.ref b1), .val (.int (11 : Int32)), .val (.int (6 : Int32)), .val (.ref w_VLAN_GROUP)] [(.int (14 : Int32))])
              refine OFin.st (fun t k => XS.iloadN X8.here hx rfl (hb hby d1_24) rfl k) ?_
              show OFin p e below _ _ T8 (mkF m 25 #[.val (.int p0), .val (.ref b1), .val (.int (11 : Int32)), .val (.int (6 : Int32)), .val (.ref w_VLAN_GROUP)] [(.int p0), (.int (14 : Int32))])
              by_cases hc25'''''' : (14 : Int32) = p0
              · refine OFin.st (fun t k => XS.icmpNo X8.here hx rfl (hb hby d1_25) rfl (teq hc25'''''').2 k) ?_
                show OFin p e below _ _ T8 (mkF m 28 #[.val (.int p0), .val (.ref b1), .val (.int (11 : Int32)), .val (.int (6 : Int32)), .val (.ref w_VLAN_GROUP)] [])
                refine OFin.st (fun t k => XS.aload X8.here hx rfl (hb hby d1_28) rfl rfl k) ?_
                show OFin p e below _ _ T8 (mkF m 30 #[.val (.int p0), .val (.ref b1), .val (.int (11 : Int32)), .val (.int (6 : Int32)), .val (.ref w_VLAN_GROUP)] [(.ref w_VLAN_GROUP)])
                exact own_retR X8 hx Bd.returns Bd.notSynchronized rfl rfl rfl (hb hby d1_30) (by show Qrm1 Z p0 w_NICKNAME w_TREES w_TREE_ROOT_IDS w_TREE_USE_IDS w_INTERESTED_VLANS w_TRILL_VERSION w_VLAN_GROUP w_INTERESTED_LABELS w_RBRIDGE_CHANNELS w_AFFINITY w_LABEL_GROUP kV w__VALUES h0 n0 _ T8.heap _; rw [e8]; exact ⟨(by rw [F1, if_neg hc25, if_neg hc25', if_neg hc25'', if_neg hc25''', if_neg hc25'''', if_neg hc25''''', if_pos hc25'''''']), N1, K1⟩) (own_endN (by decide) (by decide))
              · refine OFin.st (fun t k => XS.icmpYes X8.here hx rfl (pc0 := 25) (pc' := 31) rfl (hb hby d1_25) rfl (feq hc25'''''').2 (by decide) (by decide) k) ?_
                show OFin p e below _ _ T8 (mkF m 31 #[.val (.int p0), .val (.ref b1), .val (.int (11 : Int32)), .val (.int (6 : Int32)), .val (.ref w_VLAN_GROUP)] [])
                refine OFin.st (fun t k => XS.iinc X8.here hx rfl (hb hby d1_31) rfl (l' := #[.val (.int p0), .val (.ref b1), .val (.int (11 : Int32)), .val (.int (7 : Int32)), .val (.ref w_VLAN_GROUP)]) rfl k) ?_
                show OFin p e below _ _ T8 (mkF m 34 #[.val (.int p0), .val (.ref b1), .val (.int (11 : Int32)), .val (.int (7 : Int32)), .val (.ref w_VLAN_GROUP)] [])
                refine OFin.st (fun t k => XS.goto X8.here hx rfl (pc0 := 34) (pc' := 9) rfl (hb hby d1_34) (by decide) (by decide) k) ?_
                show OFin p e below _ _ T8 (mkF m 9 #[.val (.int p0), .val (.ref b1), .val (.int (11 : Int32)), .val (.int (7 : Int32)), .val (.ref w_VLAN_GROUP)] [])
                refine OFin.st (fun t k => XS.iloadN X8.here hx rfl (hb hby d1_9) rfl k) ?_
                show OFin p e below _ _ T8 (mkF m 10 #[.val (.int p0), .val (.ref b1), .val (.int (11 : Int32)), .val (.int (7 : Int32)), .val (.ref w_VLAN_GROUP)] [(.int (7 : Int32))])
                refine OFin.st (fun t k => XS.iloadN X8.here hx rfl (hb hby d1_10) rfl k) ?_
                show OFin p e below _ _ T8 (mkF m 11 #[.val (.int p0), .val (.ref b1), .val (.int (11 : Int32)), .val (.int (7 : Int32)), .val (.ref w_VLAN_GROUP)] [(.int (11 : Int32)), (.int (7 : Int32))])
                refine OFin.st (fun t k => XS.icmpNo X8.here hx rfl (hb hby d1_11) rfl (tlt (by decide : (7 : Int32) < (11 : Int32))).2.1 k) ?_
                show OFin p e below _ _ T8 (mkF m 14 #[.val (.int p0), .val (.ref b1), .val (.int (11 : Int32)), .val (.int (7 : Int32)), .val (.ref w_VLAN_GROUP)] [])
                refine OFin.st (fun t k => XS.aloadN X8.here hx rfl (hb hby d1_14) rfl rfl k) ?_
                show OFin p e below _ _ T8 (mkF m 15 #[.val (.int p0), .val (.ref b1), .val (.int (11 : Int32)), .val (.int (7 : Int32)), .val (.ref w_VLAN_GROUP)] [(.ref b1)])
                refine OFin.st (fun t k => XS.iloadN X8.here hx rfl (hb hby d1_15) rfl k) ?_
                show OFin p e below _ _ T8 (mkF m 16 #[.val (.int p0), .val (.ref b1), .val (.int (11 : Int32)), .val (.int (7 : Int32)), .val (.ref w_VLAN_GROUP)] [(.int (7 : Int32)), (.ref b1)])
                refine own_aaload X8 hx hZ e8 P1_0 rfl (i := 7) (j := (7 : Int32)) (by decide) (v := (.ref w_INTERESTED_LABELS)) rfl (hb hby d1_16) (pc' := 17) rfl ?_
                show OFin p e below _ _ T8 (mkF m 17 #[.val (.int p0), .val (.ref b1), .val (.int (11 : Int32)), .val (.int (7 : Int32)), .val (.ref w_VLAN_GROUP)] [(.ref w_INTERESTED_LABELS)])
                refine OFin.st (fun t k => XS.astore X8.here hx rfl (hb hby d1_17) rfl rfl (l' := #[.val (.int p0), .val (.ref b1), .val (.int (11 : Int32)), .val (.int (7 : Int32)), .val (.ref w_INTERESTED_LABELS)]) rfl k) ?_
                show OFin p e below _ _ T8 (mkF m 19 #[.val (.int p0), .val (.ref b1), .val (.int (11 : Int32)), .val (.int (7 : Int32)), .val (.ref w_INTERESTED_LABELS)] [])
                refine OFin.st (fun t k => XS.aload X8.here hx rfl (hb hby d1_19) rfl rfl k) ?_
                show OFin p e below _ _ T8 (mkF m 21 #[.val (.int p0), .val (.ref b1), .val (.int (11 : Int32)), .val (.int (7 : Int32)), .val (.ref w_INTERESTED_LABELS)] [(.ref w_INTERESTED_LABELS)])
                obtain ⟨T9, X9, e9, st9⟩ := getF X8 hx hZ hown (host := "") (Or.inl (hw _ (List.mem_of_getElem? (i := 30) rfl))) Via.refl e8 (F_code_w_INTERESTED_LABELS.keep K1q nin0) (g := (mkF m 21 #[.val (.int p0), .val (.ref b1), .val (.int (11 : Int32)), .val (.int (7 : Int32)), .val (.ref w_INTERESTED_LABELS)] [(.ref w_INTERESTED_LABELS)])) rfl rfl (hb hby d1_21)
                refine OFin.st st9 ?_
                show OFin p e below _ _ T9 (mkF m 24 #[.val (.int p0), .val (.ref b1), .val (.int (11 : Int32)), .val (.int (7 : Int32)), .val (.ref w_INTERESTED_LABELS)] [(.int (15 : Int32))])
                refine OFin.st (fun t k => XS.iloadN X9.here hx rfl (hb hby d1_24) rfl k) ?_
                show OFin p e below _ _ T9 (mkF m 25 #[.val (.int p0), .val (.ref b1), .val (.int (11 : Int32)), .val (.int (7 : Int32)), .val (.ref w_INTERESTED_LABELS)] [(.int p0), (.int (15 : Int32))])
                by_cases hc25''''''' : (15 : Int32) = p0
                · refine OFin.st (fun t k => XS.icmpNo X9.here hx rfl (hb hby d1_25) rfl (teq hc25''''''').2 k) ?_
                  show OFin p e below _ _ T9 (mkF m 28 #[.val (.int p0), .val (.ref b1), .val (.int (11 : Int32)), .val (.int (7 : Int32)), .val (.ref w_INTERESTED_LABELS)] [])
                  refine OFin.st (fun t k => XS.aload X9.here hx rfl (hb hby d1_28) rfl rfl k) ?_
                  show OFin p e below _ _ T9 (mkF m 30 #[.val (.int p0), .val (.ref b1), .val (.int (11 : Int32)), .val (.int (7 : Int32)), .val (.ref w_INTERESTED_LABELS)] [(.ref w_INTERESTED_LABELS)])
                  exact own_retR X9 hx Bd.returns Bd.notSynchronized rfl rfl rfl (hb hby d1_30) (by show Qrm1 Z p0 w_NICKNAME w_TREES w_TREE_ROOT_IDS w_TREE_USE_IDS w_INTERESTED_VLANS w_TRILL_VERSION w_VLAN_GROUP w_INTERESTED_LABELS w_RBRIDGE_CHANNELS w_AFFINITY w_LABEL_GROUP kV w__VALUES h0 n0 _ T9.heap _; rw [e9]; exact ⟨(by rw [F1, if_neg hc25, if_neg hc25', if_neg hc25'', if_neg hc25''', if_neg hc25'''', if_neg hc25''''', if_neg hc25'''''', if_pos hc25''''''']), N1, K1⟩) (own_endN (by decide) (by decide))
                · refine OFin.st (fun t k => XS.icmpYes X9.here hx rfl (pc0 := 25) (pc' := 31) rfl (hb hby d1_25) rfl (feq hc25''''''').2 (by decide) (by decide) k) ?_
                  show OFin p e below _ _ T9 (mkF m 31 #[.val (.int p0), .val (.ref b1), .val (.int (11 : Int32)), .val (.int (7 : Int32)), .val (.ref w_INTERESTED_LABELS)] [])
                  refine OFin.st (fun t k => XS.iinc X9.here hx rfl (hb hby d1_31) rfl (l' := #[.val (.int p0), .val (.ref b1), .val (.int (11 : Int32)), .val (.int (8 : Int32)), .val (.ref w_INTERESTED_LABELS)]) rfl k) ?_
                  show OFin p e below _ _ T9 (mkF m 34 #[.val (.int p0), .val (.ref b1), .val (.int (11 : Int32)), .val (.int (8 : Int32)), .val (.ref w_INTERESTED_LABELS)] [])
                  refine OFin.st (fun t k => XS.goto X9.here hx rfl (pc0 := 34) (pc' := 9) rfl (hb hby d1_34) (by decide) (by decide) k) ?_
                  show OFin p e below _ _ T9 (mkF m 9 #[.val (.int p0), .val (.ref b1), .val (.int (11 : Int32)), .val (.int (8 : Int32)), .val (.ref w_INTERESTED_LABELS)] [])
                  refine OFin.st (fun t k => XS.iloadN X9.here hx rfl (hb hby d1_9) rfl k) ?_
                  show OFin p e below _ _ T9 (mkF m 10 #[.val (.int p0), .val (.ref b1), .val (.int (11 : Int32)), .val (.int (8 : Int32)), .val (.ref w_INTERESTED_LABELS)] [(.int (8 : Int32))])
                  refine OFin.st (fun t k => XS.iloadN X9.here hx rfl (hb hby d1_10) rfl k) ?_
                  show OFin p e below _ _ T9 (mkF m 11 #[.val (.int p0), .val (.ref b1), .val (.int (11 : Int32)), .val (.int (8 : Int32)), .val (.ref w_INTERESTED_LABELS)] [(.int (11 : Int32)), (.int (8 : Int32))])
                  refine OFin.st (fun t k => XS.icmpNo X9.here hx rfl (hb hby d1_11) rfl (tlt (by decide : (8 : Int32) < (11 : Int32))).2.1 k) ?_
                  show OFin p e below _ _ T9 (mkF m 14 #[.val (.int p0), .val (.ref b1), .val (.int (11 : Int32)), .val (.int (8 : Int32)), .val (.ref w_INTERESTED_LABELS)] [])
                  refine OFin.st (fun t k => XS.aloadN X9.here hx rfl (hb hby d1_14) rfl rfl k) ?_
                  show OFin p e below _ _ T9 (mkF m 15 #[.val (.int p0), .val (.ref b1), .val (.int (11 : Int32)), .val (.int (8 : Int32)), .val (.ref w_INTERESTED_LABELS)] [(.ref b1)])
                  refine OFin.st (fun t k => XS.iloadN X9.here hx rfl (hb hby d1_15) rfl k) ?_
                  show OFin p e below _ _ T9 (mkF m 16 #[.val (.int p0), .val (.ref b1), .val (.int (11 : Int32)), .val (.int (8 : Int32)), .val (.ref w_INTERESTED_LABELS)] [(.int (8 : Int32)), (.ref b1)])
                  refine own_aaload X9 hx hZ e9 P1_0 rfl (i := 8) (j := (8 : Int32)) (by decide) (v := (.ref w_RBRIDGE_CHANNELS)) rfl (hb hby d1_16) (pc' := 17) rfl ?_
                  show OFin p e below _ _ T9 (mkF m 17 #[.val (.int p0), .val (.ref b1), .val (.int (11 : Int32)), .val (.int (8 : Int32)), .val (.ref w_INTERESTED_LABELS)] [(.ref w_RBRIDGE_CHANNELS)])
                  refine OFin.st (fun t k => XS.astore X9.here hx rfl (hb hby d1_17) rfl rfl (l' := #[.val (.int p0), .val (.ref b1), .val (.int (11 : Int32)), .val (.int (8 : Int32)), .val (.ref w_RBRIDGE_CHANNELS)]) rfl k) ?_
                  show OFin p e below _ _ T9 (mkF m 19 #[.val (.int p0), .val (.ref b1), .val (.int (11 : Int32)), .val (.int (8 : Int32)), .val (.ref w_RBRIDGE_CHANNELS)] [])
                  refine OFin.st (fun t k => XS.aload X9.here hx rfl (hb hby d1_19) rfl rfl k) ?_
                  show OFin p e below _ _ T9 (mkF m 21 #[.val (.int p0), .val (.ref b1), .val (.int (11 : Int32)), .val (.int (8 : Int32)), .val (.ref w_RBRIDGE_CHANNELS)] [(.ref w_RBRIDGE_CHANNELS)])
                  obtain ⟨T10, X10, e10, st10⟩ := getF X9 hx hZ hown (host := "") (Or.inl (hw _ (List.mem_of_getElem? (i := 30) rfl))) Via.refl e9 (F_code_w_RBRIDGE_CHANNELS.keep K1q nin0) (g := (mkF m 21 #[.val (.int p0), .val (.ref b1), .val (.int (11 : Int32)), .val (.int (8 : Int32)), .val (.ref w_RBRIDGE_CHANNELS)] [(.ref w_RBRIDGE_CHANNELS)])) rfl rfl (hb hby d1_21)
                  refine OFin.st st10 ?_
                  show OFin p e below _ _ T10 (mkF m 24 #[.val (.int p0), .val (.ref b1), .val (.int (11 : Int32)), .val (.int (8 : Int32)), .val (.ref w_RBRIDGE_CHANNELS)] [(.int (16 : Int32))])
                  refine OFin.st (fun t k => XS.iloadN X10.here hx rfl (hb hby d1_24) rfl k) ?_
                  show OFin p e below _ _ T10 (mkF m 25 #[.val (.int p0), .val (.ref b1), .val (.int (11 : Int32)), .val (.int (8 : Int32)), .val (.ref w_RBRIDGE_CHANNELS)] [(.int p0), (.int (16 : Int32))])
                  by_cases hc25'''''''' : (16 : Int32) = p0
                  · refine OFin.st (fun t k => XS.icmpNo X10.here hx rfl (hb hby d1_25) rfl (teq hc25'''''''').2 k) ?_
                    show OFin p e below _ _ T10 (mkF m 28 #[.val (.int p0), .val (.ref b1), .val (.int (11 : Int32)), .val (.int (8 : Int32)), .val (.ref w_RBRIDGE_CHANNELS)] [])
                    refine OFin.st (fun t k => XS.aload X10.here hx rfl (hb hby d1_28) rfl rfl k) ?_
                    show OFin p e below _ _ T10 (mkF m 30 #[.val (.int p0), .val (.ref b1), .val (.int (11 : Int32)), .val (.int (8 : Int32)), .val (.ref w_RBRIDGE_CHANNELS)] [(.ref w_RBRIDGE_CHANNELS)])
                    exact own_retR X10 hx Bd.returns Bd.notSynchronized rfl rfl rfl (hb hby d1_30) (by show Qrm1 Z p0 w_NICKNAME w_TREES w_TREE_ROOT_IDS w_TREE_USE_IDS w_INTERESTED_VLANS w_TRILL_VERSION w_VLAN_GROUP w_INTERESTED_LABELS w_RBRIDGE_CHANNELS w_AFFINITY w_LABEL_GROUP kV w__VALUES h0 n0 _ T10.heap _; rw [e10]; exact ⟨(by rw [F1, if_neg hc25, if_neg hc25', if_neg hc25'', if_neg hc25''', if_neg hc25'''', if_neg hc25''''', if_neg hc25'''''', if_neg hc25''''''', if_pos hc25'''''''']), N1, K1⟩) (own_endN (by decide) (by decide))
                  · refine OFin.st (fun t k => XS.icmpYes X10.here hx rfl (pc0 := 25) (pc' := 31) rfl (hb hby d1_25) rfl (feq hc25'''''''').2 (by decide) (by decide) k) ?_
                    show OFin p e below _ _ T10 (mkF m 31 #[.val (.int p0), .val (.ref b1), .val (.int (11 : Int32)), .val (.int (8 : Int32)), .val (.ref w_RBRIDGE_CHANNELS)] [])
                    refine OFin.st (fun t k => XS.iinc X10.here hx rfl (hb hby d1_31) rfl (l' := #[.val (.int p0), .val (.ref b1), .val (.int (11 : Int32)), .val (.int (9 : Int32)), .val (.ref w_RBRIDGE_CHANNELS)]) rfl k) ?_
                    show OFin p e below _ _ T10 (mkF m 34 #[.val (.int p0), .val (.ref b1), .val (.int (11 : Int32)), .val (.int (9 : Int32)), .val (.ref w_RBRIDGE_CHANNELS)] [])
                    refine OFin.st (fun t k => XS.goto X10.here hx rfl (pc0 := 34) (pc' := 9) rfl (hb hby d1_34) (by decide) (by decide) k) ?_
                    show OFin p e below _ _ T10 (mkF m 9 #[.val (.int p0), .val (.ref b1), .val (.int (11 : Int32)), .val (.int (9 : Int32)), .val (.ref w_RBRIDGE_CHANNELS)] [])
                    refine OFin.st (fun t k => XS.iloadN X10.here hx rfl (hb hby d1_9) rfl k) ?_
                    show OFin p e below _ _ T10 (mkF m 10 #[.val (.int p0), .val (.ref b1), .val (.int (11 : Int32)), .val (.int (9 : Int32)), .val (.ref w_RBRIDGE_CHANNELS)] [(.int (9 : Int32))])
                    refine OFin.st (fun t k => XS.iloadN X10.here hx rfl (hb hby d1_10) rfl k) ?_
                    show OFin p e below _ _ T10 (mkF m 11 #[.val (.int p0), .val (.ref b1), .val (.int (11 : Int32)), .val (.int (9 : Int32)), .val (.ref w_RBRIDGE_CHANNELS)] [(.int (11 : Int32)), (.int (9 : Int32))])
                    refine OFin.st (fun t k => XS.icmpNo X10.here hx rfl (hb hby d1_11) rfl (tlt (by decide : (9 : Int32) < (11 : Int32))).2.1 k) ?_
                    show OFin p e below _ _ T10 (mkF m 14 #[.val (.int p0), .val (.ref b1), .val (.int (11 : Int32)), .val (.int (9 : Int32)), .val (.ref w_RBRIDGE_CHANNELS)] [])
                    refine OFin.st (fun t k => XS.aloadN X10.here hx rfl (hb hby d1_14) rfl rfl k) ?_
                    show OFin p e below _ _ T10 (mkF m 15 #[.val (.int p0), .val (.ref b1), .val (.int (11 : Int32)), .val (.int (9 : Int32)), .val (.ref w_RBRIDGE_CHANNELS)] [(.ref b1)])
                    refine OFin.st (fun t k => XS.iloadN X10.here hx rfl (hb hby d1_15) rfl k) ?_
                    show OFin p e below _ _ T10 (mkF m 16 #[.val (.int p0), .val (.ref b1), .val (.int (11 : Int32)), .val (.int (9 : Int32)), .val (.ref w_RBRIDGE_CHANNELS)] [(.int (9 : Int32)), (.ref b1)])
                    refine own_aaload X10 hx hZ e10 P1_0 rfl (i := 9) (j := (9 : Int32)) (by decide) (v := (.ref w_AFFINITY)) rfl (hb hby d1_16) (pc' := 17) rfl ?_
                    show OFin p e below _ _ T10 (mkF m 17 #[.val (.int p0), .val (.ref b1), .val (.int (11 : Int32)), .val (.int (9 : Int32)), .val (.ref w_RBRIDGE_CHANNELS)] [(.ref w_AFFINITY)])
                    refine OFin.st (fun t k => XS.astore X10.here hx rfl (hb hby d1_17) rfl rfl (l' := #[.val (.int p0), .val (.ref b1), .val (.int (11 : Int32)), .val (.int (9 : Int32)), .val (.ref w_AFFINITY)]) rfl k) ?_
                    show OFin p e below _ _ T10 (mkF m 19 #[.val (.int p0), .val (.ref b1), .val (.int (11 : Int32)), .val (.int (9 : Int32)), .val (.ref w_AFFINITY)] [])
                    refine OFin.st (fun t k => XS.aload X10.here hx rfl (hb hby d1_19) rfl rfl k) ?_
                    show OFin p e below _ _ T10 (mkF m 21 #[.val (.int p0), .val (.ref b1), .val (.int (11 : Int32)), .val (.int (9 : Int32)), .val (.ref w_AFFINITY)] [(.ref w_AFFINITY)])
                    obtain ⟨T11, X11, e11, st11⟩ := getF X10 hx hZ hown (host := "") (Or.inl (hw _ (List.mem_of_getElem? (i := 30) rfl))) Via.refl e10 (F_code_w_AFFINITY.keep K1q nin0) (g := (mkF m 21 #[.val (.int p0), .val (.ref b1), .val (.int (11 : Int32)), .val (.int (9 : Int32)), .val (.ref w_AFFINITY)] [(.ref w_AFFINITY)])) rfl rfl (hb hby d1_21)
                    refine OFin.st st11 ?_
                    show OFin p e below _ _ T11 (mkF m 24 #[.val (.int p0), .val (.ref b1), .val (.int (11 : Int32)), .val (.int (9 : Int32)), .val (.ref w_AFFINITY)] [(.int (17 : Int32))])
                    refine OFin.st (fun t k => XS.iloadN X11.here hx rfl (hb hby d1_24) rfl k) ?_
                    show OFin p e below _ _ T11 (mkF m 25 #[.val (.int p0), .val (.ref b1), .val (.int (11 : Int32)), .val (.int (9 : Int32)), .val (.ref w_AFFINITY)] [(.int p0), (.int (17 : Int32))])
                    by_cases hc25''''''''' : (17 : Int32) = p0
                    · refine OFin.st (fun t k => XS.icmpNo X11.here hx rfl (hb hby d1_25) rfl (teq hc25''''''''').2 k) ?_
                      show OFin p e below _ _ T11 (mkF m 28 #[.val (.int p0), .val (.ref b1), .val (.int (11 : Int32)), .val (.int (9 : Int32)), .val (.ref w_AFFINITY)] [])
                      refine OFin.st (fun t k => XS.aload X11.here hx rfl (hb hby d1_28) rfl rfl k) ?_
                      show OFin p e below _ _ T11 (mkF m 30 #[.val (.int p0), .val (.ref b1), .val (.int (11 : Int32)), .val (.int (9 : Int32)), .val (.ref w_AFFINITY)] [(.ref w_AFFINITY)])
                      exact own_retR X11 hx Bd.returns Bd.notSynchronized rfl rfl rfl (hb hby d1_30) (by show Qrm1 Z p0 w_NICKNAME w_TREES w_TREE_ROOT_IDS w_TREE_USE_IDS w_INTERESTED_VLANS w_TRILL_VERSION w_VLAN_GROUP w_INTERESTED_LABELS w_RBRIDGE_CHANNELS w_AFFINITY w_LABEL_GROUP kV w__VALUES h0 n0 _ T11.heap _; rw [e11]; exact ⟨(by rw [F1, if_neg hc25, if_neg hc25', if_neg hc25'', if_neg hc25''', if_neg hc25'''', if_neg hc25''''', if_neg hc25'''''', if_neg hc25''''''', if_neg hc25'''''''', if_pos hc25''''''''']), N1, K1⟩) (own_endN (by decide) (by decide))
                    · refine OFin.st (fun t k => XS.icmpYes X11.here hx rfl (pc0 := 25) (pc' := 31) rfl (hb hby d1_25) rfl (feq hc25''''''''').2 (by decide) (by decide) k) ?_
                      show OFin p e below _ _ T11 (mkF m 31 #[.val (.int p0), .val (.ref b1), .val (.int (11 : Int32)), .val (.int (9 : Int32)), .val (.ref w_AFFINITY)] [])
                      refine OFin.st (fun t k => XS.iinc X11.here hx rfl (hb hby d1_31) rfl (l' := #[.val (.int p0), .val (.ref b1), .val (.int (11 : Int32)), .val (.int (10 : Int32)), .val (.ref w_AFFINITY)]) rfl k) ?_
                      show OFin p e below _ _ T11 (mkF m 34 #[.val (.int p0), .val (.ref b1), .val (.int (11 : Int32)), .val (.int (10 : Int32)), .val (.ref w_AFFINITY)] [])
                      refine OFin.st (fun t k => XS.goto X11.here hx rfl (pc0 := 34) (pc' := 9) rfl (hb hby d1_34) (by decide) (by decide) k) ?_
                      show OFin p e below _ _ T11 (mkF m 9 #[.val (.int p0), .val (.ref b1), .val (.int (11 : Int32)), .val (.int (10 : Int32)), .val (.ref w_AFFINITY)] [])
                      refine OFin.st (fun t k => XS.iloadN X11.here hx rfl (hb hby d1_9) rfl k) ?_
                      show OFin p e below _ _ T11 (mkF m 10 #[.val (.int p0), .val (.ref b1), .val (.int (11 : Int32)), .val (.int (10 : Int32)), .val (.ref w_AFFINITY)] [(.int (10 : Int32))])
                      refine OFin.st (fun t k => XS.iloadN X11.here hx rfl (hb hby d1_10) rfl k) ?_
                      show OFin p e below _ _ T11 (mkF m 11 #[.val (.int p0), .val (.ref b1), .val (.int (11 : Int32)), .val (.int (10 : Int32)), .val (.ref w_AFFINITY)] [(.int (11 : Int32)), (.int (10 : Int32))])
                      refine OFin.st (fun t k => XS.icmpNo X11.here hx rfl (hb hby d1_11) rfl (tlt (by decide : (10 : Int32) < (11 : Int32))).2.1 k) ?_
                      show OFin p e below _ _ T11 (mkF m 14 #[.val (.int p0), .val (.ref b1), .val (.int (11 : Int32)), .val (.int (10 : Int32)), .val (.ref w_AFFINITY)] [])
                      refine OFin.st (fun t k => XS.aloadN X11.here hx rfl (hb hby d1_14) rfl rfl k) ?_
                      show OFin p e below _ _ T11 (mkF m 15 #[.val (.int p0), .val (.ref b1), .val (.int (11 : Int32)), .val (.int (10 : Int32)), .val (.ref w_AFFINITY)] [(.ref b1)])
                      refine OFin.st (fun t k => XS.iloadN X11.here hx rfl (hb hby d1_15) rfl k) ?_
                      show OFin p e below _ _ T11 (mkF m 16 #[.val (.int p0), .val (.ref b1), .val (.int (11 : Int32)), .val (.int (10 : Int32)), .val (.ref w_AFFINITY)] [(.int (10 : Int32)), (.ref b1)])
                      refine own_aaload X11 hx hZ e11 P1_0 rfl (i := 10) (j := (10 : Int32)) (by decide) (v := (.ref w_LABEL_GROUP)) rfl (hb hby d1_16) (pc' := 17) rfl ?_
                      show OFin p e below _ _ T11 (mkF m 17 #[.val (.int p0), .val (.ref b1), .val (.int (11 : Int32)), .val (.int (10 : Int32)), .val (.ref w_AFFINITY)] [(.ref w_LABEL_GROUP)])
                      refine OFin.st (fun t k => XS.astore X11.here hx rfl (hb hby d1_17) rfl rfl (l' := #[.val (.int p0), .val (.ref b1), .val (.int (11 : Int32)), .val (.int (10 : Int32)), .val (.ref w_LABEL_GROUP)]) rfl k) ?_
                      show OFin p e below _ _ T11 (mkF m 19 #[.val (.int p0), .val (.ref b1), .val (.int (11 : Int32)), .val (.int (10 : Int32)), .val (.ref w_LABEL_GROUP)] [])
                      refine OFin.st (fun t k => XS.aload X11.here hx rfl (hb hby d1_19) rfl rfl k) ?_
                      show OFin p e below _ _ T11 (mkF m 21 #[.val (.int p0), .val (.ref b1), .val (.int (11 : Int32)), .val (.int (10 : Int32)), .val (.ref w_LABEL_GROUP)] [(.ref w_LABEL_GROUP)])
                      obtain ⟨T12, X12, e12, st12⟩ := getF X11 hx hZ hown (host := "") (Or.inl (hw _ (List.mem_of_getElem? (i := 30) rfl))) Via.refl e11 (F_code_w_LABEL_GROUP.keep K1q nin0) (g := (mkF m 21 #[.val (.int p0), .val (.ref b1), .val (.int (11 : Int32)), .val (.int (10 : Int32)), .val (.ref w_LABEL_GROUP)] [(.ref w_LABEL_GROUP)])) rfl rfl (hb hby d1_21)
                      refine OFin.st st12 ?_
                      show OFin p e below _ _ T12 (mkF m 24 #[.val (.int p0), .val (.ref b1), .val (.int (11 : Int32)), .val (.int (10 : Int32)), .val (.ref w_LABEL_GROUP)] [(.int (18 : Int32))])
                      refine OFin.st (fun t k => XS.iloadN X12.here hx rfl (hb hby d1_24) rfl k) ?_
                      show OFin p e below _ _ T12 (mkF m 25 #[.val (.int p0), .val (.ref b1), .val (.int (11 : Int32)), .val (.int (10 : Int32)), .val (.ref w_LABEL_GROUP)] [(.int p0), (.int (18 : Int32))])
                      by_cases hc25'''''''''' : (18 : Int32) = p0
                      · refine OFin.st (fun t k => XS.icmpNo X12.here hx rfl (hb hby d1_25) rfl (teq hc25'''''''''').2 k) ?_
                        show OFin p e below _ _ T12 (mkF m 28 #[.val (.int p0), .val (.ref b1), .val (.int (11 : Int32)), .val (.int (10 : Int32)), .val (.ref w_LABEL_GROUP)] [])
                        refine OFin.st (fun t k => XS.aload X12.here hx rfl (hb hby d1_28) rfl rfl k) ?_
                        show OFin p e below _ _ T12 (mkF m 30 #[.val (.int p0), .val (.ref b1), .val (.int (11 : Int32)), .val (.int (10 : Int32)), .val (.ref w_LABEL_GROUP)] [(.ref w_LABEL_GROUP)])
                        exact own_retR X12 hx Bd.returns Bd.notSynchronized rfl rfl rfl (hb hby d1_30) (by show Qrm1 Z p0 w_NICKNAME w_TREES w_TREE_ROOT_IDS w_TREE_USE_IDS w_INTERESTED_VLANS w_TRILL_VERSION w_VLAN_GROUP w_INTERESTED_LABELS w_RBRIDGE_CHANNELS w_AFFINITY w_LABEL_GROUP kV w__VALUES h0 n0 _ T12.heap _; rw [e12]; exact ⟨(by rw [F1, if_neg hc25, if_neg hc25', if_neg hc25'', if_neg hc25''', if_neg hc25'''', if_neg hc25''''', if_neg hc25'''''', if_neg hc25''''''', if_neg hc25'''''''', if_neg hc25''''''''', if_pos hc25'''''''''']), N1, K1⟩) (own_endN (by decide) (by decide))
                      · refine OFin.st (fun t k => XS.icmpYes X12.here hx rfl (pc0 := 25) (pc' := 31) rfl (hb hby d1_25) rfl (feq hc25'''''''''').2 (by decide) (by decide) k) ?_
                        show OFin p e below _ _ T12 (mkF m 31 #[.val (.int p0), .val (.ref b1), .val (.int (11 : Int32)), .val (.int (10 : Int32)), .val (.ref w_LABEL_GROUP)] [])
                        refine OFin.st (fun t k => XS.iinc X12.here hx rfl (hb hby d1_31) rfl (l' := #[.val (.int p0), .val (.ref b1), .val (.int (11 : Int32)), .val (.int (11 : Int32)), .val (.ref w_LABEL_GROUP)]) rfl k) ?_
                        show OFin p e below _ _ T12 (mkF m 34 #[.val (.int p0), .val (.ref b1), .val (.int (11 : Int32)), .val (.int (11 : Int32)), .val (.ref w_LABEL_GROUP)] [])
                        refine OFin.st (fun t k => XS.goto X12.here hx rfl (pc0 := 34) (pc' := 9) rfl (hb hby d1_34) (by decide) (by decide) k) ?_
                        show OFin p e below _ _ T12 (mkF m 9 #[.val (.int p0), .val (.ref b1), .val (.int (11 : Int32)), .val (.int (11 : Int32)), .val (.ref w_LABEL_GROUP)] [])
                        refine OFin.st (fun t k => XS.iloadN X12.here hx rfl (hb hby d1_9) rfl k) ?_
                        show OFin p e below _ _ T12 (mkF m 10 #[.val (.int p0), .val (.ref b1), .val (.int (11 : Int32)), .val (.int (11 : Int32)), .val (.ref w_LABEL_GROUP)] [(.int (11 : Int32))])
                        refine OFin.st (fun t k => XS.iloadN X12.here hx rfl (hb hby d1_10) rfl k) ?_
                        show OFin p e below _ _ T12 (mkF m 11 #[.val (.int p0), .val (.ref b1), .val (.int (11 : Int32)), .val (.int (11 : Int32)), .val (.ref w_LABEL_GROUP)] [(.int (11 : Int32)), (.int (11 : Int32))])
                        refine OFin.st (fun t k => XS.icmpYes X12.here hx rfl (pc0 := 11) (pc' := 37) rfl (hb hby d1_11) rfl (flt (by decide : ¬ ((11 : Int32) < (11 : Int32)))).2.1 (by decide) (by decide) k) ?_
                        show OFin p e below _ _ T12 (mkF m 37 #[.val (.int p0), .val (.ref b1), .val (.int (11 : Int32)), .val (.int (11 : Int32)), .val (.ref w_LABEL_GROUP)] [])
                        refine OFin.st (fun t k => XS.aconstNull X12.here hx rfl (hb hby d1_37) k) ?_
                        show OFin p e below _ _ T12 (mkF m 38 #[.val (.int p0), .val (.ref b1), .val (.int (11 : Int32)), .val (.int (11 : Int32)), .val (.ref w_LABEL_GROUP)] [.null])
                        exact own_retR X12 hx Bd.returns Bd.notSynchronized rfl rfl rfl (hb hby d1_38) (by show Qrm1 Z p0 w_NICKNAME w_TREES w_TREE_ROOT_IDS w_TREE_USE_IDS w_INTERESTED_VLANS w_TRILL_VERSION w_VLAN_GROUP w_INTERESTED_LABELS w_RBRIDGE_CHANNELS w_AFFINITY w_LABEL_GROUP kV w__VALUES h0 n0 _ T12.heap _; rw [e12]; exact ⟨(by rw [F1, if_neg hc25, if_neg hc25', if_neg hc25'', if_neg hc25''', if_neg hc25'''', if_neg hc25''''', if_neg hc25'''''', if_neg hc25''''''', if_neg hc25'''''''', if_neg hc25''''''''', if_neg hc25'''''''''']), N1, K1⟩) (own_endN (by decide) (by decide))
theorem ef_rm3 (m : MethodId) (p0 : Int32) : entryFrame m #[(.int p0)] 1 = mkF m 0 #[.val (.int p0)] [] := by first | (simp [entryFrame, mkF, argsToLocals, Value.category]; done) | rfl
def F3 (p0 : Int32) (w_NICKNAME : Addr) (w_TREES : Addr) (w_TREE_ROOT_IDS : Addr) (w_TREE_USE_IDS : Addr) (w_INTERESTED_VLANS : Addr) (w_TRILL_VERSION : Addr) (w_VLAN_GROUP : Addr) (w_INTERESTED_LABELS : Addr) (w_RBRIDGE_CHANNELS : Addr) (w_AFFINITY : Addr) (w_LABEL_GROUP : Addr) : Value := if p0 = (6 : Int32) then (.ref w_NICKNAME) else (if p0 = (7 : Int32) then (.ref w_TREES) else (if p0 = (8 : Int32) then (.ref w_TREE_ROOT_IDS) else (if p0 = (9 : Int32) then (.ref w_TREE_USE_IDS) else (if p0 = (10 : Int32) then (.ref w_INTERESTED_VLANS) else (if p0 = (13 : Int32) then (.ref w_TRILL_VERSION) else (if p0 = (14 : Int32) then (.ref w_VLAN_GROUP) else (if p0 = (15 : Int32) then (.ref w_INTERESTED_LABELS) else (if p0 = (16 : Int32) then (.ref w_RBRIDGE_CHANNELS) else (if p0 = (17 : Int32) then (.ref w_AFFINITY) else (if p0 = (18 : Int32) then (.ref w_LABEL_GROUP) else .null))))))))))
def Q3 (p0 : Int32) (w_NICKNAME : Addr) (w_TREES : Addr) (w_TREE_ROOT_IDS : Addr) (w_TREE_USE_IDS : Addr) (w_INTERESTED_VLANS : Addr) (w_TRILL_VERSION : Addr) (w_VLAN_GROUP : Addr) (w_INTERESTED_LABELS : Addr) (w_RBRIDGE_CHANNELS : Addr) (w_AFFINITY : Addr) (w_LABEL_GROUP : Addr) (h0 : Heap) (n0 : Nat) (v : Option Value) (h : Heap) (L : List Loc) : Prop := v = some (F3 p0 w_NICKNAME w_TREES w_TREE_ROOT_IDS w_TREE_USE_IDS w_INTERESTED_VLANS w_TRILL_VERSION w_VLAN_GROUP w_INTERESTED_LABELS w_RBRIDGE_CHANNELS w_AFFINITY w_LABEL_GROUP) ∧ Fr n0 L ∧ h = h0
set_option maxRecDepth 65536 in
set_option maxHeartbeats 40000000 in
theorem rm3 (l : Launch) (Z : State) (a0 : Array Value) (hw : ∀ d ∈ tables_1, d.before a0 Z = true) (ws : List Jvm.Cond) (p0 : Int32) (w_NICKNAME : Addr) (w_TREES : Addr) (w_TREE_ROOT_IDS : Addr) (w_TREE_USE_IDS : Addr) (w_INTERESTED_VLANS : Addr) (w_TRILL_VERSION : Addr) (w_VLAN_GROUP : Addr) (w_INTERESTED_LABELS : Addr) (w_RBRIDGE_CHANNELS : Addr) (w_AFFINITY : Addr) (w_LABEL_GROUP : Addr) (h0 : Heap) (n0 : Nat) (O0 : Old Z n0 h0) (S_NICKNAME : Sta Z Z.heap "com/example/weftline/weftline/codec/RouterCapabilitySubTlv" "NICKNAME" "Lcom/example/weftline/weftline/codec/RouterCapabilitySubTlv;" (.ref w_NICKNAME)) (S_TREES : Sta Z Z.heap "com/example/weftline/weftline/codec/RouterCapabilitySubTlv" "TREES" "Lcom/example/weftline/weftline/codec/RouterCapabilitySubTlv;" (.ref w_TREES)) (S_TREE_ROOT_IDS : Sta Z Z.heap "com/example/weftline/weftline/codec/RouterCapabilitySubTlv" "TREE_ROOT_IDS" "Lcom/example/weftline/weftline/codec/RouterCapabilitySubTlv;" (.ref w_TREE_ROOT_IDS)) (S_TREE_USE_IDS : Sta Z Z.heap "com/example/weftline/weftline/codec/RouterCapabilitySubTlv" "TREE_USE_IDS" "Lcom/example/weftline/weftline/codec/RouterCapabilitySubTlv;" (.ref w_TREE_USE_IDS)) (S_INTERESTED_VLANS : Sta Z Z.heap "com/example/weftline/weftline/codec/RouterCapabilitySubTlv" "INTERESTED_VLANS" "Lcom/example/weftline/weftline/codec/RouterCapabilitySubTlv;" (.ref w_INTERESTED_VLANS)) (S_TRILL_VERSION : Sta Z Z.heap "com/example/weftline/weftline/codec/RouterCapabilitySubTlv" "TRILL_VERSION" "Lcom/example/weftline/weftline/codec/RouterCapabilitySubTlv;" (.ref w_TRILL_VERSION)) (S_VLAN_GROUP : Sta Z Z.heap "com/example/weftline/weftline/codec/RouterCapabilitySubTlv" "VLAN_GROUP" "Lcom/example/weftline/weftline/codec/RouterCapabilitySubTlv;" (.ref w_VLAN_GROUP)) (S_INTERESTED_LABELS : Sta Z Z.heap "com/example/weftline/weftline/codec/RouterCapabilitySubTlv" "INTERESTED_LABELS" "Lcom/example/weftline/weftline/codec/RouterCapabilitySubTlv;" (.ref w_INTERESTED_LABELS)) (S_RBRIDGE_CHANNELS : Sta Z Z.heap "com/example/weftline/weftline/codec/RouterCapabilitySubTlv" "RBRIDGE_CHANNELS" "Lcom/example/weftline/weftline/codec/RouterCapabilitySubTlv;" (.ref w_RBRIDGE_CHANNELS)) (S_AFFINITY : Sta Z Z.heap "com/example/weftline/weftline/codec/RouterCapabilitySubTlv" "AFFINITY" "Lcom/example/weftline/weftline/codec/RouterCapabilitySubTlv;" (.ref w_AFFINITY)) (S_LABEL_GROUP : Sta Z Z.heap "com/example/weftline/weftline/codec/RouterCapabilitySubTlv" "LABEL_GROUP" "Lcom/example/weftline/weftline/codec/RouterCapabilitySubTlv;" (.ref w_LABEL_GROUP)) :
    MetFree l (⟨"com/example/weftline/weftline/codec/RouterCapabilitySubTlvOfCodePinLaw", "expected", "(I)Lcom/example/weftline/weftline/codec/RouterCapabilitySubTlv;"⟩ : MethodName) (head1 (Jvm.Cond.code (⟨"com/example/weftline/weftline/codec/RouterCapabilitySubTlvOfCodePinLaw", "expected", "(I)Lcom/example/weftline/weftline/codec/RouterCapabilitySubTlv;"⟩ : MethodName) method_2_code 1 (some (.object "com/example/weftline/weftline/codec/RouterCapabilitySubTlv")) :: ws) ({ frames := 0, cells := 0, slots := 0, locals := 0 } : Room)) (fun a U => a = #[(.int p0)] ∧ Z.Warmed39 U.vm ∧ U.heap = h0) (fun _ _ _ _ _ => True) (fun _ U o U' => ∃ v L, o = .returned v ∧ Q3 p0 w_NICKNAME w_TREES w_TREE_ROOT_IDS w_TREE_USE_IDS w_INTERESTED_VLANS w_TRILL_VERSION w_VLAN_GROUP w_INTERESTED_LABELS w_RBRIDGE_CHANNELS w_AFFINITY w_LABEL_GROUP h0 n0 v U'.heap L ∧ FrameEnd U o U' L ({ frames := 0, cells := 0, slots := 0, locals := 0 } : Room).cells ({ frames := 0, cells := 0, slots := 0, locals := 0 } : Room).slots) := by
  refine MetFree.of_bodySF (plainFor_of_name pn_com_example_weftline_weftline_codec_RouterCapabilitySubTlvOfCodePinLaw) hisR ?_
  intro p e s m args below meth c s₁ Bd hml0 hP hK
  obtain ⟨rfl, hZ, hh⟩ := hP
  have hx := Bd.exec
  have hby := Bd.bytes
  have hml : c.maxLocals = 1 := hml0
  have hown : s.vm.findClass "com/example/weftline/weftline/codec/RouterCapabilitySubTlvOfCodePinLaw" = some m.cls := findClass_of_methodNamed Bd.named
  have hnm := (name_of_methodNamed Bd.named Bd.method).1
  have X0 : Stand p l e ({ frames := 0, cells := 0, slots := 0, locals := 0 } : Room) s m #[(.int p0)] below meth c s₁ [] 0 0 := Stand.of_body Bd
  have e0 : s₁.heap = h0 := by rw [← hh, Bd.state]; rfl
  have N0 := Fr.nil n0
  show OFin p e below (fun o t L => FrameEnd s o t L ({ frames := 0, cells := 0, slots := 0, locals := 0 } : Room).cells ({ frames := 0, cells := 0, slots := 0, locals := 0 } : Room).slots) (fun v h L => Q3 p0 w_NICKNAME w_TREES w_TREE_ROOT_IDS w_TREE_USE_IDS w_INTERESTED_VLANS w_TRILL_VERSION w_VLAN_GROUP w_INTERESTED_LABELS w_RBRIDGE_CHANNELS w_AFFINITY w_LABEL_GROUP h0 n0 v h L) s₁ (entryFrame m #[(.int p0)] 1)
  refine OFin.cast (ef_rm3 m p0) ?_
  show OFin p e below _ _ s₁ (mkF m 0 #[.val (.int p0)] [])
  refine OFin.st (fun t k => XS.iloadN X0.here hx rfl (hb hby d3_0) rfl k) ?_
  show OFin p e below _ _ s₁ (mkF m 1 #[.val (.int p0)] [(.int p0)])
  refine OFin.st (fun t k => XS.bipush X0.here hx rfl (hb hby d3_1) k) ?_
  show OFin p e below _ _ s₁ (mkF m 3 #[.val (.int p0)] [(.int (6 : Int32)), (.int p0)])
  by_cases hc3 : p0 = (6 : Int32)
  · refine OFin.st (fun t k => XS.icmpNo X0.here hx rfl (hb hby d3_3) rfl (teq hc3).2 k) ?_
    show OFin p e below _ _ s₁ (mkF m 6 #[.val (.int p0)] [])
    obtain ⟨T1, X1, e1, st1⟩ := getS2 X0 hx hZ hown (host := "") (Or.inl (hw _ (List.mem_of_getElem? (i := 43) rfl))) Via.refl e0 (S_NICKNAME.ext O0.2) (g := (mkF m 6 #[.val (.int p0)] [])) rfl (hb hby d3_6)
    refine OFin.st st1 ?_
    show OFin p e below _ _ T1 (mkF m 9 #[.val (.int p0)] [(.ref w_NICKNAME)])
    exact own_retR X1 hx Bd.returns Bd.notSynchronized rfl rfl rfl (hb hby d3_9) ⟨(by rw [F3, if_pos hc3]; try rfl), N0, e1⟩ (own_endN (by decide) (by decide))
  · refine OFin.st (fun t k => XS.icmpYes X0.here hx rfl (pc0 := 3) (pc' := 10) rfl (hb hby d3_3) rfl (feq hc3).2 (by decide) (by decide) k) ?_
    show OFin p e below _ _ s₁ (mkF m 10 #[.val (.int p0)] [])
    refine OFin.st (fun t k => XS.iloadN X0.here hx rfl (hb hby d3_10) rfl k) ?_
    show OFin p e below _ _ s₁ (mkF m 11 #[.val (.int p0)] [(.int p0)])
    refine OFin.st (fun t k => XS.bipush X0.here hx rfl (hb hby d3_11) k) ?_
    show OFin p e below _ _ s₁ (mkF m 13 #[.val (.int p0)] [(.int (7 : Int32)), (.int p0)])
    by_cases hc13 : p0 = (7 : Int32)
    · refine OFin.st (fun t k => XS.icmpNo X0.here hx rfl (hb hby d3_13) rfl (teq hc13).2 k) ?_
      show OFin p e below _ _ s₁ (mkF m 16 #[.val (.int p0)] [])
      obtain ⟨T2, X2, e2, st2⟩ := getS2 X0 hx hZ hown (host := "") (Or.inl (hw _ (List.mem_of_getElem? (i := 48) rfl))) Via.refl e0 (S_TREES.ext O0.2) (g := (mkF m 16 #[.val (.int p0)] [])) rfl (hb hby d3_16)
      refine OFin.st st2 ?_
      show OFin p e below _ _ T2 (mkF m 19 #[.val (.int p0)] [(.ref w_TREES)])
      exact own_retR X2 hx Bd.returns Bd.notSynchronized rfl rfl rfl (hb hby d3_19) ⟨(by rw [F3, if_neg hc3, if_pos hc13]; try rfl), N0, e2⟩ (own_endN (by decide) (by decide))
    · refine OFin.st (fun t k => XS.icmpYes X0.here hx rfl (pc0 := 13) (pc' := 20) rfl (hb hby d3_13) rfl (feq hc13).2 (by decide) (by decide) k) ?_
      show OFin p e below _ _ s₁ (mkF m 20 #[.val (.int p0)] [])
      refine OFin.st (fun t k => XS.iloadN X0.here hx rfl (hb hby d3_20) rfl k) ?_
      show OFin p e below _ _ s₁ (mkF m 21 #[.val (.int p0)] [(.int p0)])
      refine OFin.st (fun t k => XS.bipush X0.here hx rfl (hb hby d3_21) k) ?_
      show OFin p e below _ _ s₁ (mkF m 23 #[.val (.int p0)] [(.int (8 : Int32)), (.int p0)])
      by_cases hc23 : p0 = (8 : Int32)
      · refine OFin.st (fun t k => XS.icmpNo X0.here hx rfl (hb hby d3_23) rfl (teq hc23).2 k) ?_
        show OFin p e below _ _ s₁ (mkF m 26 #[.val (.int p0)] [])
        obtain ⟨T3, X3, e3, st3⟩ := getS2 X0 hx hZ hown (host := "") (Or.inl (hw _ (List.mem_of_getElem? (i := 45) rfl))) Via.refl e0 (S_TREE_ROOT_IDS.ext O0.2) (g := (mkF m 26 #[.val (.int p0)] [])) rfl (hb hby d3_26)
        refine OFin.st st3 ?_
        show OFin p e below _ _ T3 (mkF m 29 #[.val (.int p0)] [(.ref w_TREE_ROOT_IDS)])
        exact own_retR X3 hx Bd.returns Bd.notSynchronized rfl rfl rfl (hb hby d3_29) ⟨(by rw [F3, if_neg hc3, if_neg hc13, if_pos hc23]; try rfl), N0, e3⟩ (own_endN (by decide) (by decide))
      · refine OFin.st (fun t k => XS.icmpYes X0.here hx rfl (pc0 := 23) (pc' := 30) rfl (hb hby d3_23) rfl (feq hc23).2 (by decide) (by decide) k) ?_
        show OFin p e below _ _ s₁ (mkF m 30 #[.val (.int p0)] [])
        refine OFin.st (fun t k => XS.iloadN X0.here hx rfl (hb hby d3_30) rfl k) ?_
        show OFin p e below _ _ s₁ (mkF m 31 #[.val (.int p0)] [(.int p0)])
        refine OFin.st (fun t k => XS.bipush X0.here hx rfl (hb hby d3_31) k) ?_
        show OFin p e below _ _ s₁ (mkF m 33 #[.val (.int p0)] [(.int (9 : Int32)), (.int p0)])
        by_cases hc33 : p0 = (9 : Int32)
        · refine OFin.st (fun t k => XS.icmpNo X0.here hx rfl (hb hby d3_33) rfl (teq hc33).2 k) ?_
          show OFin p e below _ _ s₁ (mkF m 36 #[.val (.int p0)] [])
          obtain ⟨T4, X4, e4, st4⟩ := getS2 X0 hx hZ hown (host := "") (Or.inl (hw _ (List.mem_of_getElem? (i := 46) rfl))) Via.refl e0 (S_TREE_USE_IDS.ext O0.2) (g := (mkF m 36 #[.val (.int p0)] [])) rfl (hb hby d3_36)
          refine OFin.st st4 ?_
          show OFin p e below _ _ T4 (mkF m 39 #[.val (.int p0)] [(.ref w_TREE_USE_IDS)])
          exact own_retR X4 hx Bd.returns Bd.notSynchronized rfl rfl rfl (hb hby d3_39) ⟨(by rw [F3, if_neg hc3, if_neg hc13, if_neg hc23, if_pos hc33]; try rfl), N0, e4⟩ (own_endN (by decide) (by decide))
        · refine OFin.st (fun t k => XS.icmpYes X0.here hx rfl (pc0 := 33) (pc' := 40) rfl (hb hby d3_33) rfl (feq hc33).2 (by decide) (by decide) k) ?_
          show OFin p e below _ _ s₁ (mkF m 40 #[.val (.int p0)] [])
          refine OFin.st (fun t k => XS.iloadN X0.here hx rfl (hb hby d3_40) rfl k) ?_
          show OFin p e below _ _ s₁ (mkF m 41 #[.val (.int p0)] [(.int p0)])
          refine OFin.st (fun t k => XS.bipush X0.here hx rfl (hb hby d3_41) k) ?_
          show OFin p e below _ _ s₁ (mkF m 43 #[.val (.int p0)] [(.int (10 : Int32)), (.int p0)])
          by_cases hc43 : p0 = (10 : Int32)
          · refine OFin.st (fun t k => XS.icmpNo X0.here hx rfl (hb hby d3_43) rfl (teq hc43).2 k) ?_
            show OFin p e below _ _ s₁ (mkF m 46 #[.val (.int p0)] [])
            obtain ⟨T5, X5, e5, st5⟩ := getS2 X0 hx hZ hown (host := "") (Or.inl (hw _ (List.mem_of_getElem? (i := 47) rfl))) Via.refl e0 (S_INTERESTED_VLANS.ext O0.2) (g := (mkF m 46 #[.val (.int p0)] [])) rfl (hb hby d3_46)
            refine OFin.st st5 ?_
            show OFin p e below _ _ T5 (mkF m 49 #[.val (.int p0)] [(.ref w_INTERESTED_VLANS)])
            exact own_retR X5 hx Bd.returns Bd.notSynchronized rfl rfl rfl (hb hby d3_49) ⟨(by rw [F3, if_neg hc3, if_neg hc13, if_neg hc23, if_neg hc33, if_pos hc43]; try rfl), N0, e5⟩ (own_endN (by decide) (by decide))
          · refine OFin.st (fun t k => XS.icmpYes X0.here hx rfl (pc0 := 43) (pc' := 50) rfl (hb hby d3_43) rfl (feq hc43).2 (by decide) (by decide) k) ?_
            show OFin p e below _ _ s₁ (mkF m 50 #[.val (.int p0)] [])
            refine OFin.st (fun t k => XS.iloadN X0.here hx rfl (hb hby d3_50) rfl k) ?_
            show OFin p e below _ _ s₁ (mkF m 51 #[.val (.int p0)] [(.int p0)])
            refine OFin.st (fun t k => XS.bipush X0.here hx rfl (hb hby d3_51) k) ?_
            show OFin p e below _ _ s₁ (mkF m 53 #[.val (.int p0)] [(.int (13 : Int32)), (.int p0)])
            by_cases hc53 : p0 = (13 : Int32)
            · refine OFin.st (fun t k => XS.icmpNo X0.here hx rfl (hb hby d3_53) rfl (teq hc53).2 k) ?_
              show OFin p e below _ _ s₁ (mkF m 56 #[.val (.int p0)] [])
              obtain ⟨T6, X6, e6, st6⟩ := getS2 X0 hx hZ hown (host := "") (Or.inl (hw _ (List.mem_of_getElem? (i := 42) rfl))) Via.refl e0 (S_TRILL_VERSION.ext O0.2) (g := (mkF m 56 #[.val (.int p0)] [])) rfl (hb hby d3_56)
              refine OFin.st st6 ?_
              show OFin p e below _ _ T6 (mkF m 59 #[.val (.int p0)] [(.ref w_TRILL_VERSION)])
              exact own_retR X6 hx Bd.returns Bd.notSynchronized rfl rfl rfl (hb hby d3_59) ⟨(by rw [F3, if_neg hc3, if_neg hc13, if_neg hc23, if_neg hc33, if_neg hc43, if_pos hc53]; try rfl), N0, e6⟩ (own_endN (by decide) (by decide))
            · refine OFin.st (fun t k => XS.icmpYes X0.here hx rfl (pc0 := 53) (pc' := 60) rfl (hb hby d3_53) rfl (feq hc53).2 (by decide) (by decide) k) ?_
              show OFin p e below _ _ s₁ (mkF m 60 #[.val (.int p0)] [])
              refine OFin.st (fun t k => XS.iloadN X0.here hx rfl (hb hby d3_60) rfl k) ?_
              show OFin p e below _ _ s₁ (mkF m 61 #[.val (.int p0)] [(.int p0)])
              refine OFin.st (fun t k => XS.bipush X0.here hx rfl (hb hby d3_61) k) ?_
              show OFin p e below _ _ s₁ (mkF m 63 #[.val (.int p0)] [(.int (14 : Int32)), (.int p0)])
              by_cases hc63 : p0 = (14 : Int32)
              · refine OFin.st (fun t k => XS.icmpNo X0.here hx rfl (hb hby d3_63) rfl (teq hc63).2 k) ?_
                show OFin p e below _ _ s₁ (mkF m 66 #[.val (.int p0)] [])
                obtain ⟨T7, X7, e7, st7⟩ := getS2 X0 hx hZ hown (host := "") (Or.inl (hw _ (List.mem_of_getElem? (i := 50) rfl))) Via.refl e0 (S_VLAN_GROUP.ext O0.2) (g := (mkF m 66 #[.val (.int p0)] [])) rfl (hb hby d3_66)
                refine OFin.st st7 ?_
                show OFin p e below _ _ T7 (mkF m 69 #[.val (.int p0)] [(.ref w_VLAN_GROUP)])
                exact own_retR X7 hx Bd.returns Bd.notSynchronized rfl rfl rfl (hb hby d3_69) ⟨(by rw [F3, if_neg hc3, if_neg hc13, if_neg hc23, if_neg hc33, if_neg hc43, if_neg hc53, if_pos hc63]; try rfl), N0, e7⟩ (own_endN (by decide) (by decide))
              · refine OFin.st (fun t k => XS.icmpYes X0.here hx rfl (pc0 := 63) (pc' := 70) rfl (hb hby d3_63) rfl (feq hc63).2 (by decide) (by decide) k) ?_
                show OFin p e below _ _ s₁ (mkF m 70 #[.val (.int p0)] [])
                refine OFin.st (fun t k => XS.iloadN X0.here hx rfl (hb hby d3_70) rfl k) ?_
                show OFin p e below _ _ s₁ (mkF m 71 #[.val (.int p0)] [(.int p0)])
                refine OFin.st (fun t k => XS.bipush X0.here hx rfl (hb hby d3_71) k) ?_
                show OFin p e below _ _ s₁ (mkF m 73 #[.val (.int p0)] [(.int (15 : Int32)), (.int p0)])
                by_cases hc73 : p0 = (15 : Int32)
                · refine OFin.st (fun t k => XS.icmpNo X0.here hx rfl (hb hby d3_73) rfl (teq hc73).2 k) ?_
                  show OFin p e below _ _ s₁ (mkF m 76 #[.val (.int p0)] [])
                  obtain ⟨T8, X8, e8, st8⟩ := getS2 X0 hx hZ hown (host := "") (Or.inl (hw _ (List.mem_of_getElem? (i := 44) rfl))) Via.refl e0 (S_INTERESTED_LABELS.ext O0.2) (g := (mkF m 76 #[.val (.int p0)] [])) rfl (hb hby d3_76)
                  refine OFin.st st8 ?_
                  show OFin p e below _ _ T8 (mkF m 79 #[.val (.int p0)] [(.ref w_INTERESTED_LABELS)])
                  exact own_retR X8 hx Bd.returns Bd.notSynchronized rfl rfl rfl (hb hby d3_79) ⟨(by rw [F3, if_neg hc3, if_neg hc13, if_neg hc23, if_neg hc33, if_neg hc43, if_neg hc53, if_neg hc63, if_pos hc73]; try rfl), N0, e8⟩ (own_endN (by decide) (by decide))
                · refine OFin.st (fun t k => XS.icmpYes X0.here hx rfl (pc0 := 73) (pc' := 80) rfl (hb hby d3_73) rfl (feq hc73).2 (by decide) (by decide) k) ?_
                  show OFin p e below _ _ s₁ (mkF m 80 #[.val (.int p0)] [])
                  refine OFin.st (fun t k => XS.iloadN X0.here hx rfl (hb hby d3_80) rfl k) ?_
                  show OFin p e below _ _ s₁ (mkF m 81 #[.val (.int p0)] [(.int p0)])
                  refine OFin.st (fun t k => XS.bipush X0.here hx rfl (hb hby d3_81) k) ?_
                  show OFin p e below _ _ s₁ (mkF m 83 #[.val (.int p0)] [(.int (16 : Int32)), (.int p0)])
                  by_cases hc83 : p0 = (16 : Int32)
                  · refine OFin.st (fun t k => XS.icmpNo X0.here hx rfl (hb hby d3_83) rfl (teq hc83).2 k) ?_
                    show OFin p e below _ _ s₁ (mkF m 86 #[.val (.int p0)] [])
                    obtain ⟨T9, X9, e9, st9⟩ := getS2 X0 hx hZ hown (host := "") (Or.inl (hw _ (List.mem_of_getElem? (i := 36) rfl))) Via.refl e0 (S_RBRIDGE_CHANNELS.ext O0.2) (g := (mkF m 86 #[.val (.int p0)] [])) rfl (hb hby d3_86)
                    refine OFin.st st9 ?_
                    show OFin p e below _ _ T9 (mkF m 89 #[.val (.int p0)] [(.ref w_RBRIDGE_CHANNELS)])
                    exact own_retR X9 hx Bd.returns Bd.notSynchronized rfl rfl rfl (hb hby d3_89) ⟨(by rw [F3, if_neg hc3, if_neg hc13, if_neg hc23, if_neg hc33, if_neg hc43, if_neg hc53, if_neg hc63, if_neg hc73, if_pos hc83]; try rfl), N0, e9⟩ (own_endN (by decide) (by decide))
                  · refine OFin.st (fun t k => XS.icmpYes X0.here hx rfl (pc0 := 83) (pc' := 90) rfl (hb hby d3_83) rfl (feq hc83).2 (by decide) (by decide) k) ?_
                    show OFin p e below _ _ s₁ (mkF m 90 #[.val (.int p0)] [])
                    refine OFin.st (fun t k => XS.iloadN X0.here hx rfl (hb hby d3_90) rfl k) ?_
                    show OFin p e below _ _ s₁ (mkF m 91 #[.val (.int p0)] [(.int p0)])
                    refine OFin.st (fun t k => XS.bipush X0.here hx rfl (hb hby d3_91) k) ?_
                    show OFin p e below _ _ s₁ (mkF m 93 #[.val (.int p0)] [(.int (17 : Int32)), (.int p0)])
                    by_cases hc93 : p0 = (17 : Int32)
                    · refine OFin.st (fun t k => XS.icmpNo X0.here hx rfl (hb hby d3_93) rfl (teq hc93).2 k) ?_
                      show OFin p e below _ _ s₁ (mkF m 96 #[.val (.int p0)] [])
                      obtain ⟨T10, X10, e10, st10⟩ := getS2 X0 hx hZ hown (host := "") (Or.inl (hw _ (List.mem_of_getElem? (i := 51) rfl))) Via.refl e0 (S_AFFINITY.ext O0.2) (g := (mkF m 96 #[.val (.int p0)] [])) rfl (hb hby d3_96)
                      refine OFin.st st10 ?_
                      show OFin p e below _ _ T10 (mkF m 99 #[.val (.int p0)] [(.ref w_AFFINITY)])
                      exact own_retR X10 hx Bd.returns Bd.notSynchronized rfl rfl rfl (hb hby d3_99) ⟨(by rw [F3, if_neg hc3, if_neg hc13, if_neg hc23, if_neg hc33, if_neg hc43, if_neg hc53, if_neg hc63, if_neg hc73, if_neg hc83, if_pos hc93]; try rfl), N0, e10⟩ (own_endN (by decide) (by decide))
                    · refine OFin.st (fun t k => XS.icmpYes X0.here hx rfl (pc0 := 93) (pc' := 100) rfl (hb hby d3_93) rfl (feq hc93).2 (by decide) (by decide) k) ?_
                      show OFin p e below _ _ s₁ (mkF m 100 #[.val (.int p0)] [])
                      refine OFin.st (fun t k => XS.iloadN X0.here hx rfl (hb hby d3_100) rfl k) ?_
                      show OFin p e below _ _ s₁ (mkF m 101 #[.val (.int p0)] [(.int p0)])
                      refine OFin.st (fun t k => XS.bipush X0.here hx rfl (hb hby d3_101) k) ?_
                      show OFin p e below _ _ s₁ (mkF m 103 #[.val (.int p0)] [(.int (18 : Int32)), (.int p0)])
                      by_cases hc103 : p0 = (18 : Int32)
                      · refine OFin.st (fun t k => XS.icmpNo X0.here hx rfl (hb hby d3_103) rfl (teq hc103).2 k) ?_
                        show OFin p e below _ _ s₁ (mkF m 106 #[.val (.int p0)] [])
                        obtain ⟨T11, X11, e11, st11⟩ := getS2 X0 hx hZ hown (host := "") (Or.inl (hw _ (List.mem_of_getElem? (i := 49) rfl))) Via.refl e0 (S_LABEL_GROUP.ext O0.2) (g := (mkF m 106 #[.val (.int p0)] [])) rfl (hb hby d3_106)
                        refine OFin.st st11 ?_
                        show OFin p e below _ _ T11 (mkF m 109 #[.val (.int p0)] [(.ref w_LABEL_GROUP)])
                        exact own_retR X11 hx Bd.returns Bd.notSynchronized rfl rfl rfl (hb hby d3_109) ⟨(by rw [F3, if_neg hc3, if_neg hc13, if_neg hc23, if_neg hc33, if_neg hc43, if_neg hc53, if_neg hc63, if_neg hc73, if_neg hc83, if_neg hc93, if_pos hc103]; try rfl), N0, e11⟩ (own_endN (by decide) (by decide))
                      · refine OFin.st (fun t k => XS.icmpYes X0.here hx rfl (pc0 := 103) (pc' := 110) rfl (hb hby d3_103) rfl (feq hc103).2 (by decide) (by decide) k) ?_
                        show OFin p e below _ _ s₁ (mkF m 110 #[.val (.int p0)] [])
                        refine OFin.st (fun t k => XS.aconstNull X0.here hx rfl (hb hby d3_110) k) ?_
                        show OFin p e below _ _ s₁ (mkF m 111 #[.val (.int p0)] [.null])
                        exact own_retR X0 hx Bd.returns Bd.notSynchronized rfl rfl rfl (hb hby d3_111) ⟨(by rw [F3, if_neg hc3, if_neg hc13, if_neg hc23, if_neg hc33, if_neg hc43, if_neg hc53, if_neg hc63, if_neg hc73, if_neg hc83, if_neg hc93, if_neg hc103]; try rfl), N0, e0⟩ (own_endN (by decide) (by decide))
theorem own_F3r (p0 : Int32) (w_NICKNAME : Addr) (w_TREES : Addr) (w_TREE_ROOT_IDS : Addr) (w_TREE_USE_IDS : Addr) (w_INTERESTED_VLANS : Addr) (w_TRILL_VERSION : Addr) (w_VLAN_GROUP : Addr) (w_INTERESTED_LABELS : Addr) (w_RBRIDGE_CHANNELS : Addr) (w_AFFINITY : Addr) (w_LABEL_GROUP : Addr) : (F3 p0 w_NICKNAME w_TREES w_TREE_ROOT_IDS w_TREE_USE_IDS w_INTERESTED_VLANS w_TRILL_VERSION w_VLAN_GROUP w_INTERESTED_LABELS w_RBRIDGE_CHANNELS w_AFFINITY w_LABEL_GROUP).isRef = true := own_ite (P := fun v => Value.isRef v = true) rfl (own_ite (P := fun v => Value.isRef v = true) rfl (own_ite (P := fun v => Value.isRef v = true) rfl (own_ite (P := fun v => Value.isRef v = true) rfl (own_ite (P := fun v => Value.isRef v = true) rfl (own_ite (P := fun v => Value.isRef v = true) rfl (own_ite (P := fun v => Value.isRef v = true) rfl (own_ite (P := fun v => Value.isRef v = true) rfl (own_ite (P := fun v => Value.isRef v = true) rfl (own_ite (P := fun v => Value.isRef v = true) rfl (own_ite (P := fun v => Value.isRef v = true) rfl (rfl)))))))))))
theorem own_same (p0 : Int32) (w_NICKNAME : Addr) (w_TREES : Addr) (w_TREE_ROOT_IDS : Addr) (w_TREE_USE_IDS : Addr) (w_INTERESTED_VLANS : Addr) (w_TRILL_VERSION : Addr) (w_VLAN_GROUP : Addr) (w_INTERESTED_LABELS : Addr) (w_RBRIDGE_CHANNELS : Addr) (w_AFFINITY : Addr) (w_LABEL_GROUP : Addr) : F1 p0 w_NICKNAME w_TREES w_TREE_ROOT_IDS w_TREE_USE_IDS w_INTERESTED_VLANS w_TRILL_VERSION w_VLAN_GROUP w_INTERESTED_LABELS w_RBRIDGE_CHANNELS w_AFFINITY w_LABEL_GROUP = F3 p0 w_NICKNAME w_TREES w_TREE_ROOT_IDS w_TREE_USE_IDS w_INTERESTED_VLANS w_TRILL_VERSION w_VLAN_GROUP w_INTERESTED_LABELS w_RBRIDGE_CHANNELS w_AFFINITY w_LABEL_GROUP := by
  simp only [F1, F3, eq_comm (b := p0)]
theorem ef_rm4 (m : MethodId) (r0 : Addr) : entryFrame m #[(.ref r0)] 1 = mkF m 0 #[.val (.ref r0)] [] := by first | (simp [entryFrame, mkF, argsToLocals, Value.category]; done) | rfl
def F4 (r0 : Addr) (f_code_r0 : Int32) : Int32 := f_code_r0
def Q4 (r0 : Addr) (f_code_r0 : Int32) (h0 : Heap) (n0 : Nat) (v : Option Value) (h : Heap) (L : List Loc) : Prop := v = some (Value.int (F4 r0 f_code_r0)) ∧ Fr n0 L ∧ h = h0
set_option maxRecDepth 65536 in
set_option maxHeartbeats 40000000 in
theorem rm4 (l : Launch) (Z : State) (a0 : Array Value) (hw : ∀ d ∈ tables_1, d.before a0 Z = true) (ws : List Jvm.Cond) (r0 : Addr) (f_code_r0 : Int32) (h0 : Heap) (n0 : Nat) (O0 : Old Z n0 h0) (F_code_r0 : Fld Z h0 r0 "com/example/weftline/weftline/codec/RouterCapabilitySubTlv" "code" "I" (.int f_code_r0)) :
    MetFree l (⟨"com/example/weftline/weftline/codec/RouterCapabilitySubTlv", "code", "()I"⟩ : MethodName) (head1 (Jvm.Cond.code (⟨"com/example/weftline/weftline/codec/RouterCapabilitySubTlv", "code", "()I"⟩ : MethodName) prog_35_method_5_code 1 (some .int) :: ws) ({ frames := 0, cells := 0, slots := 0, locals := 0 } : Room)) (fun a U => a = #[(.ref r0)] ∧ Z.Warmed39 U.vm ∧ U.heap = h0) (fun _ _ _ _ _ => True) (fun _ U o U' => ∃ v L, o = .returned v ∧ Q4 r0 f_code_r0 h0 n0 v U'.heap L ∧ FrameEnd U o U' L ({ frames := 0, cells := 0, slots := 0, locals := 0 } : Room).cells ({ frames := 0, cells := 0, slots := 0, locals := 0 } : Room).slots) := by
  refine MetFree.of_bodySF (plainFor_of_name pn_com_example_weftline_weftline_codec_RouterCapabilitySubTlv) hisR ?_
  intro p e s m args below meth c s₁ Bd hml0 hP hK
  obtain ⟨rfl, hZ, hh⟩ := hP
  have hx := Bd.exec
  have hby := Bd.bytes
  have hml : c.maxLocals = 1 := hml0
  have hown : s.vm.findClass "com/example/weftline/weftline/codec/RouterCapabilitySubTlv" = some m.cls := findClass_of_methodNamed Bd.named
  have hnm := (name_of_methodNamed Bd.named Bd.method).1
  have X0 : Stand p l e ({ frames := 0, cells := 0, slots := 0, locals := 0 } : Room) s m #[(.ref r0)] below meth c s₁ [] 0 0 := Stand.of_body Bd
  have e0 : s₁.heap = h0 := by rw [← hh, Bd.state]; rfl
  have N0 := Fr.nil n0
  show OFin p e below (fun o t L => FrameEnd s o t L ({ frames := 0, cells := 0, slots := 0, locals := 0 } : Room).cells ({ frames := 0, cells := 0, slots := 0, locals := 0 } : Room).slots) (fun v h L => Q4 r0 f_code_r0 h0 n0 v h L) s₁ (entryFrame m #[(.ref r0)] 1)
  refine OFin.cast (ef_rm4 m r0) ?_
  show OFin p e below _ _ s₁ (mkF m 0 #[.val (.ref r0)] [])
  refine OFin.st (fun t k => XS.aloadN X0.here hx rfl (hb hby d4_0) rfl rfl k) ?_
  show OFin p e below _ _ s₁ (mkF m 1 #[.val (.ref r0)] [(.ref r0)])
  obtain ⟨T1, X1, e1, st1⟩ := getF X0 hx hZ hown (host := "") (Or.inl (hw _ (List.mem_of_getElem? (i := 30) rfl))) Via.refl e0 F_code_r0 (g := (mkF m 1 #[.val (.ref r0)] [(.ref r0)])) rfl rfl (hb hby d4_1)
  refine OFin.st st1 ?_
  show OFin p e below _ _ T1 (mkF m 4 #[.val (.ref r0)] [(.int f_code_r0)])
  exact own_retI X1 hx Bd.returns Bd.notSynchronized (hb hby d4_4) ⟨(by rw [F4]; try rfl), N0, e1⟩ (own_endN (by decide) (by decide))
theorem own_F1c (p0 : Int32) (w_NICKNAME : Addr) (w_TREES : Addr) (w_TREE_ROOT_IDS : Addr) (w_TREE_USE_IDS : Addr) (w_INTERESTED_VLANS : Addr) (w_TRILL_VERSION : Addr) (w_VLAN_GROUP : Addr) (w_INTERESTED_LABELS : Addr) (w_RBRIDGE_CHANNELS : Addr) (w_AFFINITY : Addr) (w_LABEL_GROUP : Addr) {E : Addr → Prop} {G : Addr → Int32 → Prop} (e0 : E w_NICKNAME) (e1 : E w_TREES) (e2 : E w_TREE_ROOT_IDS) (e3 : E w_TREE_USE_IDS) (e4 : E w_INTERESTED_VLANS) (e5 : E w_TRILL_VERSION) (e6 : E w_VLAN_GROUP) (e7 : E w_INTERESTED_LABELS) (e8 : E w_RBRIDGE_CHANNELS) (e9 : E w_AFFINITY) (e10 : E w_LABEL_GROUP) (g0 : G w_NICKNAME (6 : Int32)) (g1 : G w_TREES (7 : Int32)) (g2 : G w_TREE_ROOT_IDS (8 : Int32)) (g3 : G w_TREE_USE_IDS (9 : Int32)) (g4 : G w_INTERESTED_VLANS (10 : Int32)) (g5 : G w_TRILL_VERSION (13 : Int32)) (g6 : G w_VLAN_GROUP (14 : Int32)) (g7 : G w_INTERESTED_LABELS (15 : Int32)) (g8 : G w_RBRIDGE_CHANNELS (16 : Int32)) (g9 : G w_AFFINITY (17 : Int32)) (g10 : G w_LABEL_GROUP (18 : Int32)) : (F1 p0 w_NICKNAME w_TREES w_TREE_ROOT_IDS w_TREE_USE_IDS w_INTERESTED_VLANS w_TRILL_VERSION w_VLAN_GROUP w_INTERESTED_LABELS w_RBRIDGE_CHANNELS w_AFFINITY w_LABEL_GROUP = .null) ∨ ∃ y, F1 p0 w_NICKNAME w_TREES w_TREE_ROOT_IDS w_TREE_USE_IDS w_INTERESTED_VLANS w_TRILL_VERSION w_VLAN_GROUP w_INTERESTED_LABELS w_RBRIDGE_CHANNELS w_AFFINITY w_LABEL_GROUP = .ref y ∧ E y ∧ G y p0 := by
  by_cases q0 : (6 : Int32) = p0
  · exact Or.inr ⟨w_NICKNAME, by rw [F1, if_pos q0], e0, q0 ▸ g0⟩
  by_cases q1 : (7 : Int32) = p0
  · exact Or.inr ⟨w_TREES, by rw [F1, if_neg q0, if_pos q1], e1, q1 ▸ g1⟩
  by_cases q2 : (8 : Int32) = p0
  · exact Or.inr ⟨w_TREE_ROOT_IDS, by rw [F1, if_neg q0, if_neg q1, if_pos q2], e2, q2 ▸ g2⟩
  by_cases q3 : (9 : Int32) = p0
  · exact Or.inr ⟨w_TREE_USE_IDS, by rw [F1, if_neg q0, if_neg q1, if_neg q2, if_pos q3], e3, q3 ▸ g3⟩
  by_cases q4 : (10 : Int32) = p0
  · exact Or.inr ⟨w_INTERESTED_VLANS, by rw [F1, if_neg q0, if_neg q1, if_neg q2, if_neg q3, if_pos q4], e4, q4 ▸ g4⟩
  by_cases q5 : (13 : Int32) = p0
  · exact Or.inr ⟨w_TRILL_VERSION, by rw [F1, if_neg q0, if_neg q1, if_neg q2, if_neg q3, if_neg q4, if_pos q5], e5, q5 ▸ g5⟩
  by_cases q6 : (14 : Int32) = p0
  · exact Or.inr ⟨w_VLAN_GROUP, by rw [F1, if_neg q0, if_neg q1, if_neg q2, if_neg q3, if_neg q4, if_neg q5, if_pos q6], e6, q6 ▸ g6⟩
  by_cases q7 : (15 : Int32) = p0
  · exact Or.inr ⟨w_INTERESTED_LABELS, by rw [F1, if_neg q0, if_neg q1, if_neg q2, if_neg q3, if_neg q4, if_neg q5, if_neg q6, if_pos q7], e7, q7 ▸ g7⟩
  by_cases q8 : (16 : Int32) = p0
  · exact Or.inr ⟨w_RBRIDGE_CHANNELS, by rw [F1, if_neg q0, if_neg q1, if_neg q2, if_neg q3, if_neg q4, if_neg q5, if_neg q6, if_neg q7, if_pos q8], e8, q8 ▸ g8⟩
  by_cases q9 : (17 : Int32) = p0
  · exact Or.inr ⟨w_AFFINITY, by rw [F1, if_neg q0, if_neg q1, if_neg q2, if_neg q3, if_neg q4, if_neg q5, if_neg q6, if_neg q7, if_neg q8, if_pos q9], e9, q9 ▸ g9⟩
  by_cases q10 : (18 : Int32) = p0
  · exact Or.inr ⟨w_LABEL_GROUP, by rw [F1, if_neg q0, if_neg q1, if_neg q2, if_neg q3, if_neg q4, if_neg q5, if_neg q6, if_neg q7, if_neg q8, if_neg q9, if_pos q10], e10, q10 ▸ g10⟩
  exact Or.inl (by rw [F1, if_neg q0, if_neg q1, if_neg q2, if_neg q3, if_neg q4, if_neg q5, if_neg q6, if_neg q7, if_neg q8, if_neg q9, if_neg q10])
theorem ef_rm0 (m : MethodId) (p0 : Int32) (p1 : Int32) : entryFrame m #[(.int p0), (.int p1)] maxLocals = mkF m 0 #[.val (.int p0), .val (.int p1), .unset, .unset, .unset] [] := by first | (simp [entryFrame, mkF, argsToLocals, Value.category, maxLocals]; done) | rfl
def Qrm0 (Z : State) (p0 : Int32) (p1 : Int32) (kV : ClassId) (w_NICKNAME : Addr) (w_TREES : Addr) (w_TREE_ROOT_IDS : Addr) (w_TREE_USE_IDS : Addr) (w_INTERESTED_VLANS : Addr) (w_TRILL_VERSION : Addr) (w_VLAN_GROUP : Addr) (w_INTERESTED_LABELS : Addr) (w_RBRIDGE_CHANNELS : Addr) (w_AFFINITY : Addr) (w_LABEL_GROUP : Addr) (w__VALUES : Addr) (h0 : Heap) (n0 : Nat) (v : Option Value) (h : Heap) (L : List Loc) : Prop := v = some (Value.int (1 : Int32)) ∧ Fr n0 L ∧ Keep h0 h []
set_option maxRecDepth 65536 in
set_option maxHeartbeats 40000000 in
theorem rm0 (l : Launch) (Z : State) (a0 : Array Value) (hw : ∀ d ∈ tables_1, d.before a0 Z = true) (ws : List Jvm.Cond) (p0 : Int32) (p1 : Int32) (kV : ClassId) (w_NICKNAME : Addr) (w_TREES : Addr) (w_TREE_ROOT_IDS : Addr) (w_TREE_USE_IDS : Addr) (w_INTERESTED_VLANS : Addr) (w_TRILL_VERSION : Addr) (w_VLAN_GROUP : Addr) (w_INTERESTED_LABELS : Addr) (w_RBRIDGE_CHANNELS : Addr) (w_AFFINITY : Addr) (w_LABEL_GROUP : Addr) (w__VALUES : Addr) (h0 : Heap) (n0 : Nat) (O0 : Old Z n0 h0) (A_w__VALUES : Oar Z h0 w__VALUES kV (.object "com/example/weftline/weftline/codec/RouterCapabilitySubTlv") [(.ref w_NICKNAME), (.ref w_TREES), (.ref w_TREE_ROOT_IDS), (.ref w_TREE_USE_IDS), (.ref w_INTERESTED_VLANS), (.ref w_TRILL_VERSION), (.ref w_VLAN_GROUP), (.ref w_INTERESTED_LABELS), (.ref w_RBRIDGE_CHANNELS), (.ref w_AFFINITY), (.ref w_LABEL_GROUP)]) (E_w__VALUES : Exa Z h0 w__VALUES "[Lcom/example/weftline/weftline/codec/RouterCapabilitySubTlv;") (F_code_w_NICKNAME : Fld Z h0 w_NICKNAME "com/example/weftline/weftline/codec/RouterCapabilitySubTlv" "code" "I" (.int (6 : Int32))) (F_code_w_TREES : Fld Z h0 w_TREES "com/example/weftline/weftline/codec/RouterCapabilitySubTlv" "code" "I" (.int (7 : Int32))) (F_code_w_TREE_ROOT_IDS : Fld Z h0 w_TREE_ROOT_IDS "com/example/weftline/weftline/codec/RouterCapabilitySubTlv" "code" "I" (.int (8 : Int32))) (F_code_w_TREE_USE_IDS : Fld Z h0 w_TREE_USE_IDS "com/example/weftline/weftline/codec/RouterCapabilitySubTlv" "code" "I" (.int (9 : Int32))) (F_code_w_INTERESTED_VLANS : Fld Z h0 w_INTERESTED_VLANS "com/example/weftline/weftline/codec/RouterCapabilitySubTlv" "code" "I" (.int (10 : Int32))) (F_code_w_TRILL_VERSION : Fld Z h0 w_TRILL_VERSION "com/example/weftline/weftline/codec/RouterCapabilitySubTlv" "code" "I" (.int (13 : Int32))) (F_code_w_VLAN_GROUP : Fld Z h0 w_VLAN_GROUP "com/example/weftline/weftline/codec/RouterCapabilitySubTlv" "code" "I" (.int (14 : Int32))) (F_code_w_INTERESTED_LABELS : Fld Z h0 w_INTERESTED_LABELS "com/example/weftline/weftline/codec/RouterCapabilitySubTlv" "code" "I" (.int (15 : Int32))) (F_code_w_RBRIDGE_CHANNELS : Fld Z h0 w_RBRIDGE_CHANNELS "com/example/weftline/weftline/codec/RouterCapabilitySubTlv" "code" "I" (.int (16 : Int32))) (F_code_w_AFFINITY : Fld Z h0 w_AFFINITY "com/example/weftline/weftline/codec/RouterCapabilitySubTlv" "code" "I" (.int (17 : Int32))) (F_code_w_LABEL_GROUP : Fld Z h0 w_LABEL_GROUP "com/example/weftline/weftline/codec/RouterCapabilitySubTlv" "code" "I" (.int (18 : Int32))) (E_w_NICKNAME : Exa Z h0 w_NICKNAME "com/example/weftline/weftline/codec/RouterCapabilitySubTlv") (E_w_TREES : Exa Z h0 w_TREES "com/example/weftline/weftline/codec/RouterCapabilitySubTlv") (E_w_TREE_ROOT_IDS : Exa Z h0 w_TREE_ROOT_IDS "com/example/weftline/weftline/codec/RouterCapabilitySubTlv") (E_w_TREE_USE_IDS : Exa Z h0 w_TREE_USE_IDS "com/example/weftline/weftline/codec/RouterCapabilitySubTlv") (E_w_INTERESTED_VLANS : Exa Z h0 w_INTERESTED_VLANS "com/example/weftline/weftline/codec/RouterCapabilitySubTlv") (E_w_TRILL_VERSION : Exa Z h0 w_TRILL_VERSION "com/example/weftline/weftline/codec/RouterCapabilitySubTlv") (E_w_VLAN_GROUP : Exa Z h0 w_VLAN_GROUP "com/example/weftline/weftline/codec/RouterCapabilitySubTlv") (E_w_INTERESTED_LABELS : Exa Z h0 w_INTERESTED_LABELS "com/example/weftline/weftline/codec/RouterCapabilitySubTlv") (E_w_RBRIDGE_CHANNELS : Exa Z h0 w_RBRIDGE_CHANNELS "com/example/weftline/weftline/codec/RouterCapabilitySubTlv") (E_w_AFFINITY : Exa Z h0 w_AFFINITY "com/example/weftline/weftline/codec/RouterCapabilitySubTlv") (E_w_LABEL_GROUP : Exa Z h0 w_LABEL_GROUP "com/example/weftline/weftline/codec/RouterCapabilitySubTlv") (S_NICKNAME : Sta Z Z.heap "com/example/weftline/weftline/codec/RouterCapabilitySubTlv" "NICKNAME" "Lcom/example/weftline/weftline/codec/RouterCapabilitySubTlv;" (.ref w_NICKNAME)) (S_TREES : Sta Z Z.heap "com/example/weftline/weftline/codec/RouterCapabilitySubTlv" "TREES" "Lcom/example/weftline/weftline/codec/RouterCapabilitySubTlv;" (.ref w_TREES)) (S_TREE_ROOT_IDS : Sta Z Z.heap "com/example/weftline/weftline/codec/RouterCapabilitySubTlv" "TREE_ROOT_IDS" "Lcom/example/weftline/weftline/codec/RouterCapabilitySubTlv;" (.ref w_TREE_ROOT_IDS)) (S_TREE_USE_IDS : Sta Z Z.heap "com/example/weftline/weftline/codec/RouterCapabilitySubTlv" "TREE_USE_IDS" "Lcom/example/weftline/weftline/codec/RouterCapabilitySubTlv;" (.ref w_TREE_USE_IDS)) (S_INTERESTED_VLANS : Sta Z Z.heap "com/example/weftline/weftline/codec/RouterCapabilitySubTlv" "INTERESTED_VLANS" "Lcom/example/weftline/weftline/codec/RouterCapabilitySubTlv;" (.ref w_INTERESTED_VLANS)) (S_TRILL_VERSION : Sta Z Z.heap "com/example/weftline/weftline/codec/RouterCapabilitySubTlv" "TRILL_VERSION" "Lcom/example/weftline/weftline/codec/RouterCapabilitySubTlv;" (.ref w_TRILL_VERSION)) (S_VLAN_GROUP : Sta Z Z.heap "com/example/weftline/weftline/codec/RouterCapabilitySubTlv" "VLAN_GROUP" "Lcom/example/weftline/weftline/codec/RouterCapabilitySubTlv;" (.ref w_VLAN_GROUP)) (S_INTERESTED_LABELS : Sta Z Z.heap "com/example/weftline/weftline/codec/RouterCapabilitySubTlv" "INTERESTED_LABELS" "Lcom/example/weftline/weftline/codec/RouterCapabilitySubTlv;" (.ref w_INTERESTED_LABELS)) (S_RBRIDGE_CHANNELS : Sta Z Z.heap "com/example/weftline/weftline/codec/RouterCapabilitySubTlv" "RBRIDGE_CHANNELS" "Lcom/example/weftline/weftline/codec/RouterCapabilitySubTlv;" (.ref w_RBRIDGE_CHANNELS)) (S_AFFINITY : Sta Z Z.heap "com/example/weftline/weftline/codec/RouterCapabilitySubTlv" "AFFINITY" "Lcom/example/weftline/weftline/codec/RouterCapabilitySubTlv;" (.ref w_AFFINITY)) (S_LABEL_GROUP : Sta Z Z.heap "com/example/weftline/weftline/codec/RouterCapabilitySubTlv" "LABEL_GROUP" "Lcom/example/weftline/weftline/codec/RouterCapabilitySubTlv;" (.ref w_LABEL_GROUP)) (S__VALUES : Sta Z Z.heap "com/example/weftline/weftline/codec/RouterCapabilitySubTlv" "$VALUES" "[Lcom/example/weftline/weftline/codec/RouterCapabilitySubTlv;" (.ref w__VALUES)) :
    MetFree l x (head1 (Jvm.Cond.code x code maxLocals ret :: ws) room_1) (fun a U => a = #[(.int p0), (.int p1)] ∧ Z.Warmed39 U.vm ∧ U.heap = h0) (fun _ _ _ _ _ => True) (fun _ U o U' => ∃ v L, o = .returned v ∧ Qrm0 Z p0 p1 kV w_NICKNAME w_TREES w_TREE_ROOT_IDS w_TREE_USE_IDS w_INTERESTED_VLANS w_TRILL_VERSION w_VLAN_GROUP w_INTERESTED_LABELS w_RBRIDGE_CHANNELS w_AFFINITY w_LABEL_GROUP w__VALUES h0 n0 v U'.heap L ∧ FrameEnd U o U' L room_1.cells room_1.slots) := by
  refine MetFree.of_bodySF (plainFor_of_name pn_com_example_weftline_weftline_codec_RouterCapabilitySubTlvOfCodePinLaw) hisR ?_
  intro p e s m args below meth c s₁ Bd hml0 hP hK
  obtain ⟨rfl, hZ, hh⟩ := hP
  have hx := Bd.exec
  have hby := Bd.bytes
  have hml : c.maxLocals = 5 := hml0
  have hown : s.vm.findClass "com/example/weftline/weftline/codec/RouterCapabilitySubTlvOfCodePinLaw" = some m.cls := findClass_of_methodNamed Bd.named
  have hnm := (name_of_methodNamed Bd.named Bd.method).1
  have X0 : Stand p l e room_1 s m #[(.int p0), (.int p1)] below meth c s₁ [] 0 0 := Stand.of_body Bd
  have e0 : s₁.heap = h0 := by rw [← hh, Bd.state]; rfl
  have N0 := Fr.nil n0
  show OFin p e below (fun o t L => FrameEnd s o t L room_1.cells room_1.slots) (fun v h L => Qrm0 Z p0 p1 kV w_NICKNAME w_TREES w_TREE_ROOT_IDS w_TREE_USE_IDS w_INTERESTED_VLANS w_TRILL_VERSION w_VLAN_GROUP w_INTERESTED_LABELS w_RBRIDGE_CHANNELS w_AFFINITY w_LABEL_GROUP w__VALUES h0 n0 v h L) s₁ (entryFrame m #[(.int p0), (.int p1)] maxLocals)
  refine OFin.cast (ef_rm0 m p0 p1) ?_
  show OFin p e below _ _ s₁ (mkF m 0 #[.val (.int p0), .val (.int p1), .unset, .unset, .unset] [])
  refine OFin.st (fun t k => XS.iloadN X0.here hx rfl (hb hby at_0) rfl k) ?_
  show OFin p e below _ _ s₁ (mkF m 1 #[.val (.int p0), .val (.int p1), .unset, .unset, .unset] [(.int p0)])
  refine OFin.st (fun t k => XS.iconst X0.here hx rfl (hb hby at_1) k) ?_
  show OFin p e below _ _ s₁ (mkF m 2 #[.val (.int p0), .val (.int p1), .unset, .unset, .unset] [(.int (1 : Int32)), (.int p0)])
  refine OFin.st (fun t k => XS.iand X0.here hx rfl (hb hby at_2) rfl k) ?_
  show OFin p e below _ _ s₁ (mkF m 3 #[.val (.int p0), .val (.int p1), .unset, .unset, .unset] [(.int (p0 &&& (1 : Int32)))])
  by_cases hc3 : (p0 &&& (1 : Int32)) = (0 : Int32)
  · refine OFin.st (fun t k => XS.ifYes X0.here hx rfl (pc0 := 3) (pc' := 10) rfl (hb hby at_3) rfl ((if0 _ _).trans (teq hc3).1) (by decide) (by decide) k) ?_
    show OFin p e below _ _ s₁ (mkF m 10 #[.val (.int p0), .val (.int p1), .unset, .unset, .unset] [])
    refine OFin.st (fun t k => XS.iloadN X0.here hx rfl (hb hby at_10) rfl k) ?_
    show OFin p e below _ _ s₁ (mkF m 11 #[.val (.int p0), .val (.int p1), .unset, .unset, .unset] [(.int p1)])
    refine OFin.st (fun t k => XS.bipush X0.here hx rfl (hb hby at_11) k) ?_
    show OFin p e below _ _ s₁ (mkF m 13 #[.val (.int p0), .val (.int p1), .unset, .unset, .unset] [(.int (31 : Int32)), (.int p1)])
    refine OFin.st (fun t k => XS.iand X0.here hx rfl (hb hby at_13) rfl k) ?_
    show OFin p e below _ _ s₁ (mkF m 14 #[.val (.int p0), .val (.int p1), .unset, .unset, .unset] [(.int (p1 &&& (31 : Int32)))])
    refine OFin.st (fun t k => XS.iconst X0.here hx rfl (hb hby at_14) k) ?_
    show OFin p e below _ _ s₁ (mkF m 15 #[.val (.int p0), .val (.int p1), .unset, .unset, .unset] [(.int (4 : Int32)), (.int (p1 &&& (31 : Int32)))])
    refine OFin.st (fun t k => XS.isub X0.here hx rfl (hb hby at_15) rfl k) ?_
    show OFin p e below _ _ s₁ (mkF m 16 #[.val (.int p0), .val (.int p1), .unset, .unset, .unset] [(.int ((p1 &&& (31 : Int32)) - (4 : Int32)))])
    refine OFin.st (fun t k => XS.istoreN X0.here hx rfl (hb hby at_16) rfl (l' := #[.val (.int p0), .val (.int p1), .val (.int ((p1 &&& (31 : Int32)) - (4 : Int32))), .unset, .unset]) rfl k) ?_
    show OFin p e below _ _ s₁ (mkF m 17 #[.val (.int p0), .val (.int p1), .val (.int ((p1 &&& (31 : Int32)) - (4 : Int32))), .unset, .unset] [])
    refine OFin.st (fun t k => XS.iloadN X0.here hx rfl (hb hby at_17) rfl k) ?_
    show OFin p e below _ _ s₁ (mkF m 18 #[.val (.int p0), .val (.int p1), .val (.int ((p1 &&& (31 : Int32)) - (4 : Int32))), .unset, .unset] [(.int ((p1 &&& (31 : Int32)) - (4 : Int32)))])
    obtain ⟨_, _, ⟨T1, L1, k1, n1⟩, -, X1, ⟨Lc1, hQ1, l1, y1, z1⟩, st1⟩ := Jvm.LawKit.callS X0 hx (y := (⟨"com/example/weftline/weftline/codec/RouterCapabilitySubTlv", "ofCode", "(I)Lcom/example/weftline/weftline/codec/RouterCapabilitySubTlv;"⟩ : MethodName)) hown (mvT hZ (hw _ (List.mem_of_getElem? (i := 0) rfl))) (mvT hZ (hw _ (List.mem_of_getElem? (i := 1) rfl))) (mvT hZ (hw _ (List.mem_of_getElem? (i := 2) rfl))) (mvT hZ (hw _ (List.mem_of_getElem? (i := 3) rfl))) (by decide) (backOf (W := 0) (rm1 l Z a0 hw [] ((p1 &&& (31 : Int32)) - (4 : Int32)) w_NICKNAME w_TREES w_TREE_ROOT_IDS w_TREE_USE_IDS w_INTERESTED_VLANS w_TRILL_VERSION w_VLAN_GROUP w_INTERESTED_LABELS w_RBRIDGE_CHANNELS w_AFFINITY w_LABEL_GROUP kV w__VALUES h0 n0 O0 A_w__VALUES E_w__VALUES F_code_w_NICKNAME F_code_w_TREES F_code_w_TREE_ROOT_IDS F_code_w_TREE_USE_IDS F_code_w_INTERESTED_VLANS F_code_w_TRILL_VERSION F_code_w_VLAN_GROUP F_code_w_INTERESTED_LABELS F_code_w_RBRIDGE_CHANNELS F_code_w_AFFINITY F_code_w_LABEL_GROUP S__VALUES) hZ (hw _ (List.mem_of_getElem? (i := 3) rfl)) (hw _ (List.mem_of_getElem? (i := 2) rfl)) (by decide) (by decide)) (g := (mkF m 18 #[.val (.int p0), .val (.int p1), .val (.int ((p1 &&& (31 : Int32)) - (4 : Int32))), .unset, .unset] [(.int ((p1 &&& (31 : Int32)) - (4 : Int32)))])) rfl (by rw [hml]; rfl) (argsL := [(.int ((p1 &&& (31 : Int32)) - (4 : Int32)))]) (rest := []) (lenOf pd_3 rfl) rfl (by show 2 * 0 + _ ≤ _; exact Nat.le_of_eq rfl) (hb hby at_18) (fun _ _ => ⟨rfl, e0, (by decide : 0 + 1 ≤ _), (by decide : 0 + 11 ≤ _)⟩)
    dsimp only [Pt.U, Pt.locs, Pt.cells, Pt.slots] at X1 l1 y1 z1 st1 hQ1
    subst l1 y1 z1
    obtain ⟨rfl, N1q, K1q⟩ := hQ1
    have N1 := Fr.app N0 N1q
    have K1 : Keep h0 T1.heap [] := (Keep.refl h0 []).trans K1q all0
    have O1 : Old Z n0 T1.heap := O0.keep K1q all0
    refine OFin.st st1 ?_
    show OFin p e below _ _ T1 (mkF m 21 #[.val (.int p0), .val (.int p1), .val (.int ((p1 &&& (31 : Int32)) - (4 : Int32))), .unset, .unset] [(F1 ((p1 &&& (31 : Int32)) - (4 : Int32)) w_NICKNAME w_TREES w_TREE_ROOT_IDS w_TREE_USE_IDS w_INTERESTED_VLANS w_TRILL_VERSION w_VLAN_GROUP w_INTERESTED_LABELS w_RBRIDGE_CHANNELS w_AFFINITY w_LABEL_GROUP)])
    refine OFin.st (fun t k => XS.astoreN X1.here hx rfl (hb hby at_21) rfl (own_F1r ((p1 &&& (31 : Int32)) - (4 : Int32)) w_NICKNAME w_TREES w_TREE_ROOT_IDS w_TREE_USE_IDS w_INTERESTED_VLANS w_TRILL_VERSION w_VLAN_GROUP w_INTERESTED_LABELS w_RBRIDGE_CHANNELS w_AFFINITY w_LABEL_GROUP) (l' := #[.val (.int p0), .val (.int p1), .val (.int ((p1 &&& (31 : Int32)) - (4 : Int32))), .val (F1 ((p1 &&& (31 : Int32)) - (4 : Int32)) w_NICKNAME w_TREES w_TREE_ROOT_IDS w_TREE_USE_IDS w_INTERESTED_VLANS w_TRILL_VERSION w_VLAN_GROUP w_INTERESTED_LABELS w_RBRIDGE_CHANNELS w_AFFINITY w_LABEL_GROUP), .unset]) (XS.store1 rfl (by first | exact Or.inl rfl | exact Or.inr ⟨_, rfl, rfl⟩) (own_cat1 (own_F1r ((p1 &&& (31 : Int32)) - (4 : Int32)) w_NICKNAME w_TREES w_TREE_ROOT_IDS w_TREE_USE_IDS w_INTERESTED_VLANS w_TRILL_VERSION w_VLAN_GROUP w_INTERESTED_LABELS w_RBRIDGE_CHANNELS w_AFFINITY w_LABEL_GROUP))) k) ?_
    show OFin p e below _ _ T1 (mkF m 22 #[.val (.int p0), .val (.int p1), .val (.int ((p1 &&& (31 : Int32)) - (4 : Int32))), .val (F1 ((p1 &&& (31 : Int32)) - (4 : Int32)) w_NICKNAME w_TREES w_TREE_ROOT_IDS w_TREE_USE_IDS w_INTERESTED_VLANS w_TRILL_VERSION w_VLAN_GROUP w_INTERESTED_LABELS w_RBRIDGE_CHANNELS w_AFFINITY w_LABEL_GROUP), .unset] [])
    refine OFin.st (fun t k => XS.iloadN X1.here hx rfl (hb hby at_22) rfl k) ?_
    show OFin p e below _ _ T1 (mkF m 23 #[.val (.int p0), .val (.int p1), .val (.int ((p1 &&& (31 : Int32)) - (4 : Int32))), .val (F1 ((p1 &&& (31 : Int32)) - (4 : Int32)) w_NICKNAME w_TREES w_TREE_ROOT_IDS w_TREE_USE_IDS w_INTERESTED_VLANS w_TRILL_VERSION w_VLAN_GROUP w_INTERESTED_LABELS w_RBRIDGE_CHANNELS w_AFFINITY w_LABEL_GROUP), .unset] [(.int ((p1 &&& (31 : Int32)) - (4 : Int32)))])
    obtain ⟨_, _, ⟨T2, L2, k2, n2⟩, -, X2, ⟨Lc2, hQ2, l2, y2, z2⟩, st2⟩ := Jvm.LawKit.callS X1 hx (y := (⟨"com/example/weftline/weftline/codec/RouterCapabilitySubTlvOfCodePinLaw", "expected", "(I)Lcom/example/weftline/weftline/codec/RouterCapabilitySubTlv;"⟩ : MethodName)) hown (mvT hZ (hw _ (List.mem_of_getElem? (i := 32) rfl))) (mvT hZ (hw _ (List.mem_of_getElem? (i := 33) rfl))) (mvT hZ (hw _ (List.mem_of_getElem? (i := 34) rfl))) (mvT hZ (hw _ (List.mem_of_getElem? (i := 35) rfl))) (by decide) (backOf (W := 0) (rm3 l Z a0 hw [] ((p1 &&& (31 : Int32)) - (4 : Int32)) w_NICKNAME w_TREES w_TREE_ROOT_IDS w_TREE_USE_IDS w_INTERESTED_VLANS w_TRILL_VERSION w_VLAN_GROUP w_INTERESTED_LABELS w_RBRIDGE_CHANNELS w_AFFINITY w_LABEL_GROUP T1.heap n0 O1 S_NICKNAME S_TREES S_TREE_ROOT_IDS S_TREE_USE_IDS S_INTERESTED_VLANS S_TRILL_VERSION S_VLAN_GROUP S_INTERESTED_LABELS S_RBRIDGE_CHANNELS S_AFFINITY S_LABEL_GROUP) hZ (hw _ (List.mem_of_getElem? (i := 35) rfl)) (hw _ (List.mem_of_getElem? (i := 34) rfl)) (by decide) (by decide)) (g := (mkF m 23 #[.val (.int p0), .val (.int p1), .val (.int ((p1 &&& (31 : Int32)) - (4 : Int32))), .val (F1 ((p1 &&& (31 : Int32)) - (4 : Int32)) w_NICKNAME w_TREES w_TREE_ROOT_IDS w_TREE_USE_IDS w_INTERESTED_VLANS w_TRILL_VERSION w_VLAN_GROUP w_INTERESTED_LABELS w_RBRIDGE_CHANNELS w_AFFINITY w_LABEL_GROUP), .unset] [(.int ((p1 &&& (31 : Int32)) - (4 : Int32)))])) rfl (by rw [hml]; rfl) (argsL := [(.int ((p1 &&& (31 : Int32)) - (4 : Int32)))]) (rest := []) (lenOf pd_3 rfl) rfl (by show 2 * 0 + _ ≤ _; exact Nat.le_of_eq rfl) (hb hby at_23) (fun _ _ => ⟨rfl, rfl, (by decide : 1 + 0 ≤ _), (by decide : 11 + 0 ≤ _)⟩)
    dsimp only [Pt.U, Pt.locs, Pt.cells, Pt.slots] at X2 l2 y2 z2 st2 hQ2
    subst l2 y2 z2
    obtain ⟨rfl, N2q, e2⟩ := hQ2
    have N2 := Fr.app N1 N2q
    refine OFin.st st2 ?_
    show OFin p e below _ _ T2 (mkF m 26 #[.val (.int p0), .val (.int p1), .val (.int ((p1 &&& (31 : Int32)) - (4 : Int32))), .val (F1 ((p1 &&& (31 : Int32)) - (4 : Int32)) w_NICKNAME w_TREES w_TREE_ROOT_IDS w_TREE_USE_IDS w_INTERESTED_VLANS w_TRILL_VERSION w_VLAN_GROUP w_INTERESTED_LABELS w_RBRIDGE_CHANNELS w_AFFINITY w_LABEL_GROUP), .unset] [(F3 ((p1 &&& (31 : Int32)) - (4 : Int32)) w_NICKNAME w_TREES w_TREE_ROOT_IDS w_TREE_USE_IDS w_INTERESTED_VLANS w_TRILL_VERSION w_VLAN_GROUP w_INTERESTED_LABELS w_RBRIDGE_CHANNELS w_AFFINITY w_LABEL_GROUP)])
    refine OFin.st (fun t k => XS.astore X2.here hx rfl (hb hby at_26) rfl (own_F3r ((p1 &&& (31 : Int32)) - (4 : Int32)) w_NICKNAME w_TREES w_TREE_ROOT_IDS w_TREE_USE_IDS w_INTERESTED_VLANS w_TRILL_VERSION w_VLAN_GROUP w_INTERESTED_LABELS w_RBRIDGE_CHANNELS w_AFFINITY w_LABEL_GROUP) (l' := #[.val (.int p0), .val (.int p1), .val (.int ((p1 &&& (31 : Int32)) - (4 : Int32))), .val (F1 ((p1 &&& (31 : Int32)) - (4 : Int32)) w_NICKNAME w_TREES w_TREE_ROOT_IDS w_TREE_USE_IDS w_INTERESTED_VLANS w_TRILL_VERSION w_VLAN_GROUP w_INTERESTED_LABELS w_RBRIDGE_CHANNELS w_AFFINITY w_LABEL_GROUP), .val (F3 ((p1 &&& (31 : Int32)) - (4 : Int32)) w_NICKNAME w_TREES w_TREE_ROOT_IDS w_TREE_USE_IDS w_INTERESTED_VLANS w_TRILL_VERSION w_VLAN_GROUP w_INTERESTED_LABELS w_RBRIDGE_CHANNELS w_AFFINITY w_LABEL_GROUP)]) (XS.store1 rfl (by first | exact Or.inl rfl | exact Or.inr ⟨_, rfl, rfl⟩) (own_cat1 (own_F3r ((p1 &&& (31 : Int32)) - (4 : Int32)) w_NICKNAME w_TREES w_TREE_ROOT_IDS w_TREE_USE_IDS w_INTERESTED_VLANS w_TRILL_VERSION w_VLAN_GROUP w_INTERESTED_LABELS w_RBRIDGE_CHANNELS w_AFFINITY w_LABEL_GROUP))) k) ?_
    show OFin p e below _ _ T2 (mkF m 28 #[.val (.int p0), .val (.int p1), .val (.int ((p1 &&& (31 : Int32)) - (4 : Int32))), .val (F1 ((p1 &&& (31 : Int32)) - (4 : Int32)) w_NICKNAME w_TREES w_TREE_ROOT_IDS w_TREE_USE_IDS w_INTERESTED_VLANS w_TRILL_VERSION w_VLAN_GROUP w_INTERESTED_LABELS w_RBRIDGE_CHANNELS w_AFFINITY w_LABEL_GROUP), .val (F3 ((p1 &&& (31 : Int32)) - (4 : Int32)) w_NICKNAME w_TREES w_TREE_ROOT_IDS w_TREE_USE_IDS w_INTERESTED_VLANS w_TRILL_VERSION w_VLAN_GROUP w_INTERESTED_LABELS w_RBRIDGE_CHANNELS w_AFFINITY w_LABEL_GROUP)] [])
    refine OFin.st (fun t k => XS.aloadN X2.here hx rfl (hb hby at_28) rfl (own_F1r ((p1 &&& (31 : Int32)) - (4 : Int32)) w_NICKNAME w_TREES w_TREE_ROOT_IDS w_TREE_USE_IDS w_INTERESTED_VLANS w_TRILL_VERSION w_VLAN_GROUP w_INTERESTED_LABELS w_RBRIDGE_CHANNELS w_AFFINITY w_LABEL_GROUP) k) ?_
    show OFin p e below _ _ T2 (mkF m 29 #[.val (.int p0), .val (.int p1), .val (.int ((p1 &&& (31 : Int32)) - (4 : Int32))), .val (F1 ((p1 &&& (31 : Int32)) - (4 : Int32)) w_NICKNAME w_TREES w_TREE_ROOT_IDS w_TREE_USE_IDS w_INTERESTED_VLANS w_TRILL_VERSION w_VLAN_GROUP w_INTERESTED_LABELS w_RBRIDGE_CHANNELS w_AFFINITY w_LABEL_GROUP), .val (F3 ((p1 &&& (31 : Int32)) - (4 : Int32)) w_NICKNAME w_TREES w_TREE_ROOT_IDS w_TREE_USE_IDS w_INTERESTED_VLANS w_TRILL_VERSION w_VLAN_GROUP w_INTERESTED_LABELS w_RBRIDGE_CHANNELS w_AFFINITY w_LABEL_GROUP)] [(F1 ((p1 &&& (31 : Int32)) - (4 : Int32)) w_NICKNAME w_TREES w_TREE_ROOT_IDS w_TREE_USE_IDS w_INTERESTED_VLANS w_TRILL_VERSION w_VLAN_GROUP w_INTERESTED_LABELS w_RBRIDGE_CHANNELS w_AFFINITY w_LABEL_GROUP)])
    refine OFin.st (fun t k => XS.aload X2.here hx rfl (hb hby at_29) rfl (own_F3r ((p1 &&& (31 : Int32)) - (4 : Int32)) w_NICKNAME w_TREES w_TREE_ROOT_IDS w_TREE_USE_IDS w_INTERESTED_VLANS w_TRILL_VERSION w_VLAN_GROUP w_INTERESTED_LABELS w_RBRIDGE_CHANNELS w_AFFINITY w_LABEL_GROUP) k) ?_
    show OFin p e below _ _ T2 (mkF m 31 #[.val (.int p0), .val (.int p1), .val (.int ((p1 &&& (31 : Int32)) - (4 : Int32))), .val (F1 ((p1 &&& (31 : Int32)) - (4 : Int32)) w_NICKNAME w_TREES w_TREE_ROOT_IDS w_TREE_USE_IDS w_INTERESTED_VLANS w_TRILL_VERSION w_VLAN_GROUP w_INTERESTED_LABELS w_RBRIDGE_CHANNELS w_AFFINITY w_LABEL_GROUP), .val (F3 ((p1 &&& (31 : Int32)) - (4 : Int32)) w_NICKNAME w_TREES w_TREE_ROOT_IDS w_TREE_USE_IDS w_INTERESTED_VLANS w_TRILL_VERSION w_VLAN_GROUP w_INTERESTED_LABELS w_RBRIDGE_CHANNELS w_AFFINITY w_LABEL_GROUP)] [(F3 ((p1 &&& (31 : Int32)) - (4 : Int32)) w_NICKNAME w_TREES w_TREE_ROOT_IDS w_TREE_USE_IDS w_INTERESTED_VLANS w_TRILL_VERSION w_VLAN_GROUP w_INTERESTED_LABELS w_RBRIDGE_CHANNELS w_AFFINITY w_LABEL_GROUP), (F1 ((p1 &&& (31 : Int32)) - (4 : Int32)) w_NICKNAME w_TREES w_TREE_ROOT_IDS w_TREE_USE_IDS w_INTERESTED_VLANS w_TRILL_VERSION w_VLAN_GROUP w_INTERESTED_LABELS w_RBRIDGE_CHANNELS w_AFFINITY w_LABEL_GROUP)])
    refine OFin.st (fun t k => Jvm.RoadKit.acmp (g := (mkF m 31 #[.val (.int p0), .val (.int p1), .val (.int ((p1 &&& (31 : Int32)) - (4 : Int32))), .val (F1 ((p1 &&& (31 : Int32)) - (4 : Int32)) w_NICKNAME w_TREES w_TREE_ROOT_IDS w_TREE_USE_IDS w_INTERESTED_VLANS w_TRILL_VERSION w_VLAN_GROUP w_INTERESTED_LABELS w_RBRIDGE_CHANNELS w_AFFINITY w_LABEL_GROUP), .val (F3 ((p1 &&& (31 : Int32)) - (4 : Int32)) w_NICKNAME w_TREES w_TREE_ROOT_IDS w_TREE_USE_IDS w_INTERESTED_VLANS w_TRILL_VERSION w_VLAN_GROUP w_INTERESTED_LABELS w_RBRIDGE_CHANNELS w_AFFINITY w_LABEL_GROUP)] [(F3 ((p1 &&& (31 : Int32)) - (4 : Int32)) w_NICKNAME w_TREES w_TREE_ROOT_IDS w_TREE_USE_IDS w_INTERESTED_VLANS w_TRILL_VERSION w_VLAN_GROUP w_INTERESTED_LABELS w_RBRIDGE_CHANNELS w_AFFINITY w_LABEL_GROUP), (F1 ((p1 &&& (31 : Int32)) - (4 : Int32)) w_NICKNAME w_TREES w_TREE_ROOT_IDS w_TREE_USE_IDS w_INTERESTED_VLANS w_TRILL_VERSION w_VLAN_GROUP w_INTERESTED_LABELS w_RBRIDGE_CHANNELS w_AFFINITY w_LABEL_GROUP)])) X2 hx rfl (own_F1r ((p1 &&& (31 : Int32)) - (4 : Int32)) w_NICKNAME w_TREES w_TREE_ROOT_IDS w_TREE_USE_IDS w_INTERESTED_VLANS w_TRILL_VERSION w_VLAN_GROUP w_INTERESTED_LABELS w_RBRIDGE_CHANNELS w_AFFINITY w_LABEL_GROUP) (own_F3r ((p1 &&& (31 : Int32)) - (4 : Int32)) w_NICKNAME w_TREES w_TREE_ROOT_IDS w_TREE_USE_IDS w_INTERESTED_VLANS w_TRILL_VERSION w_VLAN_GROUP w_INTERESTED_LABELS w_RBRIDGE_CHANNELS w_AFFINITY w_LABEL_GROUP) (pc0 := 31) (pc' := 36) (same := true) rfl (hb hby at_31) rfl (decide_eq_true (own_same ((p1 &&& (31 : Int32)) - (4 : Int32)) w_NICKNAME w_TREES w_TREE_ROOT_IDS w_TREE_USE_IDS w_INTERESTED_VLANS w_TRILL_VERSION w_VLAN_GROUP w_INTERESTED_LABELS w_RBRIDGE_CHANNELS w_AFFINITY w_LABEL_GROUP)) (by decide) (by decide) k) ?_
    show OFin p e below _ _ T2 (mkF m 36 #[.val (.int p0), .val (.int p1), .val (.int ((p1 &&& (31 : Int32)) - (4 : Int32))), .val (F1 ((p1 &&& (31 : Int32)) - (4 : Int32)) w_NICKNAME w_TREES w_TREE_ROOT_IDS w_TREE_USE_IDS w_INTERESTED_VLANS w_TRILL_VERSION w_VLAN_GROUP w_INTERESTED_LABELS w_RBRIDGE_CHANNELS w_AFFINITY w_LABEL_GROUP), .val (F3 ((p1 &&& (31 : Int32)) - (4 : Int32)) w_NICKNAME w_TREES w_TREE_ROOT_IDS w_TREE_USE_IDS w_INTERESTED_VLANS w_TRILL_VERSION w_VLAN_GROUP w_INTERESTED_LABELS w_RBRIDGE_CHANNELS w_AFFINITY w_LABEL_GROUP)] [])
    refine OFin.st (fun t k => XS.aloadN X2.here hx rfl (hb hby at_36) rfl (own_F1r ((p1 &&& (31 : Int32)) - (4 : Int32)) w_NICKNAME w_TREES w_TREE_ROOT_IDS w_TREE_USE_IDS w_INTERESTED_VLANS w_TRILL_VERSION w_VLAN_GROUP w_INTERESTED_LABELS w_RBRIDGE_CHANNELS w_AFFINITY w_LABEL_GROUP) k) ?_
    show OFin p e below _ _ T2 (mkF m 37 #[.val (.int p0), .val (.int p1), .val (.int ((p1 &&& (31 : Int32)) - (4 : Int32))), .val (F1 ((p1 &&& (31 : Int32)) - (4 : Int32)) w_NICKNAME w_TREES w_TREE_ROOT_IDS w_TREE_USE_IDS w_INTERESTED_VLANS w_TRILL_VERSION w_VLAN_GROUP w_INTERESTED_LABELS w_RBRIDGE_CHANNELS w_AFFINITY w_LABEL_GROUP), .val (F3 ((p1 &&& (31 : Int32)) - (4 : Int32)) w_NICKNAME w_TREES w_TREE_ROOT_IDS w_TREE_USE_IDS w_INTERESTED_VLANS w_TRILL_VERSION w_VLAN_GROUP w_INTERESTED_LABELS w_RBRIDGE_CHANNELS w_AFFINITY w_LABEL_GROUP)] [(F1 ((p1 &&& (31 : Int32)) - (4 : Int32)) w_NICKNAME w_TREES w_TREE_ROOT_IDS w_TREE_USE_IDS w_INTERESTED_VLANS w_TRILL_VERSION w_VLAN_GROUP w_INTERESTED_LABELS w_RBRIDGE_CHANNELS w_AFFINITY w_LABEL_GROUP)])
    rcases own_F1c ((p1 &&& (31 : Int32)) - (4 : Int32)) w_NICKNAME w_TREES w_TREE_ROOT_IDS w_TREE_USE_IDS w_INTERESTED_VLANS w_TRILL_VERSION w_VLAN_GROUP w_INTERESTED_LABELS w_RBRIDGE_CHANNELS w_AFFINITY w_LABEL_GROUP (E := fun y => Exa Z T1.heap y "com/example/weftline/weftline/codec/RouterCapabilitySubTlv") (G := fun y z => Fld Z T1.heap y "com/example/weftline/weftline/codec/RouterCapabilitySubTlv" "code" "I" (.int z)) (E_w_NICKNAME.keep K1q) (E_w_TREES.keep K1q) (E_w_TREE_ROOT_IDS.keep K1q) (E_w_TREE_USE_IDS.keep K1q) (E_w_INTERESTED_VLANS.keep K1q) (E_w_TRILL_VERSION.keep K1q) (E_w_VLAN_GROUP.keep K1q) (E_w_INTERESTED_LABELS.keep K1q) (E_w_RBRIDGE_CHANNELS.keep K1q) (E_w_AFFINITY.keep K1q) (E_w_LABEL_GROUP.keep K1q) (F_code_w_NICKNAME.keep K1q nin0) (F_code_w_TREES.keep K1q nin0) (F_code_w_TREE_ROOT_IDS.keep K1q nin0) (F_code_w_TREE_USE_IDS.keep K1q nin0) (F_code_w_INTERESTED_VLANS.keep K1q nin0) (F_code_w_TRILL_VERSION.keep K1q nin0) (F_code_w_VLAN_GROUP.keep K1q nin0) (F_code_w_INTERESTED_LABELS.keep K1q nin0) (F_code_w_RBRIDGE_CHANNELS.keep K1q nin0) (F_code_w_AFFINITY.keep K1q nin0) (F_code_w_LABEL_GROUP.keep K1q nin0) with hq | ⟨y0, hq, Ey0, Fy0⟩
    · rw [hq]
      show OFin p e below _ _ T2 (mkF m 37 #[.val (.int p0), .val (.int p1), .val (.int ((p1 &&& (31 : Int32)) - (4 : Int32))), .val .null, .val (F3 ((p1 &&& (31 : Int32)) - (4 : Int32)) w_NICKNAME w_TREES w_TREE_ROOT_IDS w_TREE_USE_IDS w_INTERESTED_VLANS w_TRILL_VERSION w_VLAN_GROUP w_INTERESTED_LABELS w_RBRIDGE_CHANNELS w_AFFINITY w_LABEL_GROUP)] [.null])
      refine OFin.st (fun t k => XS.ifnonnullNo X2.here hx rfl (hb hby at_37) rfl k) ?_
      show OFin p e below _ _ T2 (mkF m 40 #[.val (.int p0), .val (.int p1), .val (.int ((p1 &&& (31 : Int32)) - (4 : Int32))), .val .null, .val (F3 ((p1 &&& (31 : Int32)) - (4 : Int32)) w_NICKNAME w_TREES w_TREE_ROOT_IDS w_TREE_USE_IDS w_INTERESTED_VLANS w_TRILL_VERSION w_VLAN_GROUP w_INTERESTED_LABELS w_RBRIDGE_CHANNELS w_AFFINITY w_LABEL_GROUP)] [])
      refine OFin.st (fun t k => XS.iconst X2.here hx rfl (hb hby at_40) k) ?_
      show OFin p e below _ _ T2 (mkF m 41 #[.val (.int p0), .val (.int p1), .val (.int ((p1 &&& (31 : Int32)) - (4 : Int32))), .val .null, .val (F3 ((p1 &&& (31 : Int32)) - (4 : Int32)) w_NICKNAME w_TREES w_TREE_ROOT_IDS w_TREE_USE_IDS w_INTERESTED_VLANS w_TRILL_VERSION w_VLAN_GROUP w_INTERESTED_LABELS w_RBRIDGE_CHANNELS w_AFFINITY w_LABEL_GROUP)] [(.int (1 : Int32))])
      exact own_retN X2 hx Bd.returns Bd.notSynchronized (t := .boolean) (by simp) rfl (hb hby at_41) (by show Qrm0 Z p0 p1 kV w_NICKNAME w_TREES w_TREE_ROOT_IDS w_TREE_USE_IDS w_INTERESTED_VLANS w_TRILL_VERSION w_VLAN_GROUP w_INTERESTED_LABELS w_RBRIDGE_CHANNELS w_AFFINITY w_LABEL_GROUP w__VALUES h0 n0 _ T2.heap _; rw [e2]; exact ⟨rfl, N2, K1⟩) (own_endN (by decide) (by decide))
    · rw [hq]
      show OFin p e below _ _ T2 (mkF m 37 #[.val (.int p0), .val (.int p1), .val (.int ((p1 &&& (31 : Int32)) - (4 : Int32))), .val (.ref y0), .val (F3 ((p1 &&& (31 : Int32)) - (4 : Int32)) w_NICKNAME w_TREES w_TREE_ROOT_IDS w_TREE_USE_IDS w_INTERESTED_VLANS w_TRILL_VERSION w_VLAN_GROUP w_INTERESTED_LABELS w_RBRIDGE_CHANNELS w_AFFINITY w_LABEL_GROUP)] [(.ref y0)])
      refine OFin.st (fun t k => XS.ifnonnullYes X2.here hx rfl (pc0 := 37) (pc' := 42) rfl (hb hby at_37) rfl (by decide) (by decide) k) ?_
      show OFin p e below _ _ T2 (mkF m 42 #[.val (.int p0), .val (.int p1), .val (.int ((p1 &&& (31 : Int32)) - (4 : Int32))), .val (.ref y0), .val (F3 ((p1 &&& (31 : Int32)) - (4 : Int32)) w_NICKNAME w_TREES w_TREE_ROOT_IDS w_TREE_USE_IDS w_INTERESTED_VLANS w_TRILL_VERSION w_VLAN_GROUP w_INTERESTED_LABELS w_RBRIDGE_CHANNELS w_AFFINITY w_LABEL_GROUP)] [])
      refine OFin.st (fun t k => XS.aloadN X2.here hx rfl (hb hby at_42) rfl rfl k) ?_
      show OFin p e below _ _ T2 (mkF m 43 #[.val (.int p0), .val (.int p1), .val (.int ((p1 &&& (31 : Int32)) - (4 : Int32))), .val (.ref y0), .val (F3 ((p1 &&& (31 : Int32)) - (4 : Int32)) w_NICKNAME w_TREES w_TREE_ROOT_IDS w_TREE_USE_IDS w_INTERESTED_VLANS w_TRILL_VERSION w_VLAN_GROUP w_INTERESTED_LABELS w_RBRIDGE_CHANNELS w_AFFINITY w_LABEL_GROUP)] [(.ref y0)])
      obtain ⟨cq3, kq3, q3a, q3b, q3c⟩ := isOf hZ e2 Ey0
      obtain ⟨_, _, ⟨T3, L3, k3, n3⟩, -, X3, ⟨Lc3, hQ3, l3, y3, z3⟩, st3⟩ := X2.virtualBack hx (y := (⟨"com/example/weftline/weftline/codec/RouterCapabilitySubTlv", "code", "()I"⟩ : MethodName)) (z := (⟨"com/example/weftline/weftline/codec/RouterCapabilitySubTlv", "code", "()I"⟩ : MethodName)) hown (mvT hZ (hw _ (List.mem_of_getElem? (i := 37) rfl))) (mvT hZ (hw _ (List.mem_of_getElem? (i := 38) rfl))) (notFace_of_selects (args := #[]) (mvT hZ (hw _ (List.mem_of_getElem? (i := 40) rfl)))) (mvT hZ (hw _ (List.mem_of_getElem? (i := 40) rfl))) (mvT hZ (hw _ (List.mem_of_getElem? (i := 39) rfl))) (by decide) (backOf (W := 0) (rm4 l Z a0 hw [] y0 ((p1 &&& (31 : Int32)) - (4 : Int32)) T1.heap n0 O1 Fy0) hZ (hw _ (List.mem_of_getElem? (i := 41) rfl)) (hw _ (List.mem_of_getElem? (i := 2) rfl)) (by decide) (by decide)) q3a q3c (g := (mkF m 43 #[.val (.int p0), .val (.int p1), .val (.int ((p1 &&& (31 : Int32)) - (4 : Int32))), .val (.ref y0), .val (F3 ((p1 &&& (31 : Int32)) - (4 : Int32)) w_NICKNAME w_TREES w_TREE_ROOT_IDS w_TREE_USE_IDS w_INTERESTED_VLANS w_TRILL_VERSION w_VLAN_GROUP w_INTERESTED_LABELS w_RBRIDGE_CHANNELS w_AFFINITY w_LABEL_GROUP)] [(.ref y0)])) rfl (by rw [hml]; rfl) (Steps.refl _) (argsL := []) (rest := []) (lenOf pd_0 rfl) rfl (by show 2 * 0 + _ ≤ _; exact Nat.le_of_eq rfl) (hb hby at_43) (fun _ _ => ⟨rfl, e2, (by decide : 1 + 0 ≤ _), (by decide : 11 + 0 ≤ _)⟩)
      dsimp only [Pt.U, Pt.locs, Pt.cells, Pt.slots] at X3 l3 y3 z3 st3 hQ3
      subst l3 y3 z3
      obtain ⟨rfl, N3q, e3⟩ := hQ3
      have N3 := Fr.app N2 N3q
      refine OFin.tr st3 ?_
      show OFin p e below _ _ T3 (mkF m 46 #[.val (.int p0), .val (.int p1), .val (.int ((p1 &&& (31 : Int32)) - (4 : Int32))), .val (.ref y0), .val (F3 ((p1 &&& (31 : Int32)) - (4 : Int32)) w_NICKNAME w_TREES w_TREE_ROOT_IDS w_TREE_USE_IDS w_INTERESTED_VLANS w_TRILL_VERSION w_VLAN_GROUP w_INTERESTED_LABELS w_RBRIDGE_CHANNELS w_AFFINITY w_LABEL_GROUP)] [(.int (F4 y0 ((p1 &&& (31 : Int32)) - (4 : Int32))))])
      refine OFin.st (fun t k => XS.iloadN X3.here hx rfl (hb hby at_46) rfl k) ?_
      show OFin p e below _ _ T3 (mkF m 47 #[.val (.int p0), .val (.int p1), .val (.int ((p1 &&& (31 : Int32)) - (4 : Int32))), .val (.ref y0), .val (F3 ((p1 &&& (31 : Int32)) - (4 : Int32)) w_NICKNAME w_TREES w_TREE_ROOT_IDS w_TREE_USE_IDS w_INTERESTED_VLANS w_TRILL_VERSION w_VLAN_GROUP w_INTERESTED_LABELS w_RBRIDGE_CHANNELS w_AFFINITY w_LABEL_GROUP)] [(.int ((p1 &&& (31 : Int32)) - (4 : Int32))), (.int (F4 y0 ((p1 &&& (31 : Int32)) - (4 : Int32))))])
      refine OFin.st (fun t k => XS.icmpNo X3.here hx rfl (hb hby at_47) rfl (teq (by simp only [F4])).2 k) ?_
      show OFin p e below _ _ T3 (mkF m 50 #[.val (.int p0), .val (.int p1), .val (.int ((p1 &&& (31 : Int32)) - (4 : Int32))), .val (.ref y0), .val (F3 ((p1 &&& (31 : Int32)) - (4 : Int32)) w_NICKNAME w_TREES w_TREE_ROOT_IDS w_TREE_USE_IDS w_INTERESTED_VLANS w_TRILL_VERSION w_VLAN_GROUP w_INTERESTED_LABELS w_RBRIDGE_CHANNELS w_AFFINITY w_LABEL_GROUP)] [])
      refine OFin.st (fun t k => XS.iconst X3.here hx rfl (hb hby at_50) k) ?_
      show OFin p e below _ _ T3 (mkF m 51 #[.val (.int p0), .val (.int p1), .val (.int ((p1 &&& (31 : Int32)) - (4 : Int32))), .val (.ref y0), .val (F3 ((p1 &&& (31 : Int32)) - (4 : Int32)) w_NICKNAME w_TREES w_TREE_ROOT_IDS w_TREE_USE_IDS w_INTERESTED_VLANS w_TRILL_VERSION w_VLAN_GROUP w_INTERESTED_LABELS w_RBRIDGE_CHANNELS w_AFFINITY w_LABEL_GROUP)] [(.int (1 : Int32))])
      refine OFin.st (fun t k => XS.goto X3.here hx rfl (pc0 := 51) (pc' := 55) rfl (hb hby at_51) (by decide) (by decide) k) ?_
      show OFin p e below _ _ T3 (mkF m 55 #[.val (.int p0), .val (.int p1), .val (.int ((p1 &&& (31 : Int32)) - (4 : Int32))), .val (.ref y0), .val (F3 ((p1 &&& (31 : Int32)) - (4 : Int32)) w_NICKNAME w_TREES w_TREE_ROOT_IDS w_TREE_USE_IDS w_INTERESTED_VLANS w_TRILL_VERSION w_VLAN_GROUP w_INTERESTED_LABELS w_RBRIDGE_CHANNELS w_AFFINITY w_LABEL_GROUP)] [(.int (1 : Int32))])
      exact own_retN X3 hx Bd.returns Bd.notSynchronized (t := .boolean) (by simp) rfl (hb hby at_55) (by show Qrm0 Z p0 p1 kV w_NICKNAME w_TREES w_TREE_ROOT_IDS w_TREE_USE_IDS w_INTERESTED_VLANS w_TRILL_VERSION w_VLAN_GROUP w_INTERESTED_LABELS w_RBRIDGE_CHANNELS w_AFFINITY w_LABEL_GROUP w__VALUES h0 n0 _ T3.heap _; rw [e3]; exact ⟨rfl, N3, K1⟩) (own_endN (by decide) (by decide))
  · refine OFin.st (fun t k => XS.ifNo X0.here hx rfl (hb hby at_3) rfl ((if0 _ _).trans (feq hc3).1) k) ?_
    show OFin p e below _ _ s₁ (mkF m 6 #[.val (.int p0), .val (.int p1), .unset, .unset, .unset] [])
    refine OFin.st (fun t k => XS.iloadN X0.here hx rfl (hb hby at_6) rfl k) ?_
    show OFin p e below _ _ s₁ (mkF m 7 #[.val (.int p0), .val (.int p1), .unset, .unset, .unset] [(.int p1)])
    refine OFin.st (fun t k => XS.goto X0.here hx rfl (pc0 := 7) (pc' := 16) rfl (hb hby at_7) (by decide) (by decide) k) ?_
    show OFin p e below _ _ s₁ (mkF m 16 #[.val (.int p0), .val (.int p1), .unset, .unset, .unset] [(.int p1)])
    refine OFin.st (fun t k => XS.istoreN X0.here hx rfl (hb hby at_16) rfl (l' := #[.val (.int p0), .val (.int p1), .val (.int p1), .unset, .unset]) rfl k) ?_
    show OFin p e below _ _ s₁ (mkF m 17 #[.val (.int p0), .val (.int p1), .val (.int p1), .unset, .unset] [])
    refine OFin.st (fun t k => XS.iloadN X0.here hx rfl (hb hby at_17) rfl k) ?_
    show OFin p e below _ _ s₁ (mkF m 18 #[.val (.int p0), .val (.int p1), .val (.int p1), .unset, .unset] [(.int p1)])
    obtain ⟨_, _, ⟨T4, L4, k4, n4⟩, -, X4, ⟨Lc4, hQ4, l4, y4, z4⟩, st4⟩ := Jvm.LawKit.callS X0 hx (y := (⟨"com/example/weftline/weftline/codec/RouterCapabilitySubTlv", "ofCode", "(I)Lcom/example/weftline/weftline/codec/RouterCapabilitySubTlv;"⟩ : MethodName)) hown (mvT hZ (hw _ (List.mem_of_getElem? (i := 0) rfl))) (mvT hZ (hw _ (List.mem_of_getElem? (i := 1) rfl))) (mvT hZ (hw _ (List.mem_of_getElem? (i := 2) rfl))) (mvT hZ (hw _ (List.mem_of_getElem? (i := 3) rfl))) (by decide) (backOf (W := 0) (rm1 l Z a0 hw [] p1 w_NICKNAME w_TREES w_TREE_ROOT_IDS w_TREE_USE_IDS w_INTERESTED_VLANS w_TRILL_VERSION w_VLAN_GROUP w_INTERESTED_LABELS w_RBRIDGE_CHANNELS w_AFFINITY w_LABEL_GROUP kV w__VALUES h0 n0 O0 A_w__VALUES E_w__VALUES F_code_w_NICKNAME F_code_w_TREES F_code_w_TREE_ROOT_IDS F_code_w_TREE_USE_IDS F_code_w_INTERESTED_VLANS F_code_w_TRILL_VERSION F_code_w_VLAN_GROUP F_code_w_INTERESTED_LABELS F_code_w_RBRIDGE_CHANNELS F_code_w_AFFINITY F_code_w_LABEL_GROUP S__VALUES) hZ (hw _ (List.mem_of_getElem? (i := 3) rfl)) (hw _ (List.mem_of_getElem? (i := 2) rfl)) (by decide) (by decide)) (g := (mkF m 18 #[.val (.int p0), .val (.int p1), .val (.int p1), .unset, .unset] [(.int p1)])) rfl (by rw [hml]; rfl) (argsL := [(.int p1)]) (rest := []) (lenOf pd_3 rfl) rfl (by show 2 * 0 + _ ≤ _; exact Nat.le_of_eq rfl) (hb hby at_18) (fun _ _ => ⟨rfl, e0, (by decide : 0 + 1 ≤ _), (by decide : 0 + 11 ≤ _)⟩)
    dsimp only [Pt.U, Pt.locs, Pt.cells, Pt.slots] at X4 l4 y4 z4 st4 hQ4
    subst l4 y4 z4
    obtain ⟨rfl, N4q, K4q⟩ := hQ4
    have N4 := Fr.app N0 N4q
    have K4 : Keep h0 T4.heap [] := (Keep.refl h0 []).trans K4q all0
    have O4 : Old Z n0 T4.heap := O0.keep K4q all0
    refine OFin.st st4 ?_
    show OFin p e below _ _ T4 (mkF m 21 #[.val (.int p0), .val (.int p1), .val (.int p1), .unset, .unset] [(F1 p1 w_NICKNAME w_TREES w_TREE_ROOT_IDS w_TREE_USE_IDS w_INTERESTED_VLANS w_TRILL_VERSION w_VLAN_GROUP w_INTERESTED_LABELS w_RBRIDGE_CHANNELS w_AFFINITY w_LABEL_GROUP)])
    refine OFin.st (fun t k => XS.astoreN X4.here hx rfl (hb hby at_21) rfl (own_F1r p1 w_NICKNAME w_TREES w_TREE_ROOT_IDS w_TREE_USE_IDS w_INTERESTED_VLANS w_TRILL_VERSION w_VLAN_GROUP w_INTERESTED_LABELS w_RBRIDGE_CHANNELS w_AFFINITY w_LABEL_GROUP) (l' := #[.val (.int p0), .val (.int p1), .val (.int p1), .val (F1 p1 w_NICKNAME w_TREES w_TREE_ROOT_IDS w_TREE_USE_IDS w_INTERESTED_VLANS w_TRILL_VERSION w_VLAN_GROUP w_INTERESTED_LABELS w_RBRIDGE_CHANNELS w_AFFINITY w_LABEL_GROUP), .unset]) (XS.store1 rfl (by first | exact Or.inl rfl | exact Or.inr ⟨_, rfl, rfl⟩) (own_cat1 (own_F1r p1 w_NICKNAME w_TREES w_TREE_ROOT_IDS w_TREE_USE_IDS w_INTERESTED_VLANS w_TRILL_VERSION w_VLAN_GROUP w_INTERESTED_LABELS w_RBRIDGE_CHANNELS w_AFFINITY w_LABEL_GROUP))) k) ?_
    show OFin p e below _ _ T4 (mkF m 22 #[.val (.int p0), .val (.int p1), .val (.int p1), .val (F1 p1 w_NICKNAME w_TREES w_TREE_ROOT_IDS w_TREE_USE_IDS w_INTERESTED_VLANS w_TRILL_VERSION w_VLAN_GROUP w_INTERESTED_LABELS w_RBRIDGE_CHANNELS w_AFFINITY w_LABEL_GROUP), .unset] [])
    refine OFin.st (fun t k => XS.iloadN X4.here hx rfl (hb hby at_22) rfl k) ?_
    show OFin p e below _ _ T4 (mkF m 23 #[.val (.int p0), .val (.int p1), .val (.int p1), .val (F1 p1 w_NICKNAME w_TREES w_TREE_ROOT_IDS w_TREE_USE_IDS w_INTERESTED_VLANS w_TRILL_VERSION w_VLAN_GROUP w_INTERESTED_LABELS w_RBRIDGE_CHANNELS w_AFFINITY w_LABEL_GROUP), .unset] [(.int p1)])
    obtain ⟨_, _, ⟨T5, L5, k5, n5⟩, -, X5, ⟨Lc5, hQ5, l5, y5, z5⟩, st5⟩ := Jvm.LawKit.callS X4 hx (y := (⟨"com/example/weftline/weftline/codec/RouterCapabilitySubTlvOfCodePinLaw", "expected", "(I)Lcom/example/weftline/weftline/codec/RouterCapabilitySubTlv;"⟩ : MethodName)) hown (mvT hZ (hw _ (List.mem_of_getElem? (i := 32) rfl))) (mvT hZ (hw _ (List.mem_of_getElem? (i := 33) rfl))) (mvT hZ (hw _ (List.mem_of_getElem? (i := 34) rfl))) (mvT hZ (hw _ (List.mem_of_getElem? (i := 35) rfl))) (by decide) (backOf (W := 0) (rm3 l Z a0 hw [] p1 w_NICKNAME w_TREES w_TREE_ROOT_IDS w_TREE_USE_IDS w_INTERESTED_VLANS w_TRILL_VERSION w_VLAN_GROUP w_INTERESTED_LABELS w_RBRIDGE_CHANNELS w_AFFINITY w_LABEL_GROUP T4.heap n0 O4 S_NICKNAME S_TREES S_TREE_ROOT_IDS S_TREE_USE_IDS S_INTERESTED_VLANS S_TRILL_VERSION S_VLAN_GROUP S_INTERESTED_LABELS S_RBRIDGE_CHANNELS S_AFFINITY S_LABEL_GROUP) hZ (hw _ (List.mem_of_getElem? (i := 35) rfl)) (hw _ (List.mem_of_getElem? (i := 34) rfl)) (by decide) (by decide)) (g := (mkF m 23 #[.val (.int p0), .val (.int p1), .val (.int p1), .val (F1 p1 w_NICKNAME w_TREES w_TREE_ROOT_IDS w_TREE_USE_IDS w_INTERESTED_VLANS w_TRILL_VERSION w_VLAN_GROUP w_INTERESTED_LABELS w_RBRIDGE_CHANNELS w_AFFINITY w_LABEL_GROUP), .unset] [(.int p1)])) rfl (by rw [hml]; rfl) (argsL := [(.int p1)]) (rest := []) (lenOf pd_3 rfl) rfl (by show 2 * 0 + _ ≤ _; exact Nat.le_of_eq rfl) (hb hby at_23) (fun _ _ => ⟨rfl, rfl, (by decide : 1 + 0 ≤ _), (by decide : 11 + 0 ≤ _)⟩)
    dsimp only [Pt.U, Pt.locs, Pt.cells, Pt.slots] at X5 l5 y5 z5 st5 hQ5
    subst l5 y5 z5
    obtain ⟨rfl, N5q, e5⟩ := hQ5
    have N5 := Fr.app N4 N5q
    refine OFin.st st5 ?_
    show OFin p e below _ _ T5 (mkF m 26 #[.val (.int p0), .val (.int p1), .val (.int p1), .val (F1 p1 w_NICKNAME w_TREES w_TREE_ROOT_IDS w_TREE_USE_IDS w_INTERESTED_VLANS w_TRILL_VERSION w_VLAN_GROUP w_INTERESTED_LABELS w_RBRIDGE_CHANNELS w_AFFINITY w_LABEL_GROUP), .unset] [(F3 p1 w_NICKNAME w_TREES w_TREE_ROOT_IDS w_TREE_USE_IDS w_INTERESTED_VLANS w_TRILL_VERSION w_VLAN_GROUP w_INTERESTED_LABELS w_RBRIDGE_CHANNELS w_AFFINITY w_LABEL_GROUP)])
    refine OFin.st (fun t k => XS.astore X5.here hx rfl (hb hby at_26) rfl (own_F3r p1 w_NICKNAME w_TREES w_TREE_ROOT_IDS w_TREE_USE_IDS w_INTERESTED_VLANS w_TRILL_VERSION w_VLAN_GROUP w_INTERESTED_LABELS w_RBRIDGE_CHANNELS w_AFFINITY w_LABEL_GROUP) (l' := #[.val (.int p0), .val (.int p1), .val (.int p1), .val (F1 p1 w_NICKNAME w_TREES w_TREE_ROOT_IDS w_TREE_USE_IDS w_INTERESTED_VLANS w_TRILL_VERSION w_VLAN_GROUP w_INTERESTED_LABELS w_RBRIDGE_CHANNELS w_AFFINITY w_LABEL_GROUP), .val (F3 p1 w_NICKNAME w_TREES w_TREE_ROOT_IDS w_TREE_USE_IDS w_INTERESTED_VLANS w_TRILL_VERSION w_VLAN_GROUP w_INTERESTED_LABELS w_RBRIDGE_CHANNELS w_AFFINITY w_LABEL_GROUP)]) (XS.store1 rfl (by first | exact Or.inl rfl | exact Or.inr ⟨_, rfl, rfl⟩) (own_cat1 (own_F3r p1 w_NICKNAME w_TREES w_TREE_ROOT_IDS w_TREE_USE_IDS w_INTERESTED_VLANS w_TRILL_VERSION w_VLAN_GROUP w_INTERESTED_LABELS w_RBRIDGE_CHANNELS w_AFFINITY w_LABEL_GROUP))) k) ?_
    show OFin p e below _ _ T5 (mkF m 28 #[.val (.int p0), .val (.int p1), .val (.int p1), .val (F1 p1 w_NICKNAME w_TREES w_TREE_ROOT_IDS w_TREE_USE_IDS w_INTERESTED_VLANS w_TRILL_VERSION w_VLAN_GROUP w_INTERESTED_LABELS w_RBRIDGE_CHANNELS w_AFFINITY w_LABEL_GROUP), .val (F3 p1 w_NICKNAME w_TREES w_TREE_ROOT_IDS w_TREE_USE_IDS w_INTERESTED_VLANS w_TRILL_VERSION w_VLAN_GROUP w_INTERESTED_LABELS w_RBRIDGE_CHANNELS w_AFFINITY w_LABEL_GROUP)] [])
    refine OFin.st (fun t k => XS.aloadN X5.here hx rfl (hb hby at_28) rfl (own_F1r p1 w_NICKNAME w_TREES w_TREE_ROOT_IDS w_TREE_USE_IDS w_INTERESTED_VLANS w_TRILL_VERSION w_VLAN_GROUP w_INTERESTED_LABELS w_RBRIDGE_CHANNELS w_AFFINITY w_LABEL_GROUP) k) ?_
    show OFin p e below _ _ T5 (mkF m 29 #[.val (.int p0), .val (.int p1), .val (.int p1), .val (F1 p1 w_NICKNAME w_TREES w_TREE_ROOT_IDS w_TREE_USE_IDS w_INTERESTED_VLANS w_TRILL_VERSION w_VLAN_GROUP w_INTERESTED_LABELS w_RBRIDGE_CHANNELS w_AFFINITY w_LABEL_GROUP), .val (F3 p1 w_NICKNAME w_TREES w_TREE_ROOT_IDS w_TREE_USE_IDS w_INTERESTED_VLANS w_TRILL_VERSION w_VLAN_GROUP w_INTERESTED_LABELS w_RBRIDGE_CHANNELS w_AFFINITY w_LABEL_GROUP)] [(F1 p1 w_NICKNAME w_TREES w_TREE_ROOT_IDS w_TREE_USE_IDS w_INTERESTED_VLANS w_TRILL_VERSION w_VLAN_GROUP w_INTERESTED_LABELS w_RBRIDGE_CHANNELS w_AFFINITY w_LABEL_GROUP)])
    refine OFin.st (fun t k => XS.aload X5.here hx rfl (hb hby at_29) rfl (own_F3r p1 w_NICKNAME w_TREES w_TREE_ROOT_IDS w_TREE_USE_IDS w_INTERESTED_VLANS w_TRILL_VERSION w_VLAN_GROUP w_INTERESTED_LABELS w_RBRIDGE_CHANNELS w_AFFINITY w_LABEL_GROUP) k) ?_
    show OFin p e below _ _ T5 (mkF m 31 #[.val (.int p0), .val (.int p1), .val (.int p1), .val (F1 p1 w_NICKNAME w_TREES w_TREE_ROOT_IDS w_TREE_USE_IDS w_INTERESTED_VLANS w_TRILL_VERSION w_VLAN_GROUP w_INTERESTED_LABELS w_RBRIDGE_CHANNELS w_AFFINITY w_LABEL_GROUP), .val (F3 p1 w_NICKNAME w_TREES w_TREE_ROOT_IDS w_TREE_USE_IDS w_INTERESTED_VLANS w_TRILL_VERSION w_VLAN_GROUP w_INTERESTED_LABELS w_RBRIDGE_CHANNELS w_AFFINITY w_LABEL_GROUP)] [(F3 p1 w_NICKNAME w_TREES w_TREE_ROOT_IDS w_TREE_USE_IDS w_INTERESTED_VLANS w_TRILL_VERSION w_VLAN_GROUP w_INTERESTED_LABELS w_RBRIDGE_CHANNELS w_AFFINITY w_LABEL_GROUP), (F1 p1 w_NICKNAME w_TREES w_TREE_ROOT_IDS w_TREE_USE_IDS w_INTERESTED_VLANS w_TRILL_VERSION w_VLAN_GROUP w_INTERESTED_LABELS w_RBRIDGE_CHANNELS w_AFFINITY w_LABEL_GROUP)])
    refine OFin.st (fun t k => Jvm.RoadKit.acmp (g := (mkF m 31 #[.val (.int p0), .val (.int p1), .val (.int p1), .val (F1 p1 w_NICKNAME w_TREES w_TREE_ROOT_IDS w_TREE_USE_IDS w_INTERESTED_VLANS w_TRILL_VERSION w_VLAN_GROUP w_INTERESTED_LABELS w_RBRIDGE_CHANNELS w_AFFINITY w_LABEL_GROUP), .val (F3 p1 w_NICKNAME w_TREES w_TREE_ROOT_IDS w_TREE_USE_IDS w_INTERESTED_VLANS w_TRILL_VERSION w_VLAN_GROUP w_INTERESTED_LABELS w_RBRIDGE_CHANNELS w_AFFINITY w_LABEL_GROUP)] [(F3 p1 w_NICKNAME w_TREES w_TREE_ROOT_IDS w_TREE_USE_IDS w_INTERESTED_VLANS w_TRILL_VERSION w_VLAN_GROUP w_INTERESTED_LABELS w_RBRIDGE_CHANNELS w_AFFINITY w_LABEL_GROUP), (F1 p1 w_NICKNAME w_TREES w_TREE_ROOT_IDS w_TREE_USE_IDS w_INTERESTED_VLANS w_TRILL_VERSION w_VLAN_GROUP w_INTERESTED_LABELS w_RBRIDGE_CHANNELS w_AFFINITY w_LABEL_GROUP)])) X5 hx rfl (own_F1r p1 w_NICKNAME w_TREES w_TREE_ROOT_IDS w_TREE_USE_IDS w_INTERESTED_VLANS w_TRILL_VERSION w_VLAN_GROUP w_INTERESTED_LABELS w_RBRIDGE_CHANNELS w_AFFINITY w_LABEL_GROUP) (own_F3r p1 w_NICKNAME w_TREES w_TREE_ROOT_IDS w_TREE_USE_IDS w_INTERESTED_VLANS w_TRILL_VERSION w_VLAN_GROUP w_INTERESTED_LABELS w_RBRIDGE_CHANNELS w_AFFINITY w_LABEL_GROUP) (pc0 := 31) (pc' := 36) (same := true) rfl (hb hby at_31) rfl (decide_eq_true (own_same p1 w_NICKNAME w_TREES w_TREE_ROOT_IDS w_TREE_USE_IDS w_INTERESTED_VLANS w_TRILL_VERSION w_VLAN_GROUP w_INTERESTED_LABELS w_RBRIDGE_CHANNELS w_AFFINITY w_LABEL_GROUP)) (by decide) (by decide) k) ?_
    show OFin p e below _ _ T5 (mkF m 36 #[.val (.int p0), .val (.int p1), .val (.int p1), .val (F1 p1 w_NICKNAME w_TREES w_TREE_ROOT_IDS w_TREE_USE_IDS w_INTERESTED_VLANS w_TRILL_VERSION w_VLAN_GROUP w_INTERESTED_LABELS w_RBRIDGE_CHANNELS w_AFFINITY w_LABEL_GROUP), .val (F3 p1 w_NICKNAME w_TREES w_TREE_ROOT_IDS w_TREE_USE_IDS w_INTERESTED_VLANS w_TRILL_VERSION w_VLAN_GROUP w_INTERESTED_LABELS w_RBRIDGE_CHANNELS w_AFFINITY w_LABEL_GROUP)] [])
    refine OFin.st (fun t k => XS.aloadN X5.here hx rfl (hb hby at_36) rfl (own_F1r p1 w_NICKNAME w_TREES w_TREE_ROOT_IDS w_TREE_USE_IDS w_INTERESTED_VLANS w_TRILL_VERSION w_VLAN_GROUP w_INTERESTED_LABELS w_RBRIDGE_CHANNELS w_AFFINITY w_LABEL_GROUP) k) ?_
    show OFin p e below _ _ T5 (mkF m 37 #[.val (.int p0), .val (.int p1), .val (.int p1), .val (F1 p1 w_NICKNAME w_TREES w_TREE_ROOT_IDS w_TREE_USE_IDS w_INTERESTED_VLANS w_TRILL_VERSION w_VLAN_GROUP w_INTERESTED_LABELS w_RBRIDGE_CHANNELS w_AFFINITY w_LABEL_GROUP), .val (F3 p1 w_NICKNAME w_TREES w_TREE_ROOT_IDS w_TREE_USE_IDS w_INTERESTED_VLANS w_TRILL_VERSION w_VLAN_GROUP w_INTERESTED_LABELS w_RBRIDGE_CHANNELS w_AFFINITY w_LABEL_GROUP)] [(F1 p1 w_NICKNAME w_TREES w_TREE_ROOT_IDS w_TREE_USE_IDS w_INTERESTED_VLANS w_TRILL_VERSION w_VLAN_GROUP w_INTERESTED_LABELS w_RBRIDGE_CHANNELS w_AFFINITY w_LABEL_GROUP)])
    rcases own_F1c p1 w_NICKNAME w_TREES w_TREE_ROOT_IDS w_TREE_USE_IDS w_INTERESTED_VLANS w_TRILL_VERSION w_VLAN_GROUP w_INTERESTED_LABELS w_RBRIDGE_CHANNELS w_AFFINITY w_LABEL_GROUP (E := fun y => Exa Z T4.heap y "com/example/weftline/weftline/codec/RouterCapabilitySubTlv") (G := fun y z => Fld Z T4.heap y "com/example/weftline/weftline/codec/RouterCapabilitySubTlv" "code" "I" (.int z)) (E_w_NICKNAME.keep K4q) (E_w_TREES.keep K4q) (E_w_TREE_ROOT_IDS.keep K4q) (E_w_TREE_USE_IDS.keep K4q) (E_w_INTERESTED_VLANS.keep K4q) (E_w_TRILL_VERSION.keep K4q) (E_w_VLAN_GROUP.keep K4q) (E_w_INTERESTED_LABELS.keep K4q) (E_w_RBRIDGE_CHANNELS.keep K4q) (E_w_AFFINITY.keep K4q) (E_w_LABEL_GROUP.keep K4q) (F_code_w_NICKNAME.keep K4q nin0) (F_code_w_TREES.keep K4q nin0) (F_code_w_TREE_ROOT_IDS.keep K4q nin0) (F_code_w_TREE_USE_IDS.keep K4q nin0) (F_code_w_INTERESTED_VLANS.keep K4q nin0) (F_code_w_TRILL_VERSION.keep K4q nin0) (F_code_w_VLAN_GROUP.keep K4q nin0) (F_code_w_INTERESTED_LABELS.keep K4q nin0) (F_code_w_RBRIDGE_CHANNELS.keep K4q nin0) (F_code_w_AFFINITY.keep K4q nin0) (F_code_w_LABEL_GROUP.keep K4q nin0) with hq | ⟨y0, hq, Ey0, Fy0⟩
    · rw [hq]
      show OFin p e below _ _ T5 (mkF m 37 #[.val (.int p0), .val (.int p1), .val (.int p1), .val .null, .val (F3 p1 w_NICKNAME w_TREES w_TREE_ROOT_IDS w_TREE_USE_IDS w_INTERESTED_VLANS w_TRILL_VERSION w_VLAN_GROUP w_INTERESTED_LABELS w_RBRIDGE_CHANNELS w_AFFINITY w_LABEL_GROUP)] [.null])
      refine OFin.st (fun t k => XS.ifnonnullNo X5.here hx rfl (hb hby at_37) rfl k) ?_
      show OFin p e below _ _ T5 (mkF m 40 #[.val (.int p0), .val (.int p1), .val (.int p1), .val .null, .val (F3 p1 w_NICKNAME w_TREES w_TREE_ROOT_IDS w_TREE_USE_IDS w_INTERESTED_VLANS w_TRILL_VERSION w_VLAN_GROUP w_INTERESTED_LABELS w_RBRIDGE_CHANNELS w_AFFINITY w_LABEL_GROUP)] [])
      refine OFin.st (fun t k => XS.iconst X5.here hx rfl (hb hby at_40) k) ?_
      show OFin p e below _ _ T5 (mkF m 41 #[.val (.int p0), .val (.int p1), .val (.int p1), .val .null, .val (F3 p1 w_NICKNAME w_TREES w_TREE_ROOT_IDS w_TREE_USE_IDS w_INTERESTED_VLANS w_TRILL_VERSION w_VLAN_GROUP w_INTERESTED_LABELS w_RBRIDGE_CHANNELS w_AFFINITY w_LABEL_GROUP)] [(.int (1 : Int32))])
      exact own_retN X5 hx Bd.returns Bd.notSynchronized (t := .boolean) (by simp) rfl (hb hby at_41) (by show Qrm0 Z p0 p1 kV w_NICKNAME w_TREES w_TREE_ROOT_IDS w_TREE_USE_IDS w_INTERESTED_VLANS w_TRILL_VERSION w_VLAN_GROUP w_INTERESTED_LABELS w_RBRIDGE_CHANNELS w_AFFINITY w_LABEL_GROUP w__VALUES h0 n0 _ T5.heap _; rw [e5]; exact ⟨rfl, N5, K4⟩) (own_endN (by decide) (by decide))
    · rw [hq]
      show OFin p e below _ _ T5 (mkF m 37 #[.val (.int p0), .val (.int p1), .val (.int p1), .val (.ref y0), .val (F3 p1 w_NICKNAME w_TREES w_TREE_ROOT_IDS w_TREE_USE_IDS w_INTERESTED_VLANS w_TRILL_VERSION w_VLAN_GROUP w_INTERESTED_LABELS w_RBRIDGE_CHANNELS w_AFFINITY w_LABEL_GROUP)] [(.ref y0)])
      refine OFin.st (fun t k => XS.ifnonnullYes X5.here hx rfl (pc0 := 37) (pc' := 42) rfl (hb hby at_37) rfl (by decide) (by decide) k) ?_
      show OFin p e below _ _ T5 (mkF m 42 #[.val (.int p0), .val (.int p1), .val (.int p1), .val (.ref y0), .val (F3 p1 w_NICKNAME w_TREES w_TREE_ROOT_IDS w_TREE_USE_IDS w_INTERESTED_VLANS w_TRILL_VERSION w_VLAN_GROUP w_INTERESTED_LABELS w_RBRIDGE_CHANNELS w_AFFINITY w_LABEL_GROUP)] [])
      refine OFin.st (fun t k => XS.aloadN X5.here hx rfl (hb hby at_42) rfl rfl k) ?_
      show OFin p e below _ _ T5 (mkF m 43 #[.val (.int p0), .val (.int p1), .val (.int p1), .val (.ref y0), .val (F3 p1 w_NICKNAME w_TREES w_TREE_ROOT_IDS w_TREE_USE_IDS w_INTERESTED_VLANS w_TRILL_VERSION w_VLAN_GROUP w_INTERESTED_LABELS w_RBRIDGE_CHANNELS w_AFFINITY w_LABEL_GROUP)] [(.ref y0)])
      obtain ⟨cq6, kq6, q6a, q6b, q6c⟩ := isOf hZ e5 Ey0
      obtain ⟨_, _, ⟨T6, L6, k6, n6⟩, -, X6, ⟨Lc6, hQ6, l6, y6, z6⟩, st6⟩ := X5.virtualBack hx (y := (⟨"com/example/weftline/weftline/codec/RouterCapabilitySubTlv", "code", "()I"⟩ : MethodName)) (z := (⟨"com/example/weftline/weftline/codec/RouterCapabilitySubTlv", "code", "()I"⟩ : MethodName)) hown (mvT hZ (hw _ (List.mem_of_getElem? (i := 37) rfl))) (mvT hZ (hw _ (List.mem_of_getElem? (i := 38) rfl))) (notFace_of_selects (args := #[]) (mvT hZ (hw _ (List.mem_of_getElem? (i := 40) rfl)))) (mvT hZ (hw _ (List.mem_of_getElem? (i := 40) rfl))) (mvT hZ (hw _ (List.mem_of_getElem? (i := 39) rfl))) (by decide) (backOf (W := 0) (rm4 l Z a0 hw [] y0 p1 T4.heap n0 O4 Fy0) hZ (hw _ (List.mem_of_getElem? (i := 41) rfl)) (hw _ (List.mem_of_getElem? (i := 2) rfl)) (by decide) (by decide)) q6a q6c (g := (mkF m 43 #[.val (.int p0), .val (.int p1), .val (.int p1), .val (.ref y0), .val (F3 p1 w_NICKNAME w_TREES w_TREE_ROOT_IDS w_TREE_USE_IDS w_INTERESTED_VLANS w_TRILL_VERSION w_VLAN_GROUP w_INTERESTED_LABELS w_RBRIDGE_CHANNELS w_AFFINITY w_LABEL_GROUP)] [(.ref y0)])) rfl (by rw [hml]; rfl) (Steps.refl _) (argsL := []) (rest := []) (lenOf pd_0 rfl) rfl (by show 2 * 0 + _ ≤ _; exact Nat.le_of_eq rfl) (hb hby at_43) (fun _ _ => ⟨rfl, e5, (by decide : 1 + 0 ≤ _), (by decide : 11 + 0 ≤ _)⟩)
      dsimp only [Pt.U, Pt.locs, Pt.cells, Pt.slots] at X6 l6 y6 z6 st6 hQ6
      subst l6 y6 z6
      obtain ⟨rfl, N6q, e6⟩ := hQ6
      have N6 := Fr.app N5 N6q
      refine OFin.tr st6 ?_
      show OFin p e below _ _ T6 (mkF m 46 #[.val (.int p0), .val (.int p1), .val (.int p1), .val (.ref y0), .val (F3 p1 w_NICKNAME w_TREES w_TREE_ROOT_IDS w_TREE_USE_IDS w_INTERESTED_VLANS w_TRILL_VERSION w_VLAN_GROUP w_INTERESTED_LABELS w_RBRIDGE_CHANNELS w_AFFINITY w_LABEL_GROUP)] [(.int (F4 y0 p1))])
      refine OFin.st (fun t k => XS.iloadN X6.here hx rfl (hb hby at_46) rfl k) ?_
      show OFin p e below _ _ T6 (mkF m 47 #[.val (.int p0), .val (.int p1), .val (.int p1), .val (.ref y0), .val (F3 p1 w_NICKNAME w_TREES w_TREE_ROOT_IDS w_TREE_USE_IDS w_INTERESTED_VLANS w_TRILL_VERSION w_VLAN_GROUP w_INTERESTED_LABELS w_RBRIDGE_CHANNELS w_AFFINITY w_LABEL_GROUP)] [(.int p1), (.int (F4 y0 p1))])
      refine OFin.st (fun t k => XS.icmpNo X6.here hx rfl (hb hby at_47) rfl (teq (by simp only [F4])).2 k) ?_
      show OFin p e below _ _ T6 (mkF m 50 #[.val (.int p0), .val (.int p1), .val (.int p1), .val (.ref y0), .val (F3 p1 w_NICKNAME w_TREES w_TREE_ROOT_IDS w_TREE_USE_IDS w_INTERESTED_VLANS w_TRILL_VERSION w_VLAN_GROUP w_INTERESTED_LABELS w_RBRIDGE_CHANNELS w_AFFINITY w_LABEL_GROUP)] [])
      refine OFin.st (fun t k => XS.iconst X6.here hx rfl (hb hby at_50) k) ?_
      show OFin p e below _ _ T6 (mkF m 51 #[.val (.int p0), .val (.int p1), .val (.int p1), .val (.ref y0), .val (F3 p1 w_NICKNAME w_TREES w_TREE_ROOT_IDS w_TREE_USE_IDS w_INTERESTED_VLANS w_TRILL_VERSION w_VLAN_GROUP w_INTERESTED_LABELS w_RBRIDGE_CHANNELS w_AFFINITY w_LABEL_GROUP)] [(.int (1 : Int32))])
      refine OFin.st (fun t k => XS.goto X6.here hx rfl (pc0 := 51) (pc' := 55) rfl (hb hby at_51) (by decide) (by decide) k) ?_
      show OFin p e below _ _ T6 (mkF m 55 #[.val (.int p0), .val (.int p1), .val (.int p1), .val (.ref y0), .val (F3 p1 w_NICKNAME w_TREES w_TREE_ROOT_IDS w_TREE_USE_IDS w_INTERESTED_VLANS w_TRILL_VERSION w_VLAN_GROUP w_INTERESTED_LABELS w_RBRIDGE_CHANNELS w_AFFINITY w_LABEL_GROUP)] [(.int (1 : Int32))])
      exact own_retN X6 hx Bd.returns Bd.notSynchronized (t := .boolean) (by simp) rfl (hb hby at_55) (by show Qrm0 Z p0 p1 kV w_NICKNAME w_TREES w_TREE_ROOT_IDS w_TREE_USE_IDS w_INTERESTED_VLANS w_TRILL_VERSION w_VLAN_GROUP w_INTERESTED_LABELS w_RBRIDGE_CHANNELS w_AFFINITY w_LABEL_GROUP w__VALUES h0 n0 _ T6.heap _; rw [e6]; exact ⟨rfl, N6, K4⟩) (own_endN (by decide) (by decide))
set_option maxRecDepth 65536 in
set_option maxHeartbeats 40000000 in
theorem comes_1 {Post : Tables → Env → Array Value → State → Outcome → State → Prop} (hpost : ∀ tb e args s v u, (limb_1_1.after args s (.returned v) u = true ∧ limb_1_2.after args s (.returned v) u = true ∧ True) → FrameEnd s (.returned v) u (Jvm.fieldLocs frame_1_writes args s ++ Jvm.arrayLocs frame_1_arrays args s ++ Jvm.staticLocs frame_1_statics s) 16 128 → Post tb e args s (.returned v) u) :
    ArmFor flags0 classFile x code maxLocals ret World_1 tables_1 room_1 Calls_1 rest_1 Pre_1 Post := by
  intro l hfl _ _ p e ha hc hk s m args below hf hA hF happ hP
  obtain ⟨hcalls, hrest, hpre⟩ := hP
  obtain ⟨-, -, -, hnamed, -, -, -, hat⟩ := (Spec.applies_iff hf).mp happ
  obtain ⟨hg, hn⟩ := and_e (Cond.before_iff.mp (show (Jvm.Cond.and given_1 narrow_1).before args s = true from hpre))
  obtain ⟨g1a, g1b⟩ := and_e hg
  obtain ⟨g2a, g2b⟩ := and_e g1b
  obtain ⟨c1a, c1b⟩ := and_e hn
  obtain ⟨c2a, c2b⟩ := and_e c1b
  obtain ⟨c3a, c3b⟩ := and_e c2b
  obtain ⟨c4a, c4b⟩ := and_e c3b
  obtain ⟨c5a, c5b⟩ := and_e c4b
  obtain ⟨c6a, c6b⟩ := and_e c5b
  obtain ⟨c7a, c7b⟩ := and_e c6b
  obtain ⟨c8a, c8b⟩ := and_e c7b
  obtain ⟨c9a, c9b⟩ := and_e c8b
  obtain ⟨c10a, c10b⟩ := and_e c9b
  obtain ⟨c11a, c11b⟩ := and_e c10b
  obtain ⟨c12a, c12b⟩ := and_e c11b
  obtain ⟨c13a, c13b⟩ := and_e c12b
  obtain ⟨c14a, c14b⟩ := and_e c13b
  obtain ⟨c15a, c15b⟩ := and_e c14b
  obtain ⟨c16a, c16b⟩ := and_e c15b
  obtain ⟨c17a, c17b⟩ := and_e c16b
  obtain ⟨c18a, c18b⟩ := and_e c17b
  obtain ⟨c19a, c19b⟩ := and_e c18b
  obtain ⟨c20a, c20b⟩ := and_e c19b
  obtain ⟨c21a, c21b⟩ := and_e c20b
  obtain ⟨c22a, c22b⟩ := and_e c21b
  obtain ⟨c23a, c23b⟩ := and_e c22b
  obtain ⟨c24a, c24b⟩ := and_e c23b
  obtain ⟨c25a, c25b⟩ := and_e c24b
  obtain ⟨c26a, c26b⟩ := and_e c25b
  obtain ⟨c27a, c27b⟩ := and_e c26b
  obtain ⟨c28a, c28b⟩ := and_e c27b
  obtain ⟨c29a, c29b⟩ := and_e c28b
  obtain ⟨c30a, c30b⟩ := and_e c29b
  obtain ⟨c31a, c31b⟩ := and_e c30b
  obtain ⟨c32a, c32b⟩ := and_e c31b
  obtain ⟨c33a, c33b⟩ := and_e c32b
  obtain ⟨c34a, c34b⟩ := and_e c33b
  obtain ⟨c35a, c35b⟩ := and_e c34b
  obtain ⟨w0, w1, rfl⟩ : ∃ w0 w1 : Value, args = #[w0, w1] := by
    have hs : args.size = 2 := by simpa [Cond.value, given_1] using g1a
    obtain ⟨L⟩ := args
    match L, hs with
    | [w0, w1], _ => exact ⟨w0, w1, rfl⟩
  have hw := fun d (hd : d ∈ tables_1) => atoms_spec (ws := Jvm.Cond.code x code maxLocals ret :: tables_1) hat d (List.mem_cons_of_mem _ hd)
  have hfit : Fit s := fun {y c} hc i hi => by
    obtain ⟨ha, rfl⟩ := Array.getElem?_eq_some_iff.mp hc
    have q := List.all_eq_true.mp ((Array.all_eq_true_iff_forall_mem.mp hF) _ (Array.getElem_mem ha)) i (List.mem_range.mpr hi)
    simpa [Array.getElem?_eq_getElem hi] using q
  obtain ⟨i0, ei0⟩ := is_v g2a
  obtain rfl : w0 = (.int i0) := Option.some.inj ei0
  obtain ⟨i1, ei1⟩ := is_v g2b
  obtain rfl : w1 = (.int i1) := Option.some.inj ei1
  obtain ⟨w__VALUES, ev__VALUES⟩ := exa_v c2a
  have E_w__VALUES := Exa.start ev__VALUES c2a
  have S__VALUES := Sta.start ev__VALUES (Or.inr ⟨(hw _ (List.mem_of_getElem? (i := 2) rfl)), (hw _ (List.mem_of_getElem? (i := 8) rfl))⟩)
  obtain ⟨w_NICKNAME, ev_NICKNAME⟩ := exa_v c4a
  have E_w_NICKNAME := Exa.start ev_NICKNAME c4a
  have S_NICKNAME := Sta.start ev_NICKNAME (Or.inr ⟨(hw _ (List.mem_of_getElem? (i := 2) rfl)), (hw _ (List.mem_of_getElem? (i := 16) rfl))⟩)
  obtain ⟨w_TREES, ev_TREES⟩ := exa_v c6a
  have E_w_TREES := Exa.start ev_TREES c6a
  have S_TREES := Sta.start ev_TREES (Or.inr ⟨(hw _ (List.mem_of_getElem? (i := 2) rfl)), (hw _ (List.mem_of_getElem? (i := 17) rfl))⟩)
  obtain ⟨w_TREE_ROOT_IDS, ev_TREE_ROOT_IDS⟩ := exa_v c8a
  have E_w_TREE_ROOT_IDS := Exa.start ev_TREE_ROOT_IDS c8a
  have S_TREE_ROOT_IDS := Sta.start ev_TREE_ROOT_IDS (Or.inr ⟨(hw _ (List.mem_of_getElem? (i := 2) rfl)), (hw _ (List.mem_of_getElem? (i := 18) rfl))⟩)
  obtain ⟨w_TREE_USE_IDS, ev_TREE_USE_IDS⟩ := exa_v c10a
  have E_w_TREE_USE_IDS := Exa.start ev_TREE_USE_IDS c10a
  have S_TREE_USE_IDS := Sta.start ev_TREE_USE_IDS (Or.inr ⟨(hw _ (List.mem_of_getElem? (i := 2) rfl)), (hw _ (List.mem_of_getElem? (i := 19) rfl))⟩)
  obtain ⟨w_INTERESTED_VLANS, ev_INTERESTED_VLANS⟩ := exa_v c12a
  have E_w_INTERESTED_VLANS := Exa.start ev_INTERESTED_VLANS c12a
  have S_INTERESTED_VLANS := Sta.start ev_INTERESTED_VLANS (Or.inr ⟨(hw _ (List.mem_of_getElem? (i := 2) rfl)), (hw _ (List.mem_of_getElem? (i := 20) rfl))⟩)
  obtain ⟨w_TRILL_VERSION, ev_TRILL_VERSION⟩ := exa_v c14a
  have E_w_TRILL_VERSION := Exa.start ev_TRILL_VERSION c14a
  have S_TRILL_VERSION := Sta.start ev_TRILL_VERSION (Or.inr ⟨(hw _ (List.mem_of_getElem? (i := 2) rfl)), (hw _ (List.mem_of_getElem? (i := 21) rfl))⟩)
  obtain ⟨w_VLAN_GROUP, ev_VLAN_GROUP⟩ := exa_v c16a
  have E_w_VLAN_GROUP := Exa.start ev_VLAN_GROUP c16a
  have S_VLAN_GROUP := Sta.start ev_VLAN_GROUP (Or.inr ⟨(hw _ (List.mem_of_getElem? (i := 2) rfl)), (hw _ (List.mem_of_getElem? (i := 22) rfl))⟩)
  obtain ⟨w_INTERESTED_LABELS, ev_INTERESTED_LABELS⟩ := exa_v c18a
  have E_w_INTERESTED_LABELS := Exa.start ev_INTERESTED_LABELS c18a
  have S_INTERESTED_LABELS := Sta.start ev_INTERESTED_LABELS (Or.inr ⟨(hw _ (List.mem_of_getElem? (i := 2) rfl)), (hw _ (List.mem_of_getElem? (i := 23) rfl))⟩)
  obtain ⟨w_RBRIDGE_CHANNELS, ev_RBRIDGE_CHANNELS⟩ := exa_v c20a
  have E_w_RBRIDGE_CHANNELS := Exa.start ev_RBRIDGE_CHANNELS c20a
  have S_RBRIDGE_CHANNELS := Sta.start ev_RBRIDGE_CHANNELS (Or.inr ⟨(hw _ (List.mem_of_getElem? (i := 2) rfl)), (hw _ (List.mem_of_getElem? (i := 24) rfl))⟩)
  obtain ⟨w_AFFINITY, ev_AFFINITY⟩ := exa_v c22a
  have E_w_AFFINITY := Exa.start ev_AFFINITY c22a
  have S_AFFINITY := Sta.start ev_AFFINITY (Or.inr ⟨(hw _ (List.mem_of_getElem? (i := 2) rfl)), (hw _ (List.mem_of_getElem? (i := 25) rfl))⟩)
  obtain ⟨w_LABEL_GROUP, ev_LABEL_GROUP⟩ := exa_v c24a
  have E_w_LABEL_GROUP := Exa.start ev_LABEL_GROUP c24a
  have S_LABEL_GROUP := Sta.start ev_LABEL_GROUP (Or.inr ⟨(hw _ (List.mem_of_getElem? (i := 2) rfl)), (hw _ (List.mem_of_getElem? (i := 26) rfl))⟩)
  have F_code_w_NICKNAME := own_fldI ev_NICKNAME c26a
  have F_code_w_TREES := own_fldI ev_TREES c27a
  have F_code_w_TREE_ROOT_IDS := own_fldI ev_TREE_ROOT_IDS c28a
  have F_code_w_TREE_USE_IDS := own_fldI ev_TREE_USE_IDS c29a
  have F_code_w_INTERESTED_VLANS := own_fldI ev_INTERESTED_VLANS c30a
  have F_code_w_TRILL_VERSION := own_fldI ev_TRILL_VERSION c31a
  have F_code_w_VLAN_GROUP := own_fldI ev_VLAN_GROUP c32a
  have F_code_w_INTERESTED_LABELS := own_fldI ev_INTERESTED_LABELS c33a
  have F_code_w_RBRIDGE_CHANNELS := own_fldI ev_RBRIDGE_CHANNELS c34a
  have F_code_w_AFFINITY := own_fldI ev_AFFINITY c35a
  have F_code_w_LABEL_GROUP := own_fldI ev_LABEL_GROUP c35b
  have hel : ∀ (j : Nat) (hj : j < ([(.ref w_NICKNAME), (.ref w_TREES), (.ref w_TREE_ROOT_IDS), (.ref w_TREE_USE_IDS), (.ref w_INTERESTED_VLANS), (.ref w_TRILL_VERSION), (.ref w_VLAN_GROUP), (.ref w_INTERESTED_LABELS), (.ref w_RBRIDGE_CHANNELS), (.ref w_AFFINITY), (.ref w_LABEL_GROUP)] : List Value).length) , (Term.elem (Term.static "com/example/weftline/weftline/codec/RouterCapabilitySubTlv" "$VALUES" "[Lcom/example/weftline/weftline/codec/RouterCapabilitySubTlv;") (Term.int (Int32.ofNat j))).eval (#[.int i0, .int i1] : Array Value) s none [] s = some (([(.ref w_NICKNAME), (.ref w_TREES), (.ref w_TREE_ROOT_IDS), (.ref w_TREE_USE_IDS), (.ref w_INTERESTED_VLANS), (.ref w_TRILL_VERSION), (.ref w_VLAN_GROUP), (.ref w_INTERESTED_LABELS), (.ref w_RBRIDGE_CHANNELS), (.ref w_AFFINITY), (.ref w_LABEL_GROUP)] : List Value)[j]) := by
    intro j hj
    match j, hj with
    | 0, _ => exact own_elemR c5a ev_NICKNAME
    | 1, _ => exact own_elemR c7a ev_TREES
    | 2, _ => exact own_elemR c9a ev_TREE_ROOT_IDS
    | 3, _ => exact own_elemR c11a ev_TREE_USE_IDS
    | 4, _ => exact own_elemR c13a ev_INTERESTED_VLANS
    | 5, _ => exact own_elemR c15a ev_TRILL_VERSION
    | 6, _ => exact own_elemR c17a ev_VLAN_GROUP
    | 7, _ => exact own_elemR c19a ev_INTERESTED_LABELS
    | 8, _ => exact own_elemR c21a ev_RBRIDGE_CHANNELS
    | 9, _ => exact own_elemR c23a ev_AFFINITY
    | 10, _ => exact own_elemR c25a ev_LABEL_GROUP
    | j + 11, hj => exact absurd hj (by simp only [List.length_cons, List.length_nil]; omega)
  obtain ⟨kV, A_w__VALUES⟩ := own_arr hfit ev__VALUES c1a c3a (vs := [(.ref w_NICKNAME), (.ref w_TREES), (.ref w_TREE_ROOT_IDS), (.ref w_TREE_USE_IDS), (.ref w_INTERESTED_VLANS), (.ref w_TRILL_VERSION), (.ref w_VLAN_GROUP), (.ref w_INTERESTED_LABELS), (.ref w_RBRIDGE_CHANNELS), (.ref w_AFFINITY), (.ref w_LABEL_GROUP)]) (by simp only [List.length_cons, List.length_nil]; decide) hel
  obtain ⟨n, o, h1, h2, h3, _, L, rfl, ⟨rfl, N, -⟩, hq⟩ := rm0 l s _ hw tables_1 i0 i1 kV w_NICKNAME w_TREES w_TREE_ROOT_IDS w_TREE_USE_IDS w_INTERESTED_VLANS w_TRILL_VERSION w_VLAN_GROUP w_INTERESTED_LABELS w_RBRIDGE_CHANNELS w_AFFINITY w_LABEL_GROUP w__VALUES s.heap s.heap.size (Old.start s) A_w__VALUES E_w__VALUES F_code_w_NICKNAME F_code_w_TREES F_code_w_TREE_ROOT_IDS F_code_w_TREE_USE_IDS F_code_w_INTERESTED_VLANS F_code_w_TRILL_VERSION F_code_w_VLAN_GROUP F_code_w_INTERESTED_LABELS F_code_w_RBRIDGE_CHANNELS F_code_w_AFFINITY F_code_w_LABEL_GROUP E_w_NICKNAME E_w_TREES E_w_TREE_ROOT_IDS E_w_TREE_USE_IDS E_w_INTERESTED_VLANS E_w_TRILL_VERSION E_w_VLAN_GROUP E_w_INTERESTED_LABELS E_w_RBRIDGE_CHANNELS E_w_AFFINITY E_w_LABEL_GROUP S_NICKNAME S_TREES S_TREE_ROOT_IDS S_TREE_USE_IDS S_INTERESTED_VLANS S_TRILL_VERSION S_VLAN_GROUP S_INTERESTED_LABELS S_RBRIDGE_CHANNELS S_AFFINITY S_LABEL_GROUP S__VALUES p e ha hc hk s m _ below hf ((Spec.applies_iff_loose hf).mp happ).1 ⟨rfl, State.Warmed39.refl s, rfl⟩ trivial
  refine ⟨n, _, h1, h2, h3, hpost _ _ _ _ _ _ ⟨Cond.after_iff.mpr rfl, Cond.after_iff.mpr (eq_i res_at (Term.int_eval (1)) rfl), trivial⟩ ⟨hq.1, hq.2.1, (hq.2.2.sift fun y hy => Or.inr (N y hy)).mono (by decide) (by decide)⟩⟩
theorem main_1_1 : Claimed_1_1 := comes_1 fun _ _ _ _ _ _ h hF => ⟨h.1, hF⟩
theorem main_1_2 : Claimed_1_2 := comes_1 fun _ _ _ _ _ _ h hF => ⟨h.2.1, hF⟩
end Jvm.Pilot.@@N@@
namespace Jvm.Pilot.@@N@@
open Jvm Jvm.ClassFile Sem Op Lib Jvm.Free Jvm.Stand Jvm.Pilot.@@N@@.Jvm.D
/-! MADE BY PROGRAM (witnessworld.py) out of the Statement's table words and the real class files: 13 classes; the members and pool entries that the words name. The judged class is class 1, her method 2. -/
namespace start1
open Jvm.ClassFile
def u (s : String) : CpInfo := .utf8 (stringToUtf16 s)
/-- a pool by its gaps: so many unusable entries, then the entry; so many at the end -/
def gap : Nat → List CpInfo → List CpInfo
  | 0, r => r
  | n + 1, r => .unusable :: gap n r
def poolList (es : List (Nat × CpInfo)) (last : Nat) : List CpInfo := es.foldr (fun e r => gap e.1 (e.2 :: r)) (gap last [])
def pool (es : List (Nat × CpInfo)) (last : Nat) : Array CpInfo := ⟨poolList es last⟩
def fileOf (pool : Array CpInfo) (this : Nat) (attrs : Array Attribute := #[]) (ms : Array MethodInfo := #[]) (fl : Nat := 33) (sup : Nat := 0) (ifs : Array Nat := #[]) (fds : Array FieldInfo := #[]) : ClassFile where
  minorVersion := 0
  majorVersion := 65
  constantPool := pool
  accessFlags := fl
  thisClass := this
  superClass := sup
  interfaces := ifs
  fields := fds
  methods := ms
  attributes := attrs
def plain (name : String) (sup : Option ClassId) : Class where
  name := name
  kind := .ordinary
  loader := none
  accessFlags := 33
  super := sup
  interfaces := #[]
  cf := none
  fields := #[]
  methods := #[]
  instanceTypes := #[]
  staticTypes := #[]
  resolved := #[]
  callSites := []
  init := .initialized
  statics := none
  mirror := none

def pool0 : Array CpInfo := pool [(5, u "<init>"), (0, u "()V"), (1, .class_ 10), (1, u "java/lang/Object"), (85, u "clone"), (0, u "()Ljava/lang/Object;")] 26

def k0m0 : Method := { name := "<init>", desc := "()V", sig := { parameters := [], returnType := none }, accessFlags := 1, code := none }
def k0m1 : Method := { name := "clone", desc := "()Ljava/lang/Object;", sig := { parameters := [], returnType := some (.object "java/lang/Object") }, accessFlags := 260, code := none }
/-- java/lang/Object -/
def k0 : Class := { plain "java/lang/Object" none with
  accessFlags := 33
  interfaces := #[]
  cf := some (fileOf pool0 8 #[] #[{ accessFlags := 1, nameIndex := 5, descriptorIndex := 6, attributes := #[] }, { accessFlags := 260, nameIndex := 96, descriptorIndex := 97, attributes := #[] }] 33 0 #[] #[])
  fields := #[]
  methods := #[k0m0, k0m1]
  instanceTypes := #[]
  staticTypes := #[]
  resolved := Array.replicate 124 none
  statics := none }

def pool1 : Array CpInfo := pool [(2, .class_ 4), (1, u "java/lang/Object"), (0, u "<init>"), (0, u "()V"), (0, .fieldref 8 9), (0, .class_ 10), (0, .nameAndType 11 12), (0, u "com/example/weftline/weftline/codec/RouterCapabilitySubTlv"), (0, u "NICKNAME"), (0, u "Lcom/example/weftline/weftline/codec/RouterCapabilitySubTlv;"), (0, .fieldref 8 14), (0, .nameAndType 15 12), (0, u "TREES"), (0, .fieldref 8 17), (0, .nameAndType 18 12), (0, u "TREE_ROOT_IDS"), (0, .fieldref 8 20), (0, .nameAndType 21 12), (0, u "TREE_USE_IDS"), (0, .fieldref 8 23), (0, .nameAndType 24 12), (0, u "INTERESTED_VLANS"), (0, .fieldref 8 26), (0, .nameAndType 27 12), (0, u "TRILL_VERSION"), (0, .fieldref 8 29), (0, .nameAndType 30 12), (0, u "VLAN_GROUP"), (0, .fieldref 8 32), (0, .nameAndType 33 12), (0, u "INTERESTED_LABELS"), (0, .fieldref 8 35), (0, .nameAndType 36 12), (0, u "RBRIDGE_CHANNELS"), (0, .fieldref 8 38), (0, .nameAndType 39 12), (0, u "AFFINITY"), (0, .fieldref 8 41), (0, .nameAndType 42 12), (0, u "LABEL_GROUP"), (0, .methodref 8 44), (0, .nameAndType 45 46), (0, u "ofCode"), (0, u "(I)Lcom/example/weftline/weftline/codec/RouterCapabilitySubTlv;"), (0, .methodref 48 49), (0, .class_ 50), (0, .nameAndType 51 46), (0, u "com/example/weftline/weftline/codec/RouterCapabilitySubTlvOfCodePinLaw"), (0, u "expected"), (0, .methodref 8 53), (0, .nameAndType 54 55), (0, u "code"), (0, u "()I"), (3, u "law"), (0, u "(II)Z")] 2

def k1m0 : Method := { name := "<init>", desc := "()V", sig := { parameters := [], returnType := none }, accessFlags := 2, code := none }
def k1c1 : Code := { maxStack := 2, maxLocals := 1, code := method_2_code, exceptionTable := #[], attributes := #[] }
def k1m1 : Method := { name := "expected", desc := "(I)Lcom/example/weftline/weftline/codec/RouterCapabilitySubTlv;", sig := { parameters := [.int], returnType := some (.object "com/example/weftline/weftline/codec/RouterCapabilitySubTlv") }, accessFlags := 10, code := some k1c1 }
def k1c2 : Code := { maxStack := 2, maxLocals := 5, code := code, exceptionTable := #[], attributes := #[] }
def k1m2 : Method := { name := "law", desc := "(II)Z", sig := { parameters := [.int, .int], returnType := some .boolean }, accessFlags := 9, code := some k1c2 }
/-- com/example/weftline/weftline/codec/RouterCapabilitySubTlvOfCodePinLaw -/
def k1 : Class := { plain "com/example/weftline/weftline/codec/RouterCapabilitySubTlvOfCodePinLaw" (some 0) with
  accessFlags := 49
  interfaces := #[]
  cf := some (fileOf pool1 48 #[] #[{ accessFlags := 2, nameIndex := 5, descriptorIndex := 6, attributes := #[] }, { accessFlags := 10, nameIndex := 51, descriptorIndex := 46, attributes := #[] }, { accessFlags := 9, nameIndex := 59, descriptorIndex := 60, attributes := #[] }] 49 2 #[] #[])
  fields := #[]
  methods := #[k1m0, k1m1, k1m2]
  instanceTypes := #[]
  staticTypes := #[]
  resolved := Array.replicate 63 none
  statics := none }

def pool2 : Array CpInfo := pool [(1, .class_ 2), (0, u "java/lang/constant/Constable"), (0, .class_ 4), (0, u "java/lang/Object")] 6

/-- java/lang/constant/Constable -/
def k2 : Class := { plain "java/lang/constant/Constable" (some 0) with
  accessFlags := 1537
  interfaces := #[]
  cf := some (fileOf pool2 1 #[] #[] 1537 3 #[] #[])
  fields := #[]
  methods := #[]
  instanceTypes := #[]
  staticTypes := #[]
  resolved := Array.replicate 11 none
  statics := none }

def pool3 : Array CpInfo := pool [(1, .class_ 2), (0, u "java/lang/Comparable"), (0, .class_ 4), (0, u "java/lang/Object")] 7

/-- java/lang/Comparable -/
def k3 : Class := { plain "java/lang/Comparable" (some 0) with
  accessFlags := 1537
  interfaces := #[]
  cf := some (fileOf pool3 1 #[] #[] 1537 3 #[] #[])
  fields := #[]
  methods := #[]
  instanceTypes := #[]
  staticTypes := #[]
  resolved := Array.replicate 12 none
  statics := none }

def pool4 : Array CpInfo := pool [(1, .class_ 2), (0, u "java/io/Serializable"), (0, .class_ 4), (0, u "java/lang/Object")] 2

/-- java/io/Serializable -/
def k4 : Class := { plain "java/io/Serializable" (some 0) with
  accessFlags := 1537
  interfaces := #[]
  cf := some (fileOf pool4 1 #[] #[] 1537 3 #[] #[])
  fields := #[]
  methods := #[]
  instanceTypes := #[]
  staticTypes := #[]
  resolved := Array.replicate 7 none
  statics := none }

def pool5 : Array CpInfo := pool [(2, .class_ 4), (1, u "java/lang/Enum"), (0, u "name"), (0, u "Ljava/lang/String;"), (2, u "ordinal"), (0, u "I"), (1, .class_ 14), (1, u "java/lang/Object"), (4, u "hash"), (86, .class_ 108), (1, u "java/lang/Enum$EnumDesc"), (2, .class_ 112), (0, u "java/lang/constant/Constable"), (0, .class_ 114), (0, u "java/lang/Comparable"), (0, .class_ 116), (0, u "java/io/Serializable")] 87

/-- java/lang/Enum -/
def k5 : Class := { plain "java/lang/Enum" (some 0) with
  accessFlags := 1057
  interfaces := #[2, 3, 4]
  cf := some (fileOf pool5 2 #[.nestMembers #[106]] #[] 1057 12 #[111, 113, 115] #[{ accessFlags := 18, nameIndex := 5, descriptorIndex := 6, attributes := #[] }, { accessFlags := 18, nameIndex := 9, descriptorIndex := 10, attributes := #[] }, { accessFlags := 2, nameIndex := 19, descriptorIndex := 10, attributes := #[] }])
  fields := #[{ name := "name", type := (.object "java/lang/String"), accessFlags := 18, slot := 0, constantValue := 0 }, { name := "ordinal", type := .int, accessFlags := 18, slot := 1, constantValue := 0 }, { name := "hash", type := .int, accessFlags := 2, slot := 2, constantValue := 0 }]
  methods := #[]
  instanceTypes := #[(.object "java/lang/String"), .int, .int]
  staticTypes := #[]
  resolved := Array.replicate 204 none
  statics := none }

def pool6 : Array CpInfo := pool [(1, .class_ 2), (0, u "com/example/weftline/weftline/codec/RouterCapabilitySubTlv"), (2, u "NICKNAME"), (0, u "Lcom/example/weftline/weftline/codec/RouterCapabilitySubTlv;"), (2, u "TREES"), (2, u "TREE_ROOT_IDS"), (2, u "TREE_USE_IDS"), (2, u "INTERESTED_VLANS"), (2, u "TRILL_VERSION"), (2, u "VLAN_GROUP"), (2, u "INTERESTED_LABELS"), (2, u "RBRIDGE_CHANNELS"), (2, u "AFFINITY"), (2, u "LABEL_GROUP"), (0, .fieldref 1 38), (0, .nameAndType 39 40), (0, u "$VALUES"), (0, u "[Lcom/example/weftline/weftline/codec/RouterCapabilitySubTlv;"), (0, .methodref 42 43), (0, .class_ 40), (0, .nameAndType 44 45), (0, u "clone"), (0, u "()Ljava/lang/Object;"), (1, .class_ 49), (1, u "java/lang/Enum"), (6, .fieldref 1 57), (0, .nameAndType 58 59), (0, u "code"), (0, u "I"), (2, u "label"), (0, u "Ljava/lang/String;"), (2, u "printer"), (0, u "Lcom/example/weftline/weftline/codec/ValuePrinter;"), (0, .methodref 1 69), (0, .nameAndType 70 71), (0, u "values"), (0, u "()[Lcom/example/weftline/weftline/codec/RouterCapabilitySubTlv;"), (138, u "()I"), (88, u "TOO_SHORT"), (1, u "NICKNAME_LENGTH"), (1, u "NICKNAME_RECORD"), (1, u "TREES_LENGTH"), (1, u "INTEREST_FLAGS_OFFSET"), (0, u "M4"), (1, u "M6"), (1, u "BIT_MAP"), (1, u "VLAN_LENGTH"), (0, u "VLAN_MASK"), (1, u "INT_VLAN_COUNTER_OFFSET"), (0, u "INT_LABEL_COUNTER_OFFSET"), (1, u "COUNTER_LENGTH"), (1, u "LABEL_LENGTH"), (1, u "LABEL_MASK"), (0, u "TRILL_VERSION_LENGTH"), (0, u "VECTOR_HEADER"), (0, u "AFFINITY_HEADER"), (0, u "TREE_NUMBER_LENGTH"), (6, u "ofCode"), (0, u "(I)Lcom/example/weftline/weftline/codec/RouterCapabilitySubTlv;")] 93

def k6c0 : Code := { maxStack := 1, maxLocals := 0, code := prog_35_method_1_code, exceptionTable := #[], attributes := #[] }
def k6m0 : Method := { name := "values", desc := "()[Lcom/example/weftline/weftline/codec/RouterCapabilitySubTlv;", sig := { parameters := [], returnType := some (.array (.object "com/example/weftline/weftline/codec/RouterCapabilitySubTlv")) }, accessFlags := 9, code := some k6c0 }
def k6c1 : Code := { maxStack := 2, maxLocals := 5, code := prog_35_method_4_code, exceptionTable := #[], attributes := #[] }
def k6m1 : Method := { name := "ofCode", desc := "(I)Lcom/example/weftline/weftline/codec/RouterCapabilitySubTlv;", sig := { parameters := [.int], returnType := some (.object "com/example/weftline/weftline/codec/RouterCapabilitySubTlv") }, accessFlags := 9, code := some k6c1 }
def k6c2 : Code := { maxStack := 1, maxLocals := 1, code := prog_35_method_5_code, exceptionTable := #[], attributes := #[] }
def k6m2 : Method := { name := "code", desc := "()I", sig := { parameters := [], returnType := some .int }, accessFlags := 1, code := some k6c2 }
/-- com/example/weftline/weftline/codec/RouterCapabilitySubTlv -/
def k6 : Class := { plain "com/example/weftline/weftline/codec/RouterCapabilitySubTlv" (some 5) with
  accessFlags := 16433
  interfaces := #[]
  cf := some (fileOf pool6 1 #[] #[{ accessFlags := 9, nameIndex := 70, descriptorIndex := 71, attributes := #[] }, { accessFlags := 9, nameIndex := 335, descriptorIndex := 336, attributes := #[] }, { accessFlags := 1, nameIndex := 58, descriptorIndex := 210, attributes := #[] }] 16433 47 #[] #[{ accessFlags := 16409, nameIndex := 5, descriptorIndex := 6, attributes := #[] }, { accessFlags := 16409, nameIndex := 9, descriptorIndex := 6, attributes := #[] }, { accessFlags := 16409, nameIndex := 12, descriptorIndex := 6, attributes := #[] }, { accessFlags := 16409, nameIndex := 15, descriptorIndex := 6, attributes := #[] }, { accessFlags := 16409, nameIndex := 18, descriptorIndex := 6, attributes := #[] }, { accessFlags := 16409, nameIndex := 21, descriptorIndex := 6, attributes := #[] }, { accessFlags := 16409, nameIndex := 24, descriptorIndex := 6, attributes := #[] }, { accessFlags := 16409, nameIndex := 27, descriptorIndex := 6, attributes := #[] }, { accessFlags := 16409, nameIndex := 30, descriptorIndex := 6, attributes := #[] }, { accessFlags := 16409, nameIndex := 33, descriptorIndex := 6, attributes := #[] }, { accessFlags := 16409, nameIndex := 36, descriptorIndex := 6, attributes := #[] }, { accessFlags := 26, nameIndex := 299, descriptorIndex := 63, attributes := #[] }, { accessFlags := 26, nameIndex := 301, descriptorIndex := 59, attributes := #[] }, { accessFlags := 26, nameIndex := 303, descriptorIndex := 59, attributes := #[] }, { accessFlags := 26, nameIndex := 305, descriptorIndex := 59, attributes := #[] }, { accessFlags := 26, nameIndex := 307, descriptorIndex := 59, attributes := #[] }, { accessFlags := 26, nameIndex := 308, descriptorIndex := 59, attributes := #[] }, { accessFlags := 26, nameIndex := 310, descriptorIndex := 59, attributes := #[] }, { accessFlags := 26, nameIndex := 312, descriptorIndex := 59, attributes := #[] }, { accessFlags := 26, nameIndex := 314, descriptorIndex := 59, attributes := #[] }, { accessFlags := 26, nameIndex := 315, descriptorIndex := 59, attributes := #[] }, { accessFlags := 26, nameIndex := 317, descriptorIndex := 59, attributes := #[] }, { accessFlags := 26, nameIndex := 318, descriptorIndex := 59, attributes := #[] }, { accessFlags := 26, nameIndex := 320, descriptorIndex := 59, attributes := #[] }, { accessFlags := 26, nameIndex := 322, descriptorIndex := 59, attributes := #[] }, { accessFlags := 26, nameIndex := 324, descriptorIndex := 59, attributes := #[] }, { accessFlags := 26, nameIndex := 325, descriptorIndex := 59, attributes := #[] }, { accessFlags := 26, nameIndex := 326, descriptorIndex := 59, attributes := #[] }, { accessFlags := 26, nameIndex := 327, descriptorIndex := 59, attributes := #[] }, { accessFlags := 26, nameIndex := 328, descriptorIndex := 59, attributes := #[] }, { accessFlags := 18, nameIndex := 58, descriptorIndex := 59, attributes := #[] }, { accessFlags := 18, nameIndex := 62, descriptorIndex := 63, attributes := #[] }, { accessFlags := 18, nameIndex := 66, descriptorIndex := 67, attributes := #[] }, { accessFlags := 4122, nameIndex := 39, descriptorIndex := 40, attributes := #[] }])
  fields := #[{ name := "NICKNAME", type := (.object "com/example/weftline/weftline/codec/RouterCapabilitySubTlv"), accessFlags := 16409, slot := 0, constantValue := 0 }, { name := "TREES", type := (.object "com/example/weftline/weftline/codec/RouterCapabilitySubTlv"), accessFlags := 16409, slot := 1, constantValue := 0 }, { name := "TREE_ROOT_IDS", type := (.object "com/example/weftline/weftline/codec/RouterCapabilitySubTlv"), accessFlags := 16409, slot := 2, constantValue := 0 }, { name := "TREE_USE_IDS", type := (.object "com/example/weftline/weftline/codec/RouterCapabilitySubTlv"), accessFlags := 16409, slot := 3, constantValue := 0 }, { name := "INTERESTED_VLANS", type := (.object "com/example/weftline/weftline/codec/RouterCapabilitySubTlv"), accessFlags := 16409, slot := 4, constantValue := 0 }, { name := "TRILL_VERSION", type := (.object "com/example/weftline/weftline/codec/RouterCapabilitySubTlv"), accessFlags := 16409, slot := 5, constantValue := 0 }, { name := "VLAN_GROUP", type := (.object "com/example/weftline/weftline/codec/RouterCapabilitySubTlv"), accessFlags := 16409, slot := 6, constantValue := 0 }, { name := "INTERESTED_LABELS", type := (.object "com/example/weftline/weftline/codec/RouterCapabilitySubTlv"), accessFlags := 16409, slot := 7, constantValue := 0 }, { name := "RBRIDGE_CHANNELS", type := (.object "com/example/weftline/weftline/codec/RouterCapabilitySubTlv"), accessFlags := 16409, slot := 8, constantValue := 0 }, { name := "AFFINITY", type := (.object "com/example/weftline/weftline/codec/RouterCapabilitySubTlv"), accessFlags := 16409, slot := 9, constantValue := 0 }, { name := "LABEL_GROUP", type := (.object "com/example/weftline/weftline/codec/RouterCapabilitySubTlv"), accessFlags := 16409, slot := 10, constantValue := 0 }, { name := "TOO_SHORT", type := (.object "java/lang/String"), accessFlags := 26, slot := 11, constantValue := 0 }, { name := "NICKNAME_LENGTH", type := .int, accessFlags := 26, slot := 12, constantValue := 0 }, { name := "NICKNAME_RECORD", type := .int, accessFlags := 26, slot := 13, constantValue := 0 }, { name := "TREES_LENGTH", type := .int, accessFlags := 26, slot := 14, constantValue := 0 }, { name := "INTEREST_FLAGS_OFFSET", type := .int, accessFlags := 26, slot := 15, constantValue := 0 }, { name := "M4", type := .int, accessFlags := 26, slot := 16, constantValue := 0 }, { name := "M6", type := .int, accessFlags := 26, slot := 17, constantValue := 0 }, { name := "BIT_MAP", type := .int, accessFlags := 26, slot := 18, constantValue := 0 }, { name := "VLAN_LENGTH", type := .int, accessFlags := 26, slot := 19, constantValue := 0 }, { name := "VLAN_MASK", type := .int, accessFlags := 26, slot := 20, constantValue := 0 }, { name := "INT_VLAN_COUNTER_OFFSET", type := .int, accessFlags := 26, slot := 21, constantValue := 0 }, { name := "INT_LABEL_COUNTER_OFFSET", type := .int, accessFlags := 26, slot := 22, constantValue := 0 }, { name := "COUNTER_LENGTH", type := .int, accessFlags := 26, slot := 23, constantValue := 0 }, { name := "LABEL_LENGTH", type := .int, accessFlags := 26, slot := 24, constantValue := 0 }, { name := "LABEL_MASK", type := .int, accessFlags := 26, slot := 25, constantValue := 0 }, { name := "TRILL_VERSION_LENGTH", type := .int, accessFlags := 26, slot := 26, constantValue := 0 }, { name := "VECTOR_HEADER", type := .int, accessFlags := 26, slot := 27, constantValue := 0 }, { name := "AFFINITY_HEADER", type := .int, accessFlags := 26, slot := 28, constantValue := 0 }, { name := "TREE_NUMBER_LENGTH", type := .int, accessFlags := 26, slot := 29, constantValue := 0 }, { name := "code", type := .int, accessFlags := 18, slot := 3, constantValue := 0 }, { name := "label", type := (.object "java/lang/String"), accessFlags := 18, slot := 4, constantValue := 0 }, { name := "printer", type := (.object "com/example/weftline/weftline/codec/ValuePrinter"), accessFlags := 18, slot := 5, constantValue := 0 }, { name := "$VALUES", type := (.array (.object "com/example/weftline/weftline/codec/RouterCapabilitySubTlv")), accessFlags := 4122, slot := 30, constantValue := 0 }]
  methods := #[k6m0, k6m1, k6m2]
  instanceTypes := #[(.object "java/lang/String"), .int, .int, .int, (.object "java/lang/String"), (.object "com/example/weftline/weftline/codec/ValuePrinter")]
  staticTypes := #[(.object "com/example/weftline/weftline/codec/RouterCapabilitySubTlv"), (.object "com/example/weftline/weftline/codec/RouterCapabilitySubTlv"), (.object "com/example/weftline/weftline/codec/RouterCapabilitySubTlv"), (.object "com/example/weftline/weftline/codec/RouterCapabilitySubTlv"), (.object "com/example/weftline/weftline/codec/RouterCapabilitySubTlv"), (.object "com/example/weftline/weftline/codec/RouterCapabilitySubTlv"), (.object "com/example/weftline/weftline/codec/RouterCapabilitySubTlv"), (.object "com/example/weftline/weftline/codec/RouterCapabilitySubTlv"), (.object "com/example/weftline/weftline/codec/RouterCapabilitySubTlv"), (.object "com/example/weftline/weftline/codec/RouterCapabilitySubTlv"), (.object "com/example/weftline/weftline/codec/RouterCapabilitySubTlv"), (.object "java/lang/String"), .int, .int, .int, .int, .int, .int, .int, .int, .int, .int, .int, .int, .int, .int, .int, .int, .int, .int, (.array (.object "com/example/weftline/weftline/codec/RouterCapabilitySubTlv"))]
  resolved := Array.replicate 430 none
  statics := some 0 }

def pool7 : Array CpInfo := pool [(1, .class_ 2), (0, u "java/lang/Cloneable"), (0, .class_ 4), (0, u "java/lang/Object")] 2

/-- java/lang/Cloneable -/
def k7 : Class := { plain "java/lang/Cloneable" (some 0) with
  accessFlags := 1537
  interfaces := #[]
  cf := some (fileOf pool7 1 #[] #[] 1537 3 #[] #[])
  fields := #[]
  methods := #[]
  instanceTypes := #[]
  staticTypes := #[]
  resolved := Array.replicate 7 none
  statics := none }

/-- the primitive byte -/
def k8 : Class := { plain "byte" none with kind := .primitive 'B', accessFlags := 0x411 }
/-- [B -/
def k9 : Class := { plain "[B" (some 0) with kind := .array 8 .byte, interfaces := #[7, 4], accessFlags := 1041 }

/-- the primitive int -/
def k10 : Class := { plain "int" none with kind := .primitive 'I', accessFlags := 0x411 }
/-- [I -/
def k11 : Class := { plain "[I" (some 0) with kind := .array 10 .int, interfaces := #[7, 4], accessFlags := 1041 }

/-- [Lcom/example/weftline/weftline/codec/RouterCapabilitySubTlv; -/
def k12 : Class := { plain "[Lcom/example/weftline/weftline/codec/RouterCapabilitySubTlv;" (some 0) with kind := .array 6 (.object "com/example/weftline/weftline/codec/RouterCapabilitySubTlv"), interfaces := #[7, 4], accessFlags := 1041 }

def heap : Heap := #[{ cls := 6, slots := #[.ref 2, .ref 3, .ref 4, .ref 5, .ref 6, .ref 7, .ref 8, .ref 9, .ref 10, .ref 11, .ref 12, .null, .int 0, .int 0, .int 0, .int 0, .int 0, .int 0, .int 0, .int 0, .int 0, .int 0, .int 0, .int 0, .int 0, .int 0, .int 0, .int 0, .int 0, .int 0, .ref 1], vm := .statics 6 },
  { cls := 12, slots := #[.ref 2, .ref 3, .ref 4, .ref 5, .ref 6, .ref 7, .ref 8, .ref 9, .ref 10, .ref 11, .ref 12], vm := .none },
  { cls := 6, slots := #[.null, .int 0, .int 0, .int 6, .null, .null], vm := .none },
  { cls := 6, slots := #[.null, .int 0, .int 0, .int 7, .null, .null], vm := .none },
  { cls := 6, slots := #[.null, .int 0, .int 0, .int 8, .null, .null], vm := .none },
  { cls := 6, slots := #[.null, .int 0, .int 0, .int 9, .null, .null], vm := .none },
  { cls := 6, slots := #[.null, .int 0, .int 0, .int 10, .null, .null], vm := .none },
  { cls := 6, slots := #[.null, .int 0, .int 0, .int 13, .null, .null], vm := .none },
  { cls := 6, slots := #[.null, .int 0, .int 0, .int 14, .null, .null], vm := .none },
  { cls := 6, slots := #[.null, .int 0, .int 0, .int 15, .null, .null], vm := .none },
  { cls := 6, slots := #[.null, .int 0, .int 0, .int 16, .null, .null], vm := .none },
  { cls := 6, slots := #[.null, .int 0, .int 0, .int 17, .null, .null], vm := .none },
  { cls := 6, slots := #[.null, .int 0, .int 0, .int 18, .null, .null], vm := .none }]
def classes : Array Class := #[k0, k1, k2, k3, k4, k5, k6, k7, k8, k9, k10, k11, k12]
def interned : List (Array UInt16 × Addr) := []
def slotsUsed : Nat := 108
def theMethod : MethodId := ⟨1, 2⟩
def args0 : Array Value := #[.int 5, .int 7]
def aboutOver (below : List Frame) : State where
  vm := { classes := classes, interned := interned.toArray }
  heap := heap
  slotsUsed := slotsUsed
  threads := #[{ frames := .invoking theMethod args0 :: below }]
def below0 : List Frame := [.native { method := ⟨0, 0⟩, args := #[] }]
def about1 : State := aboutOver below0
def p0 : Program := .bare "" "" ""
def e0 : Env := launch0.env 0 0 0
theorem w_frames : about1.frames = Frame.invoking theMethod args0 :: below0 := rfl
set_option maxRecDepth 65536 in
theorem w_args : argsFit about1.vm theMethod args0 = true := by decide +kernel
set_option maxRecDepth 65536 in
theorem w_heap : heapFits about1 = true := by decide +kernel
set_option maxRecDepth 65536 in
theorem w_runnable : about1.curStatus? = some .runnable := by decide +kernel
set_option maxRecDepth 65536 in
theorem w_alone : about1.alone = true := by decide +kernel
set_option maxRecDepth 65536 in
theorem w_named : about1.methodNamed? x = some theMethod := by decide +kernel
set_option maxRecDepth 65536 in
theorem w_hears : about1.hears theMethod below0 = true := by decide +kernel
set_option maxRecDepth 65536 in
theorem w_ripe : about1.ripe theMethod args0 below0 = true := by decide +kernel
theorem w_running : about1.status = .running := rfl
set_option maxRecDepth 65536 in
theorem w_room : about1.hasRoom e0.platform room_1 = true :=
  launch0.hasRoom_least _ room_1 (by decide +kernel) (by decide +kernel) (by decide +kernel) (by decide +kernel) (by decide +kernel) (by decide +kernel)
theorem allAtoms_all (ts : List Jvm.Cond) (a : Array Jvm.Value) (st : Jvm.State) : (allAtoms ts).before a st = ts.all (fun c => c.before a st) := by
  induction ts with
  | nil => rfl
  | cons c t ih =>
    show (Jvm.Cond.and c (allAtoms t)).before a st = _
    rw [Jvm.Cond.before_and, ih, List.all_cons]
def words1 : List Jvm.Cond := Jvm.Cond.code x code maxLocals ret :: tables_1
/-- a 'code' word, met by the world's own term for the bytes: nothing is compared byte by byte -/
theorem code_word {y : MethodName} {bytes : ByteArray} {mx : Nat} {rt : Option FieldType} {a : Array Value} {s : State} {m : MethodId} {meth : Method} {c : Code} (h1 : s.methodNamed? y = some m) (h2 : s.vm.method? m = some meth) (h3 : meth.code = some c) (h4 : c.code = bytes)
    (h5 : (c.maxLocals == mx && c.exceptionTable.isEmpty && decide (c.maxStack ≤ mostOperands) && decide (meth.sig.returnType = rt) && !meth.locks && decide (parseMethodDescriptor y.desc = some meth.sig)) = true) : (Jvm.Cond.code y bytes mx rt).before a s = true := by
  simp only [Bool.and_eq_true, beq_iff_eq, Bool.not_eq_true', decide_eq_true_eq] at h5
  obtain ⟨⟨⟨⟨⟨g1, g2⟩, g3⟩, g4⟩, g5⟩, g6⟩ := h5
  simp [Cond.before, Cond.holds, Cond.value, h1, h2, h3, h4, g1, g2, g3, g4, g5, g6]
def isCode : Jvm.Cond → Bool
  | .code _ _ _ _ => true
  | _ => false
theorem all_split {L : List Jvm.Cond} {P : Jvm.Cond → Bool} (h1 : L.all (fun c => isCode c || P c) = true) (h2 : ∀ c ∈ L.filter isCode, P c = true) : L.all P = true := by
  refine List.all_eq_true.mpr fun c hc => ?_
  have h := List.all_eq_true.mp h1 c hc
  rcases Bool.eq_false_or_eq_true (isCode c) with hi | hi
  · exact h2 c (List.mem_filter.mpr ⟨hc, hi⟩)
  · simpa [hi] using h
set_option maxRecDepth 65536 in
theorem w_c0 : (Jvm.Cond.code x code maxLocals ret).before args0 about1 = true := code_word (m := ⟨1, 2⟩) (meth := k1m2) (c := k1c2) (by decide +kernel) rfl rfl rfl (by decide +kernel)
set_option maxRecDepth 65536 in
theorem w_c1 : (Jvm.Cond.code ({ cls := "com/example/weftline/weftline/codec/RouterCapabilitySubTlv", name := "ofCode", desc := "(I)Lcom/example/weftline/weftline/codec/RouterCapabilitySubTlv;" } : Jvm.MethodName) prog_35_method_4_code (5 : Nat) (Option.some (Jvm.ClassFile.FieldType.object "com/example/weftline/weftline/codec/RouterCapabilitySubTlv"))).before args0 about1 = true := code_word (m := ⟨6, 1⟩) (meth := k6m1) (c := k6c1) (by decide +kernel) rfl rfl rfl (by decide +kernel)
set_option maxRecDepth 65536 in
theorem w_c2 : (Jvm.Cond.code ({ cls := "com/example/weftline/weftline/codec/RouterCapabilitySubTlv", name := "values", desc := "()[Lcom/example/weftline/weftline/codec/RouterCapabilitySubTlv;" } : Jvm.MethodName) prog_35_method_1_code (0 : Nat) (Option.some (Jvm.ClassFile.FieldType.array (Jvm.ClassFile.FieldType.object "com/example/weftline/weftline/codec/RouterCapabilitySubTlv")))).before args0 about1 = true := code_word (m := ⟨6, 0⟩) (meth := k6m0) (c := k6c0) (by decide +kernel) rfl rfl rfl (by decide +kernel)
set_option maxRecDepth 65536 in
theorem w_c3 : (Jvm.Cond.code ({ cls := "com/example/weftline/weftline/codec/RouterCapabilitySubTlvOfCodePinLaw", name := "expected", desc := "(I)Lcom/example/weftline/weftline/codec/RouterCapabilitySubTlv;" } : Jvm.MethodName) method_2_code (1 : Nat) (Option.some (Jvm.ClassFile.FieldType.object "com/example/weftline/weftline/codec/RouterCapabilitySubTlv"))).before args0 about1 = true := code_word (m := ⟨1, 1⟩) (meth := k1m1) (c := k1c1) (by decide +kernel) rfl rfl rfl (by decide +kernel)
set_option maxRecDepth 65536 in
theorem w_c4 : (Jvm.Cond.code ({ cls := "com/example/weftline/weftline/codec/RouterCapabilitySubTlv", name := "code", desc := "()I" } : Jvm.MethodName) prog_35_method_5_code (1 : Nat) (Option.some Jvm.ClassFile.FieldType.int)).before args0 about1 = true := code_word (m := ⟨6, 2⟩) (meth := k6m2) (c := k6c2) (by decide +kernel) rfl rfl rfl (by decide +kernel)
def codes1 : List Jvm.Cond := [Jvm.Cond.code x code maxLocals ret, Jvm.Cond.code ({ cls := "com/example/weftline/weftline/codec/RouterCapabilitySubTlv", name := "ofCode", desc := "(I)Lcom/example/weftline/weftline/codec/RouterCapabilitySubTlv;" } : Jvm.MethodName) prog_35_method_4_code (5 : Nat) (Option.some (Jvm.ClassFile.FieldType.object "com/example/weftline/weftline/codec/RouterCapabilitySubTlv")), Jvm.Cond.code ({ cls := "com/example/weftline/weftline/codec/RouterCapabilitySubTlv", name := "values", desc := "()[Lcom/example/weftline/weftline/codec/RouterCapabilitySubTlv;" } : Jvm.MethodName) prog_35_method_1_code (0 : Nat) (Option.some (Jvm.ClassFile.FieldType.array (Jvm.ClassFile.FieldType.object "com/example/weftline/weftline/codec/RouterCapabilitySubTlv"))), Jvm.Cond.code ({ cls := "com/example/weftline/weftline/codec/RouterCapabilitySubTlvOfCodePinLaw", name := "expected", desc := "(I)Lcom/example/weftline/weftline/codec/RouterCapabilitySubTlv;" } : Jvm.MethodName) method_2_code (1 : Nat) (Option.some (Jvm.ClassFile.FieldType.object "com/example/weftline/weftline/codec/RouterCapabilitySubTlv")), Jvm.Cond.code ({ cls := "com/example/weftline/weftline/codec/RouterCapabilitySubTlv", name := "code", desc := "()I" } : Jvm.MethodName) prog_35_method_5_code (1 : Nat) (Option.some Jvm.ClassFile.FieldType.int)]
set_option maxRecDepth 65536 in
theorem codes_eq : words1.filter isCode = codes1 := rfl
theorem w_codes : ∀ c ∈ words1.filter isCode, c.before args0 about1 = true := by
  rw [codes_eq]
  intro c hc
  simp only [codes1, List.mem_cons, List.not_mem_nil, or_false] at hc
  rcases hc with rfl | rfl | rfl | rfl | rfl
  · exact w_c0
  · exact w_c1
  · exact w_c2
  · exact w_c3
  · exact w_c4
set_option maxRecDepth 65536 in
theorem w_t1 : (words1.take 24).all (fun c => isCode c || c.before args0 about1) = true := by decide +kernel
set_option maxRecDepth 65536 in
theorem w_t2 : ((words1.drop 24).take 24).all (fun c => isCode c || c.before args0 about1) = true := by decide +kernel
set_option maxRecDepth 65536 in
theorem w_t3 : ((words1.drop 24).drop 24).all (fun c => isCode c || c.before args0 about1) = true := by decide +kernel
theorem w_tables : (allAtoms (Jvm.Cond.code x code maxLocals ret :: tables_1)).before args0 about1 = true := by
  rw [allAtoms_all]
  show words1.all (fun c => c.before args0 about1) = true
  refine all_split ?_ w_codes
  rw [← List.take_append_drop 24 words1, List.all_append, w_t1, ← List.take_append_drop 24 (words1.drop 24), List.all_append, w_t2, w_t3]
  rfl
set_option maxRecDepth 65536 in
theorem w_case : (Jvm.Cond.and given_1 narrow_1).before args0 about1 = true := by decide +kernel
theorem w_applies : (headSpec (Jvm.Cond.code x code maxLocals ret :: tables_1) room_1).applies x e0.platform about1 = true :=
  (Spec.applies_iff w_frames).mpr ⟨w_running, w_runnable, w_alone, w_named, w_hears, w_ripe, w_room, w_tables⟩
theorem atStart : AtStart classFile x code maxLocals ret World_1 tables_1 room_1 Calls_1 rest_1 Pre_1 launch0 p0 e0 about1 theMethod args0 below0 :=
  ⟨lists_1, trivial, launch0.admits_env _ _ _, launch0.least_env, fairChoices_fair.cas, fairChoices_fair.clock, w_frames, w_args, w_heap, w_applies, trivial, trivial, w_case⟩
end start1
theorem witness_1 : WitnessClaimed_1 := ⟨start1.p0, start1.e0, start1.about1, start1.theMethod, start1.args0, start1.below0, start1.atStart⟩
end Jvm.Pilot.@@N@@
