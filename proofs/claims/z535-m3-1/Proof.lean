import JvmDerived
import JvmDerived.Pilot.@@N@@Statement
import JvmDerived.Pilot.@@N@@Code
set_option linter.unusedVariables false
set_option linter.unusedSimpArgs false
namespace Jvm.Wk
open Sem ClassFile Op Lib Jvm.Stand Jvm.Free Jvm.LawKit Jvm.RoadKit
/-- a boolean as an int -/
def b2 (P : Prop) [Decidable P] : Int32 := if P then 1 else 0
theorem b2_t {P : Prop} [Decidable P] (h : P) : b2 P = 1 := if_pos h
theorem b2_f {P : Prop} [Decidable P] (h : ¬ P) : b2 P = 0 := if_neg h
theorem b2_ne0 (P : Prop) [Decidable P] : (b2 P).toInt ≠ 0 ↔ P := by by_cases h : P <;> simp [b2, h]
theorem b2_eq0 (P : Prop) [Decidable P] : (b2 P).toInt = 0 ↔ ¬ P := by by_cases h : P <;> simp [b2, h]
theorem b2_inj (P P' : Prop) [Decidable P] [Decidable P'] : (b2 P).toInt = (b2 P').toInt ↔ (P ↔ P') := by by_cases h : P <;> by_cases h' : P' <;> simp [b2, h, h']
theorem eqI {x y : Int32} (h : x.toInt = y.toInt) : x = y := Int32.toInt_inj.mp h
/-- from the frame f, with the heap h and so many cells and slots made, the body ends as Q says -/
def Go (p : Program) (l : Launch) (e : Env) (R : Room) (s : State) (m : MethodId) (args : Array Value) (below : List Frame) (meth : Method) (c : Code) (n0 : Nat) (Q : Option Value → Heap → Prop) (h : Heap) (kc ks : Nat) (f : JFrame) : Prop :=
  ∀ (T : State) (locs : List Loc), Stand p l e R s m args below meth c T locs kc ks → T.heap = h → Fr n0 locs →
    ∃ s₂ o, Steps p.tables e below (T.setTop f) s₂ ∧ s₂.status = .running ∧ Ended s₂ below o ∧ ∃ v L, o = .returned v ∧ (Q v s₂.heap ∧ Fr n0 L) ∧ FrameEnd s o s₂ L R.cells R.slots
/-- the ambient of a body's walk, hidden behind G -/
def Cx (l : Launch) (R : Room) (Z : State) (n0 : Nat) (Q : Option Value → Heap → Prop) (own nm : String) (bytes : ByteArray) (maxL : Nat) (ret : Option FieldType) (m : MethodId) (G : Heap → Nat → Nat → JFrame → Prop) : Prop :=
  ∃ (p : Program) (e : Env) (s : State) (args : Array Value) (below : List Frame) (meth : Method) (c : Code), G = Go p l e R s m args below meth c n0 Q ∧ p.tables.exec = Jvm.exec ∧ c.code = bytes ∧ c.maxLocals = maxL ∧ s.vm.findClass own = some m.cls ∧ Z.Warmed39 s.vm ∧ meth.sig.returnType = ret ∧ meth.locks = false ∧ meth.name = nm
/-- the contract of a body, asked with these arguments at this heap -/
def MeetsW (l : Launch) (Z : State) (n0 : Nat) (y : MethodName) (bytes : ByteArray) (maxL : Nat) (ret : Option FieldType) (rm : Room) (as' : Array Value) (h0 : Heap) (Q : Option Value → Heap → Prop) : Prop :=
  ∀ ws : List Cond, MetFree l y (head1 (Cond.code y bytes maxL ret :: ws) rm) (fun a U => a = as' ∧ Z.Warmed39 U.vm ∧ U.heap = h0) (fun _ _ _ _ _ => True) (fun _ U o U' => ∃ v L, o = .returned v ∧ (Q v U'.heap ∧ Fr n0 L) ∧ FrameEnd U o U' L rm.cells rm.slots)
/-- an array with just these values -/
def Ary (Z : State) (h : Heap) (a : Addr) (ty : FieldType) (vs : List Value) : Prop := ∃ c : Cell, Arr Z h a c ty ∧ c.slots.toList = vs ∧ vs.length < 2 ^ 31
section Facts
variable {Z : State} {h h' : Heap} {a b : Addr} {ty : FieldType} {vs : List Value} {v : Value} {sl : Nat} {ws : List Addr}
theorem Ary.lt (A : Ary Z h a ty vs) : a < h.size := by obtain ⟨c, A, -⟩ := A; exact A.lt
theorem Ary.ext (A : Ary Z h a ty vs) (E : Ext h h') : Ary Z h' a ty vs := by obtain ⟨c, A, r⟩ := A; exact ⟨c, A.ext E, r⟩
theorem Ary.other (A : Ary Z h b ty vs) (W : Wr h h' a sl v) (q : b ≠ a) : Ary Z h' b ty vs := by obtain ⟨c, A, r⟩ := A; exact ⟨c, A.other W q, r⟩
theorem Ary.keep (A : Ary Z h a ty vs) (K : Keep h h' ws) (q : a ∉ ws) : Ary Z h' a ty vs := by obtain ⟨c, A, r⟩ := A; exact ⟨c, ⟨K.2.1 a c A.1 q, A.2⟩, r⟩
theorem Ary.same (A : Ary Z h a ty vs) (W : Wr h h' a sl v) : Ary Z h' a ty (vs.set sl v) := by
  obtain ⟨c, A, r, r'⟩ := A
  refine ⟨_, A.same W, ?_, by rw [List.length_set]; exact r'⟩
  show (c.slots.setIfInBounds sl v).toList = _
  rw [Array.toList_setIfInBounds, r]
theorem clamp_of {j : Int32} {i : Nat} (hj : j.toInt = i) : j.toNatClampNeg = i := by simp only [Int32.toNatClampNeg, hj]; rfl
theorem in_of {c : Cell} {j : Int32} {i : Nat} (hj : j.toInt = i) (hi : i < c.slots.toList.length) : ¬ (j < 0 ∨ c.slots.size ≤ j.toNatClampNeg) := by
  rw [clamp_of hj]
  have h0 : ¬ j < 0 := by rw [Int32.lt_iff_toInt_lt, hj, show (0 : Int32).toInt = 0 from rfl]; omega
  rw [Array.length_toList] at hi
  intro q; rcases q with q | q
  · exact h0 q
  · omega
theorem at_of {c : Cell} {j : Int32} {i : Nat} {v : Value} (hj : j.toInt = i) (hv : c.slots.toList[i]? = some v) : c.slots[j.toNatClampNeg]? = some v := by
  rw [clamp_of hj, ← Array.getElem?_toList]; exact hv
theorem len_int {n : Nat} (h : n < 2 ^ 31) : n.toInt32.toInt = n := len_toInt h
theorem nar_byte_of {x : Int32} (h : -128 ≤ x.toInt ∧ x.toInt < 128) : nar .byte x = x := by
  apply Int32.toInt_inj.mp
  have q := c_i2b x
  show x.toInt8.toInt32.toInt = _
  omega
theorem nar_char_of {x : Int32} (h : 0 ≤ x.toInt ∧ x.toInt < 65536) : nar .char x = x := by
  apply Int32.toInt_inj.mp
  have q := c_i2c x
  show x.toUInt32.toUInt16.toUInt32.toInt32.toInt = _
  omega
theorem Arv.toAry {d : Value} {k : ClassId} {z : Int32} (F : Arv Z h a k ty z vs d) (hz : z.toInt = (vs.length : Nat)) : Ary Z h a ty vs := by
  obtain ⟨c, Ar, -, S, -, H, -⟩ := F
  rw [clamp_of hz] at S
  refine ⟨c, Ar, ?_, by have := z.toInt_lt; omega⟩
  apply List.ext_getElem?
  intro i
  by_cases hi : i < c.slots.size
  · rw [Array.getElem?_toList, H i hi, List.getD_eq_getElem?_getD]
    have hi' : i < vs.length := by omega
    simp [hi']
  · rw [List.getElem?_eq_none (by rw [Array.length_toList]; omega), List.getElem?_eq_none (by omega)]
end Facts
section Steps
variable {l : Launch} {R : Room} {Z : State} {n0 : Nat} {Q : Option Value → Heap → Prop} {own nm : String} {bytes : ByteArray} {maxL : Nat} {ret : Option FieldType} {m : MethodId} {G : Heap → Nat → Nat → JFrame → Prop} {h : Heap} {kc ks pc pc' pc1 pc2 : Nat} {L L' : Array Slot} {S : List Value} {a0 : Array Value}
theorem MeetsW.intro {y : MethodName} {rm : Room} {as' : Array Value} {h0 : Heap} (hpl : plainFor y = true) {L0 : Array Slot} (hef : ∀ m, entryFrame m as' maxL = mkF m 0 L0 [])
    (body : ∀ m G, Cx l rm Z n0 Q y.cls y.name bytes maxL ret m G → G h0 0 0 (mkF m 0 L0 [])) : MeetsW l Z n0 y bytes maxL ret rm as' h0 Q := by
  intro ws
  refine MetFree.of_bodySF hpl hisR ?_
  intro p e s m args below meth c s₁ Bd hml0 hP hK
  obtain ⟨rfl, hZ, hh⟩ := hP
  have hnm := (name_of_methodNamed Bd.named Bd.method).1
  have X0 : Stand p l e rm s m args below meth c s₁ [] 0 0 := Stand.of_body Bd
  have e0 : s₁.heap = h0 := by rw [← hh, Bd.state]; rfl
  have q := body m _ ⟨p, e, s, args, below, meth, c, rfl, Bd.exec, Bd.bytes, hml0, findClass_of_methodNamed Bd.named, hZ, Bd.returns, Bd.notSynchronized, hnm⟩ s₁ [] X0 e0 (Fr.nil n0)
  rw [hef]; exact q
theorem Cx.step (K : Cx l R Z n0 Q own nm bytes maxL ret m G) {f f' : JFrame}
    (hs : ∀ (p : Program) (e : Env) (below : List Frame) (T : State) (c : Code), At T m c below → p.tables.exec = Jvm.exec → c.code = bytes → ∀ t, Steps p.tables e below (T.setTop f') t → Steps p.tables e below (T.setTop f) t)
    (hr : G h kc ks f') : G h kc ks f := by
  obtain ⟨p, e, s, args, below, meth, c, rfl, hx, hby, hml, hown, hZ, hret, hlk, hn⟩ := K
  intro T locs X eT N
  obtain ⟨s₂, o, h1, h2⟩ := hr T locs X eT N
  exact ⟨s₂, o, hs p e below T c X.here hx hby _ h1, h2⟩
theorem Cx.stepX (K : Cx l R Z n0 Q own nm bytes maxL ret m G) {f f' : JFrame} {h' : Heap}
    (hs : ∀ (p : Program) (e : Env) (s : State) (args : Array Value) (below : List Frame) (meth : Method) (c : Code) (T : State) (locs : List Loc), Stand p l e R s m args below meth c T locs kc ks → T.heap = h → p.tables.exec = Jvm.exec → c.code = bytes → s.vm.findClass own = some m.cls → Z.Warmed39 s.vm → ∃ T', Stand p l e R s m args below meth c T' locs kc ks ∧ T'.heap = h ∧ ∀ t, Steps p.tables e below (T'.setTop f') t → Steps p.tables e below (T.setTop f) t)
    (hr : G h kc ks f') : G h kc ks f := by
  obtain ⟨p, e, s, args, below, meth, c, rfl, hx, hby, hml, hown, hZ, hret, hlk, hn⟩ := K
  intro T locs X eT N
  obtain ⟨T', X', e', st⟩ := hs p e s args below meth c T locs X eT hx hby hown hZ
  obtain ⟨s₂, o, h1, h2⟩ := hr T' locs X' e' N
  exact ⟨s₂, o, st _ h1, h2⟩
theorem Cx.iloadN (K : Cx l R Z n0 Q own nm bytes maxL ret m G) {k : Fin 4} {v : Int32} (hd : decode bytes pc = .ok (.iload_n k, 1)) (hp : pc + 1 = pc') (hl : L[k.val]? = some (.val (.int v))) (hr : G h kc ks (mkF m pc' L (.int v :: S))) : G h kc ks (mkF m pc L (S)) := by
  subst hp
  exact K.step (fun p e below T c h hx hb0 t hr => XS.iloadN h hx rfl (hb hb0 hd) hl hr) hr
theorem Cx.iload (K : Cx l R Z n0 Q own nm bytes maxL ret m G) {k : Nat} {v : Int32} (hd : decode bytes pc = .ok (.iload k, 2)) (hp : pc + 2 = pc') (hl : L[k]? = some (.val (.int v))) (hr : G h kc ks (mkF m pc' L (.int v :: S))) : G h kc ks (mkF m pc L (S)) := by
  subst hp
  exact K.step (fun p e below T c h hx hb0 t hr => XS.iload h hx rfl (hb hb0 hd) hl hr) hr
theorem Cx.istoreN (K : Cx l R Z n0 Q own nm bytes maxL ret m G) {k : Fin 4} {x : Int32} (hd : decode bytes pc = .ok (.istore_n k, 1)) (hp : pc + 1 = pc') (hl : storeLocals L k.val (.int x) = some L') (hr : G h kc ks (mkF m pc' L' (S))) : G h kc ks (mkF m pc L (.int x :: S)) := by
  subst hp
  exact K.step (fun p e below T c h hx hb0 t hr => XS.istoreN h hx rfl (hb hb0 hd) rfl hl hr) hr
theorem Cx.istore (K : Cx l R Z n0 Q own nm bytes maxL ret m G) {k : Nat} {x : Int32} (hd : decode bytes pc = .ok (.istore k, 2)) (hp : pc + 2 = pc') (hl : storeLocals L k (.int x) = some L') (hr : G h kc ks (mkF m pc' L' (S))) : G h kc ks (mkF m pc L (.int x :: S)) := by
  subst hp
  exact K.step (fun p e below T c h hx hb0 t hr => XS.istore h hx rfl (hb hb0 hd) rfl hl hr) hr
theorem Cx.aloadN (K : Cx l R Z n0 Q own nm bytes maxL ret m G) {k : Fin 4} {v : Value} (hd : decode bytes pc = .ok (.aload_n k, 1)) (hp : pc + 1 = pc') (hl : L[k.val]? = some (.val v)) (hv : v.isRef = true) (hr : G h kc ks (mkF m pc' L (v :: S))) : G h kc ks (mkF m pc L (S)) := by
  subst hp
  exact K.step (fun p e below T c h hx hb0 t hr => XS.aloadN h hx rfl (hb hb0 hd) hl hv hr) hr
theorem Cx.aload (K : Cx l R Z n0 Q own nm bytes maxL ret m G) {k : Nat} {v : Value} (hd : decode bytes pc = .ok (.aload k, 2)) (hp : pc + 2 = pc') (hl : L[k]? = some (.val v)) (hv : v.isRef = true) (hr : G h kc ks (mkF m pc' L (v :: S))) : G h kc ks (mkF m pc L (S)) := by
  subst hp
  exact K.step (fun p e below T c h hx hb0 t hr => XS.aload h hx rfl (hb hb0 hd) hl hv hr) hr
theorem Cx.astoreN (K : Cx l R Z n0 Q own nm bytes maxL ret m G) {k : Fin 4} {x : Value} (hd : decode bytes pc = .ok (.astore_n k, 1)) (hp : pc + 1 = pc') (hv : x.isRef = true) (hl : storeLocals L k.val x = some L') (hr : G h kc ks (mkF m pc' L' (S))) : G h kc ks (mkF m pc L (x :: S)) := by
  subst hp
  exact K.step (fun p e below T c h hx hb0 t hr => XS.astoreN h hx rfl (hb hb0 hd) rfl hv hl hr) hr
theorem Cx.astore (K : Cx l R Z n0 Q own nm bytes maxL ret m G) {k : Nat} {x : Value} (hd : decode bytes pc = .ok (.astore k, 2)) (hp : pc + 2 = pc') (hv : x.isRef = true) (hl : storeLocals L k x = some L') (hr : G h kc ks (mkF m pc' L' (S))) : G h kc ks (mkF m pc L (x :: S)) := by
  subst hp
  exact K.step (fun p e below T c h hx hb0 t hr => XS.astore h hx rfl (hb hb0 hd) rfl hv hl hr) hr
theorem Cx.iconst (K : Cx l R Z n0 Q own nm bytes maxL ret m G) {i : Int} {z : Int32} (hd : decode bytes pc = .ok (.iconst i, 1)) (hp : pc + 1 = pc') (hz : Int32.ofInt i = z) (hr : G h kc ks (mkF m pc' L (.int z :: S))) : G h kc ks (mkF m pc L (S)) := by
  subst hp hz
  exact K.step (fun p e below T c h hx hb0 t hr => XS.iconst h hx rfl (hb hb0 hd) hr) hr
theorem Cx.bipush (K : Cx l R Z n0 Q own nm bytes maxL ret m G) {i : Int} {z : Int32} (hd : decode bytes pc = .ok (.bipush i, 2)) (hp : pc + 2 = pc') (hz : (Int8.ofInt i).toInt32 = z) (hr : G h kc ks (mkF m pc' L (.int z :: S))) : G h kc ks (mkF m pc L (S)) := by
  subst hp hz
  exact K.step (fun p e below T c h hx hb0 t hr => XS.bipush h hx rfl (hb hb0 hd) hr) hr
theorem Cx.sipush (K : Cx l R Z n0 Q own nm bytes maxL ret m G) {i : Int} {z : Int32} (hd : decode bytes pc = .ok (.sipush i, 3)) (hp : pc + 3 = pc') (hz : (Int16.ofInt i).toInt32 = z) (hr : G h kc ks (mkF m pc' L (.int z :: S))) : G h kc ks (mkF m pc L (S)) := by
  subst hp hz
  exact K.step (fun p e below T c h hx hb0 t hr => XS.sipush h hx rfl (hb hb0 hd) hr) hr
theorem Cx.anull (K : Cx l R Z n0 Q own nm bytes maxL ret m G) (hd : decode bytes pc = .ok (.aconst_null, 1)) (hp : pc + 1 = pc')  (hr : G h kc ks (mkF m pc' L (.null :: S))) : G h kc ks (mkF m pc L (S)) := by
  subst hp
  exact K.step (fun p e below T c h hx hb0 t hr => XS.aconstNull h hx rfl (hb hb0 hd) hr) hr
theorem Cx.isub (K : Cx l R Z n0 Q own nm bytes maxL ret m G) {x y z : Int32} (hd : decode bytes pc = .ok (.isub, 1)) (hp : pc + 1 = pc') (hz : x - y = z) (hr : G h kc ks (mkF m pc' L (.int z :: S))) : G h kc ks (mkF m pc L (.int y :: .int x :: S)) := by
  subst hp hz
  exact K.step (fun p e below T c h hx hb0 t hr => XS.isub h hx rfl (hb hb0 hd) rfl hr) hr
theorem Cx.iushr (K : Cx l R Z n0 Q own nm bytes maxL ret m G) {x y z : Int32} (hd : decode bytes pc = .ok (.iushr, 1)) (hp : pc + 1 = pc') (hz : (x.toUInt32 >>> (y &&& 31).toUInt32).toInt32 = z) (hr : G h kc ks (mkF m pc' L (.int z :: S))) : G h kc ks (mkF m pc L (.int y :: .int x :: S)) := by
  subst hp hz
  exact K.step (fun p e below T c h hx hb0 t hr => XS.iushr h hx rfl (hb hb0 hd) rfl hr) hr
theorem Cx.i2b (K : Cx l R Z n0 Q own nm bytes maxL ret m G) {x : Int32} {z : Int32} (hd : decode bytes pc = .ok (.i2b, 1)) (hp : pc + 1 = pc') (hz : x.toInt8.toInt32 = z) (hr : G h kc ks (mkF m pc' L (.int z :: S))) : G h kc ks (mkF m pc L (.int x :: S)) := by
  subst hp hz
  exact K.step (fun p e below T c h hx hb0 t hr => XS.i2b h hx rfl (hb hb0 hd) rfl hr) hr
theorem Cx.iinc (K : Cx l R Z n0 Q own nm bytes maxL ret m G) {k : Nat} {cst : Int} {x z : Int32} (hd : decode bytes pc = .ok (.iinc k cst, 3)) (hp : pc + 3 = pc') (hl : L[k]? = some (.val (.int x))) (hz : x + Int32.ofInt cst = z) (hl' : storeLocals L k (.int z) = some L') (hr : G h kc ks (mkF m pc' L' (S))) : G h kc ks (mkF m pc L (S)) := by
  subst hp hz
  exact K.step (fun p e below T c h hx hb0 t hr => XS.iinc h hx rfl (hb hb0 hd) hl hl' hr) hr
theorem Cx.dup (K : Cx l R Z n0 Q own nm bytes maxL ret m G) {x : Value} (hd : decode bytes pc = .ok (.dup, 1)) (hp : pc + 1 = pc') (hc : x.category = 1) (hr : G h kc ks (mkF m pc' L (x :: x :: S))) : G h kc ks (mkF m pc L (x :: S)) := by
  subst hp
  exact K.step (fun p e below T c h hx hb0 t hr => XS.dup h hx rfl (hb hb0 hd) rfl hc hr) hr
theorem Cx.goto (K : Cx l R Z n0 Q own nm bytes maxL ret m G) {o : Int} (hd : decode bytes pc = .ok (.goto o, 3)) (ho : 0 ≤ (pc : Int) + o) (hp : ((pc : Int) + o).toNat = pc') (hr : G h kc ks (mkF m pc' L S)) : G h kc ks (mkF m pc L S) :=
  K.step (fun p e below T c h hx hb0 t hr => XS.goto h hx rfl (pc0 := pc) (pc' := pc') rfl (hb hb0 hd) ho hp hr) hr
theorem icmpW (cd : ClassFile.Cond) {x y : Int32} {a b : Int} (ha : x.toInt = a) (hb : y.toInt = b) : if_icmp.holds cd x y = (match cd with | .lt => decide (a < b) | .ge => decide (b ≤ a) | .gt => decide (b < a) | .le => decide (a ≤ b) | .eq => decide (a = b) | .ne => decide (a ≠ b)) := by
  subst ha hb
  cases cd <;> rw [Bool.eq_iff_iff] <;> simp [if_icmp.holds, Int32.lt_iff_toInt_lt, Int32.le_iff_toInt_le, Int32.toInt_inj]
theorem Cx.icmp_ge (K : Cx l R Z n0 Q own nm bytes maxL ret m G) {o : Int} {x y : Int32} {a b : Int} (hd : decode bytes pc = .ok (.if_icmp .ge o, 3)) (hp : pc + 3 = pc1) (ho : 0 ≤ (pc : Int) + o) (hq : ((pc : Int) + o).toNat = pc2) (ha : x.toInt = a) (hb' : y.toInt = b) (ht : b ≤ a → G h kc ks (mkF m pc2 L S)) (hf : a < b → G h kc ks (mkF m pc1 L S)) : G h kc ks (mkF m pc L (.int y :: .int x :: S)) := by
  subst hp
  have q := icmpW .ge ha hb'
  by_cases hc : b ≤ a
  · exact K.step (fun p e below T c h hx hb0 t hr => XS.icmpYes h hx rfl (pc0 := pc) (pc' := pc2) rfl (hb hb0 hd) rfl (q.trans (decide_eq_true hc)) ho hq hr) (ht hc)
  · exact K.step (fun p e below T c h hx hb0 t hr => XS.icmpNo h hx rfl (hb hb0 hd) rfl (q.trans (decide_eq_false hc)) hr) (hf (by omega))
theorem Cx.icmp_le (K : Cx l R Z n0 Q own nm bytes maxL ret m G) {o : Int} {x y : Int32} {a b : Int} (hd : decode bytes pc = .ok (.if_icmp .le o, 3)) (hp : pc + 3 = pc1) (ho : 0 ≤ (pc : Int) + o) (hq : ((pc : Int) + o).toNat = pc2) (ha : x.toInt = a) (hb' : y.toInt = b) (ht : a ≤ b → G h kc ks (mkF m pc2 L S)) (hf : b < a → G h kc ks (mkF m pc1 L S)) : G h kc ks (mkF m pc L (.int y :: .int x :: S)) := by
  subst hp
  have q := icmpW .le ha hb'
  by_cases hc : a ≤ b
  · exact K.step (fun p e below T c h hx hb0 t hr => XS.icmpYes h hx rfl (pc0 := pc) (pc' := pc2) rfl (hb hb0 hd) rfl (q.trans (decide_eq_true hc)) ho hq hr) (ht hc)
  · exact K.step (fun p e below T c h hx hb0 t hr => XS.icmpNo h hx rfl (hb hb0 hd) rfl (q.trans (decide_eq_false hc)) hr) (hf (by omega))
theorem Cx.icmp_eq (K : Cx l R Z n0 Q own nm bytes maxL ret m G) {o : Int} {x y : Int32} {a b : Int} (hd : decode bytes pc = .ok (.if_icmp .eq o, 3)) (hp : pc + 3 = pc1) (ho : 0 ≤ (pc : Int) + o) (hq : ((pc : Int) + o).toNat = pc2) (ha : x.toInt = a) (hb' : y.toInt = b) (ht : a = b → G h kc ks (mkF m pc2 L S)) (hf : a ≠ b → G h kc ks (mkF m pc1 L S)) : G h kc ks (mkF m pc L (.int y :: .int x :: S)) := by
  subst hp
  have q := icmpW .eq ha hb'
  by_cases hc : a = b
  · exact K.step (fun p e below T c h hx hb0 t hr => XS.icmpYes h hx rfl (pc0 := pc) (pc' := pc2) rfl (hb hb0 hd) rfl (q.trans (decide_eq_true hc)) ho hq hr) (ht hc)
  · exact K.step (fun p e below T c h hx hb0 t hr => XS.icmpNo h hx rfl (hb hb0 hd) rfl (q.trans (decide_eq_false hc)) hr) (hf (by omega))
theorem Cx.if_eq (K : Cx l R Z n0 Q own nm bytes maxL ret m G) {o : Int} {x : Int32} {a : Int} (hd : decode bytes pc = .ok (.ifCond .eq o, 3)) (hp : pc + 3 = pc1) (ho : 0 ≤ (pc : Int) + o) (hq : ((pc : Int) + o).toNat = pc2) (ha : x.toInt = a) (ht : a = 0 → G h kc ks (mkF m pc2 L S)) (hf : a ≠ 0 → G h kc ks (mkF m pc1 L S)) : G h kc ks (mkF m pc L (.int x :: S)) := by
  subst hp
  have q := (if0 .eq x).trans (icmpW .eq ha (b := 0) rfl)
  by_cases hc : a = 0
  · exact K.step (fun p e below T c h hx hb0 t hr => XS.ifYes h hx rfl (pc0 := pc) (pc' := pc2) rfl (hb hb0 hd) rfl (q.trans (decide_eq_true hc)) ho hq hr) (ht hc)
  · exact K.step (fun p e below T c h hx hb0 t hr => XS.ifNo h hx rfl (hb hb0 hd) rfl (q.trans (decide_eq_false hc)) hr) (hf (by omega))
theorem Cx.icmp_ne (K : Cx l R Z n0 Q own nm bytes maxL ret m G) {o : Int} {x y : Int32} {a b : Int} (hd : decode bytes pc = .ok (.if_icmp .ne o, 3)) (hp : pc + 3 = pc1) (ho : 0 ≤ (pc : Int) + o) (hq : ((pc : Int) + o).toNat = pc2) (ha : x.toInt = a) (hb' : y.toInt = b) (ht : a ≠ b → G h kc ks (mkF m pc2 L S)) (hf : a = b → G h kc ks (mkF m pc1 L S)) : G h kc ks (mkF m pc L (.int y :: .int x :: S)) := by
  subst hp
  have q := icmpW .ne ha hb'
  by_cases hc : a ≠ b
  · exact K.step (fun p e below T c h hx hb0 t hr => XS.icmpYes h hx rfl (pc0 := pc) (pc' := pc2) rfl (hb hb0 hd) rfl (q.trans (decide_eq_true hc)) ho hq hr) (ht hc)
  · exact K.step (fun p e below T c h hx hb0 t hr => XS.icmpNo h hx rfl (hb hb0 hd) rfl (q.trans (decide_eq_false hc)) hr) (hf (by omega))
theorem Cx.if_ne (K : Cx l R Z n0 Q own nm bytes maxL ret m G) {o : Int} {x : Int32} {a : Int} (hd : decode bytes pc = .ok (.ifCond .ne o, 3)) (hp : pc + 3 = pc1) (ho : 0 ≤ (pc : Int) + o) (hq : ((pc : Int) + o).toNat = pc2) (ha : x.toInt = a) (ht : a ≠ 0 → G h kc ks (mkF m pc2 L S)) (hf : a = 0 → G h kc ks (mkF m pc1 L S)) : G h kc ks (mkF m pc L (.int x :: S)) := by
  subst hp
  have q := (if0 .ne x).trans (icmpW .ne ha (b := 0) rfl)
  by_cases hc : a ≠ 0
  · exact K.step (fun p e below T c h hx hb0 t hr => XS.ifYes h hx rfl (pc0 := pc) (pc' := pc2) rfl (hb hb0 hd) rfl (q.trans (decide_eq_true hc)) ho hq hr) (ht hc)
  · exact K.step (fun p e below T c h hx hb0 t hr => XS.ifNo h hx rfl (hb hb0 hd) rfl (q.trans (decide_eq_false hc)) hr) (hf (by omega))
theorem Cx.ifeqB (K : Cx l R Z n0 Q own nm bytes maxL ret m G) {o : Int} {P : Prop} [Decidable P] (hd : decode bytes pc = .ok (.ifCond .eq o, 3)) (hp : pc + 3 = pc1) (ho : 0 ≤ (pc : Int) + o) (hq : ((pc : Int) + o).toNat = pc2) (ht : ¬ P → G h kc ks (mkF m pc2 L S)) (hf : P → G h kc ks (mkF m pc1 L S)) : G h kc ks (mkF m pc L (.int (b2 P) :: S)) :=
  K.if_eq hd hp ho hq rfl (fun q => ht ((b2_eq0 P).mp q)) (fun q => hf ((b2_ne0 P).mp q))
theorem Cx.acmpNe (K : Cx l R Z n0 Q own nm bytes maxL ret m G) {o : Int} {a b : Addr} (hd : decode bytes pc = .ok (.if_acmp .ne o, 3)) (hp : pc + 3 = pc1) (ho : 0 ≤ (pc : Int) + o) (hq : ((pc : Int) + o).toNat = pc2) (ht : a ≠ b → G h kc ks (mkF m pc2 L S)) (hf : a = b → G h kc ks (mkF m pc1 L S)) : G h kc ks (mkF m pc L (.ref b :: .ref a :: S)) := by
  subst hp
  by_cases hc : a = b
  · exact K.step (fun p e below T c h hx hb0 t hr => XS.acmpNo h hx rfl (hb hb0 hd) rfl (by simp [if_acmp.holds, hc]) hr) (hf hc)
  · exact K.step (fun p e below T c h hx hb0 t hr => XS.acmpYes h hx rfl (pc0 := pc) (pc' := pc2) rfl (hb hb0 hd) rfl (by simp [if_acmp.holds, hc]) ho hq hr) (ht hc)
theorem Cx.getf (K : Cx l R Z n0 Q own nm bytes maxL ret m G) {R0 O n d host : String} {index : Nat} {a : Addr} {v : Value} (hd : decode bytes pc = .ok (.getfield index, 3)) (hp : pc + 3 = pc') (w : (Cond.fieldLink own index R0 n d).before a0 Z = true ∨ (Cond.fieldLinkNest own index R0 n d host).before a0 Z = true) (via : Via Z R0 O n d) (F : Fld Z h a O n d v) (hr : G h kc ks (mkF m pc' L (v :: S))) : G h kc ks (mkF m pc L (.ref a :: S)) := by
  subst hp
  exact K.stepX (h' := h) (fun p e s args below meth c T locs X eT hx hb0 hown hZ => RoadKit.getF X hx hZ hown w via eT F (g := mkF m pc L (.ref a :: S)) rfl rfl (hb hb0 hd)) hr
theorem Cx.gets (K : Cx l R Z n0 Q own nm bytes maxL ret m G) {R0 O n d host : String} {index : Nat} {v : Value} (hd : decode bytes pc = .ok (.getstatic index, 3)) (hp : pc + 3 = pc') (w : (Cond.fieldLink own index R0 n d).before a0 Z = true ∨ (Cond.fieldLinkNest own index R0 n d host).before a0 Z = true) (via : Via Z R0 O n d) (F : Sta Z h O n d v) (hr : G h kc ks (mkF m pc' L (v :: S))) : G h kc ks (mkF m pc L S) := by
  subst hp
  exact K.stepX (h' := h) (fun p e s args below meth c T locs X eT hx hb0 hown hZ => RoadKit.getS2 X hx hZ hown w via eT F (g := mkF m pc L S) rfl (hb hb0 hd)) hr
theorem Cx.putf (K : Cx l R Z n0 Q own nm bytes maxL ret m G) {R0 O n d host C : String} {index kk : Nat} {ty : FieldType} {a : Addr} {v old : Value} (hd : decode bytes pc = .ok (.putfield index, 3)) (hp : pc + 3 = pc') (w : (Cond.fieldLink own index R0 n d).before a0 Z = true ∨ (Cond.fieldLinkNest own index R0 n d host).before a0 Z = true) (via : Via Z R0 O n d) (F : Fld Z h a O n d old) (E : Exa Z h a C)
    (LL : (Cond.lays C O n d).before a0 Z = true ∨ ((Cond.laysFinal C O n d).before a0 Z = true ∧ own = O ∧ nm = "<init>")) (wi : (Cond.instantiable C kk).before a0 Z = true) (hty : parseFieldDescriptor d = some ty) (hn : narrow ty v = v) (hf : fits ty v = true) (ga : n0 ≤ a)
    (hr : ∀ h', Wr h h' a (Jvm.RoadKit.slotOf Z O n d) v → G h' kc ks (mkF m pc' L S)) : G h kc ks (mkF m pc L (v :: .ref a :: S)) := by
  obtain ⟨p, e, s, args, below, meth, c, rfl, hx, hby, hml, hown, hZ, hret, hlk, hnm⟩ := K
  subst hp
  intro T locs X eT N
  obtain ⟨T', h', X', e', W, st⟩ := RoadKit.putF X hx hZ hown w via eT F E (LL.imp id fun q => ⟨q.1, q.2.1, hnm.trans q.2.2⟩) wi hty hn hf (g := mkF m pc L (v :: .ref a :: S)) rfl rfl (hb hby hd)
  obtain ⟨s₂, o, h1, h2⟩ := hr h' W T' _ X' e' (Fr.snoc X' N ga)
  exact ⟨s₂, o, st _ h1, h2⟩
theorem Cx.newo (K : Cx l R Z n0 Q own nm bytes maxL ret m G) {C : String} {index n : Nat} (hd : decode bytes pc = .ok (.new index, 3)) (hp : pc + 3 = pc') (w : (Cond.classLink own index C).before a0 Z = true) (wi : (Cond.instantiable C n).before a0 Z = true) (wz : (Cond.initialized C).before a0 Z = true) (hc : kc + 1 ≤ R.cells) (hl : ks + n ≤ R.slots)
    (hr : ∀ h' a, a = h.size → Ext h h' → Exa Z h' a C → (∀ {O nm d : String} {ty : FieldType}, Laid Z a0 C O nm d → parseFieldDescriptor d = some ty → Fld Z h' a O nm d (defaultValue ty)) → G h' (kc + 1) (ks + n) (mkF m pc' L (.ref a :: S))) : G h kc ks (mkF m pc L S) := by
  obtain ⟨p, e, s, args, below, meth, c, rfl, hx, hby, hml, hown, hZ, hret, hlk, hnm⟩ := K
  subst hp
  intro T locs X eT N
  obtain ⟨T', h', X', e', E, A, D, -, st⟩ := RoadKit.newO X hx hZ hown w wi wz eT (g := mkF m pc L S) rfl (hb hby hd) hc hl
  obtain ⟨s₂, o, h1, h2⟩ := hr h' _ rfl E A D T' _ X' e' N
  exact ⟨s₂, o, st _ h1, h2⟩
theorem Cx.newa (K : Cx l R Z n0 Q own nm bytes maxL ret m G) {aty : ArrayType} {n : Int32} {k cap : Nat} (hd : decode bytes pc = .ok (.newarray aty, 2)) (hp : pc + 2 = pc') (w : (Cond.arrayClass (newarray.typeOf aty)).before a0 Z = true) (hn : n.toInt = (k : Nat)) (hk : k ≤ cap) (hbig : cap * 8 ≤ 536870912) (hc : kc + 1 ≤ R.cells) (hl : ks + cap ≤ R.slots) {ad : String} (had : "[" ++ (newarray.typeOf aty).toString = ad)
    (hr : ∀ h' a, a = h.size → Ext h h' → Ary Z h' a (newarray.typeOf aty) (List.replicate k (defaultValue (newarray.typeOf aty))) → Exa Z h' a ad → G h' (kc + 1) (ks + cap) (mkF m pc' L (.ref a :: S))) : G h kc ks (mkF m pc L (.int n :: S)) := by
  obtain ⟨p, e, s, args, below, meth, c, rfl, hx, hby, hml, hown, hZ, hret, hlk, hnm⟩ := K
  subst hp
  intro T locs X eT N
  have hn0 : ¬ n < 0 := by rw [Int32.lt_iff_toInt_lt, hn, show (0 : Int32).toInt = 0 from rfl]; omega
  obtain ⟨T', h', cA, X', e', E, A, EX, st⟩ := RoadKit.newPE X hx hZ w eT (g := mkF m pc L (.int n :: S)) rfl (hb hby hd) rfl hn0 (cap := cap) (by rw [clamp_of hn]; exact hk) hbig hc hl had
  obtain ⟨s₂, o, h1, h2⟩ := hr h' _ rfl E ⟨_, A, by simp [newA, clamp_of hn], by rw [List.length_replicate]; have := n.toInt_lt; omega⟩ EX T' _ X' e' N
  exact ⟨s₂, o, st _ h1, h2⟩
theorem Cx.cald (K : Cx l R Z n0 Q own nm bytes maxL ret m G) {a : Addr} {vs : List Value} {j : Int32} {i : Nat} {v : Value} (hd : decode bytes pc = .ok (.caload, 1)) (hp : pc + 1 = pc') (A : Ary Z h a .char vs) (hj : j.toInt = (i : Nat)) (hv : vs[i]? = some v) (hr : G h kc ks (mkF m pc' L (v :: S))) : G h kc ks (mkF m pc L (.int j :: .ref a :: S)) := by
  subst hp
  obtain ⟨cl, Ar, rfl, hlt⟩ := A
  have hi : i < cl.slots.toList.length := (List.getElem?_eq_some_iff.mp hv).1
  exact K.stepX (h' := h) (fun p e s args below meth c T locs X eT hx hb0 hown hZ => ⟨T, X, eT, fun t hr => X.caload hx (j := j) (v := v) (by rw [eT]; exact Ar.1) (State.isArrayOf_alike hZ.alike Ar.2.1) Ar.2.2 (in_of hj hi) (at_of hj hv) (g := mkF m pc L (.int j :: .ref a :: S)) rfl rfl (hb hb0 hd) _ hr⟩) hr
theorem Cx.bald (K : Cx l R Z n0 Q own nm bytes maxL ret m G) {a : Addr} {vs : List Value} {j : Int32} {i : Nat} {v : Value} (hd : decode bytes pc = .ok (.baload, 1)) (hp : pc + 1 = pc') (A : Ary Z h a .byte vs) (hj : j.toInt = (i : Nat)) (hv : vs[i]? = some v) (hr : G h kc ks (mkF m pc' L (v :: S))) : G h kc ks (mkF m pc L (.int j :: .ref a :: S)) := by
  subst hp
  obtain ⟨cl, Ar, rfl, hlt⟩ := A
  have hi : i < cl.slots.toList.length := (List.getElem?_eq_some_iff.mp hv).1
  exact K.stepX (h' := h) (fun p e s args below meth c T locs X eT hx hb0 hown hZ => ⟨T, X, eT, fun t hr => X.baloadBytes hx (j := j) (v := v) (by rw [eT]; exact Ar.1) (State.isArrayOf_alike hZ.alike Ar.2.1) Ar.2.2 (in_of hj hi) (at_of hj hv) (g := mkF m pc L (.int j :: .ref a :: S)) rfl rfl (hb hb0 hd) _ hr⟩) hr
theorem Cx.alen (K : Cx l R Z n0 Q own nm bytes maxL ret m G) {a : Addr} {vs : List Value} {ty : FieldType} (hd : decode bytes pc = .ok (.arraylength, 1)) (hp : pc + 1 = pc') (A : Ary Z h a ty vs) (hr : ∀ z : Int32, z.toInt = (vs.length : Nat) → G h kc ks (mkF m pc' L (.int z :: S))) : G h kc ks (mkF m pc L (.ref a :: S)) := by
  subst hp
  obtain ⟨cl, Ar, rfl, hlt⟩ := A
  refine K.stepX (h' := h) (f' := mkF m (pc + 1) L (.int cl.slots.size.toInt32 :: S)) (fun p e s args below meth c T locs X eT hx hb0 hown hZ => ⟨T, X, eT, fun t hr => X.arraylength hx (by rw [eT]; exact Ar.1) (State.isArrayOf_alike hZ.alike Ar.2.1) (g := mkF m pc L (.ref a :: S)) rfl rfl (hb hb0 hd) _ hr⟩) (hr _ ?_)
  rw [Array.length_toList] at hlt ⊢
  exact len_int hlt
theorem Cx.cast_ (K : Cx l R Z n0 Q own nm bytes maxL ret m G) {a : Addr} {vs : List Value} {j : Int32} {x : Int32} {i : Nat} (hd : decode bytes pc = .ok (.castore, 1)) (hp : pc + 1 = pc') (A : Ary Z h a .char vs) (hj : j.toInt = (i : Nat)) (hi : i < vs.length) (ga : n0 ≤ a) (hr : ∀ h', Wr h h' a i (.int (nar .char x)) → Ary Z h' a .char (vs.set i (.int (nar .char x))) → G h' kc ks (mkF m pc' L S)) : G h kc ks (mkF m pc L (.int x :: .int j :: .ref a :: S)) := by
  obtain ⟨p, e, s, args, below, meth, c, rfl, hx, hby, hml, hown, hZ, hret, hlk, hnm⟩ := K
  subst hp
  intro T locs X eT N
  have A0 := A
  obtain ⟨cl, Ar, rfl, hlt⟩ := A
  obtain ⟨T', h', X', e', W, st⟩ := RoadKit.stC X hx hZ eT Ar (j := j) (in_of hj hi) (g := mkF m pc L (.int x :: .int j :: .ref a :: S)) rfl rfl (hb hby hd)
  have W' := W
  rw [clamp_of hj] at W'
  obtain ⟨s₂, o, h1, h2⟩ := hr h' W' (A0.same W') T' _ X' e' (Fr.snoc X' N ga)
  exact ⟨s₂, o, st _ h1, h2⟩
theorem Cx.bast (K : Cx l R Z n0 Q own nm bytes maxL ret m G) {a : Addr} {vs : List Value} {j : Int32} {x : Int32} {i : Nat} (hd : decode bytes pc = .ok (.bastore, 1)) (hp : pc + 1 = pc') (A : Ary Z h a .byte vs) (hj : j.toInt = (i : Nat)) (hi : i < vs.length) (ga : n0 ≤ a) (hr : ∀ h', Wr h h' a i (.int (nar .byte x)) → Ary Z h' a .byte (vs.set i (.int (nar .byte x))) → G h' kc ks (mkF m pc' L S)) : G h kc ks (mkF m pc L (.int x :: .int j :: .ref a :: S)) := by
  obtain ⟨p, e, s, args, below, meth, c, rfl, hx, hby, hml, hown, hZ, hret, hlk, hnm⟩ := K
  subst hp
  intro T locs X eT N
  have A0 := A
  obtain ⟨cl, Ar, rfl, hlt⟩ := A
  obtain ⟨T', h', X', e', W, st⟩ := RoadKit.stB X hx hZ eT Ar (j := j) (in_of hj hi) (g := mkF m pc L (.int x :: .int j :: .ref a :: S)) rfl rfl (hb hby hd)
  have W' := W
  rw [clamp_of hj] at W'
  obtain ⟨s₂, o, h1, h2⟩ := hr h' W' (A0.same W') T' _ X' e' (Fr.snoc X' N ga)
  exact ⟨s₂, o, st _ h1, h2⟩
theorem Cx.init0 (K : Cx l R Z n0 Q own nm bytes maxL ret m G) {idx W : Nat} {a : Addr} (hd : decode bytes pc = .ok (.invokespecial idx, 3)) (hp : pc + 3 = pc') (w1 : (Cond.methodLink own idx Lib.objectInit).before a0 Z = true) (w2 : (Cond.instanceMethod Lib.objectInit).before a0 Z = true) (w3 : (Cond.code Lib.objectInit ⟨#[0xb1]⟩ 1 none).before a0 Z = true) (hL : L.size = maxL) (hf : 1 ≤ R.frames) (hW : (S.map fun v => v.category).sum ≤ W) (hl : W + 12 ≤ R.locals)
    (hr : G h kc ks (mkF m pc' L S)) : G h kc ks (mkF m pc L (.ref a :: S)) := by
  obtain ⟨p, e, s, args, below, meth, c, rfl, hx, hby, hml, hown, hZ, hret, hlk, hnm⟩ := K
  subst hp
  intro T locs X eT N
  obtain ⟨T', X', e', st⟩ := RoadKit.initO X hx hZ hown w1 w2 w3 eT (g := mkF m pc L (.ref a :: S)) rfl (by rw [hml]; exact hL) rfl (hb hby hd) hf (W := W) (by show 2 * 0 + _ ≤ _; omega) hl
  obtain ⟨s₂, o, h1, h2⟩ := hr T' _ X' e' N
  exact ⟨s₂, o, st _ h1, h2⟩
theorem Cx.calls (K : Cx l R Z n0 Q own nm bytes maxL ret m G) {y : MethodName} {b' : ByteArray} {ml' : Nat} {rt' r : Option FieldType} {rm : Room} {Qc : Option Value → Heap → Prop} {index : Nat} {argsL rest : List Value} {W : Nat} {ps : List FieldType} (hd : decode bytes pc = .ok (.invokestatic index, 3)) (hp : pc + 3 = pc') (M : MeetsW l Z n0 y b' ml' rt' rm argsL.toArray h Qc) (w1 : (Cond.methodLink own index y).before a0 Z = true) (w2 : (Cond.static y).before a0 Z = true) (w3 : (Cond.initialized y.cls).before a0 Z = true) (w4 : (Cond.code y b' ml' rt').before a0 Z = true) (hy : y.cls ≠ "java/lang/invoke/MethodHandle" ∧ y.cls ≠ "java/lang/invoke/VarHandle") (hpd : parseMethodDescriptor y.desc = some ⟨ps, r⟩) (hlen : argsL.length = ps.length) (hL : L.size = maxL) (hW : (rest.map fun v => v.category).sum ≤ W) (hf : rm.frames + 1 ≤ R.frames) (hl : W + (ml' + 11) + rm.locals ≤ R.locals) (hc : kc + rm.cells ≤ R.cells) (hsl : ks + rm.slots ≤ R.slots) (hr : ∀ v h', Qc v h' → G h' (kc + rm.cells) (ks + rm.slots) (mkF m pc' L (v.toList ++ rest))) : G h kc ks (mkF m pc L (argsL.reverse ++ rest)) := by
  obtain ⟨p, e, s, args, below, meth, c, rfl, hx, hby, hml, hown, hZ, hret, hlk, hnm⟩ := K
  subst hp
  intro T locs X eT N
  obtain ⟨v, _, ⟨T', Lo, ko, no⟩, -, X', ⟨Lc, hQ, l', y', z'⟩, st⟩ := Jvm.LawKit.callS X hx (y := y) hown (mvT hZ w1) (mvT hZ w2) (mvT hZ w3) (mvT hZ w4) hy (backOf (Q := fun v h L => Qc v h ∧ Fr n0 L) (W := W) (M []) hZ w4 w3 hf hl) (g := mkF m pc L (argsL.reverse ++ rest)) rfl (by rw [hml]; exact hL) (argsL := argsL) (rest := rest) (lenOf hpd hlen) rfl (by show 2 * 0 + _ ≤ _; omega) (hb hby hd) (fun _ _ => ⟨rfl, eT, hc, hsl⟩)
  dsimp only [Pt.U, Pt.locs, Pt.cells, Pt.slots] at X' l' y' z' st hQ
  subst l' y' z'
  obtain ⟨s₂, o, h1, h2⟩ := hr v T'.heap hQ.1 T' _ X' rfl (Fr.app N hQ.2)
  exact ⟨s₂, o, st _ h1, h2⟩
theorem Cx.callc (K : Cx l R Z n0 Q own nm bytes maxL ret m G) {y : MethodName} {b' : ByteArray} {ml' : Nat} {r : Option FieldType} {rm : Room} {Qc : Option Value → Heap → Prop} {index : Nat} {argsL rest : List Value} {W : Nat} {ps : List FieldType} {a : Addr} (hd : decode bytes pc = .ok (.invokespecial index, 3)) (hp : pc + 3 = pc') (hi : y.name = "<init>") (M : MeetsW l Z n0 y b' ml' none rm (Value.ref a :: argsL).toArray h Qc) (w1 : (Cond.methodLink own index y).before a0 Z = true) (w2 : (Cond.instanceMethod y).before a0 Z = true) (w3 : (Cond.initialized y.cls).before a0 Z = true) (w4 : (Cond.code y b' ml' none).before a0 Z = true) (hy : y.cls ≠ "java/lang/invoke/MethodHandle" ∧ y.cls ≠ "java/lang/invoke/VarHandle") (hpd : parseMethodDescriptor y.desc = some ⟨ps, r⟩) (hlen : argsL.length = ps.length) (hL : L.size = maxL) (hW : (rest.map fun v => v.category).sum ≤ W) (hf : rm.frames + 1 ≤ R.frames) (hl : W + (ml' + 11) + rm.locals ≤ R.locals) (hc : kc + rm.cells ≤ R.cells) (hsl : ks + rm.slots ≤ R.slots) (hr : ∀ v h', Qc v h' → G h' (kc + rm.cells) (ks + rm.slots) (mkF m pc' L (v.toList ++ rest))) : G h kc ks (mkF m pc L (argsL.reverse ++ .ref a :: rest)) := by
  obtain ⟨p, e, s, args, below, meth, c, rfl, hx, hby, hml, hown, hZ, hret, hlk, hnm⟩ := K
  subst hp
  intro T locs X eT N
  obtain ⟨v, _, ⟨T', Lo, ko, no⟩, -, X', ⟨Lc, hQ, l', y', z'⟩, st⟩ := X.specialBack hx (y := y) hi hown (mvT hZ w1) (mvT hZ w2) (mvT hZ w4) hy (backOf (Q := fun v h L => Qc v h ∧ Fr n0 L) (W := W) (M []) hZ w4 w3 hf hl) (g := mkF m pc L (argsL.reverse ++ .ref a :: rest)) rfl (by rw [hml]; exact hL) (Steps.refl _) (a := a) (argsL := argsL) (rest := rest) (lenOf hpd hlen) rfl (by show 2 * 0 + _ ≤ _; omega) (hb hby hd) (fun _ _ => ⟨rfl, eT, hc, hsl⟩)
  dsimp only [Pt.U, Pt.locs, Pt.cells, Pt.slots] at X' l' y' z' st hQ
  subst l' y' z'
  obtain ⟨s₂, o, h1, h2⟩ := hr v T'.heap hQ.1 T' _ X' rfl (Fr.app N hQ.2)
  exact ⟨s₂, o, st.trans h1, h2⟩
theorem Cx.callv (K : Cx l R Z n0 Q own nm bytes maxL ret m G) {y z : MethodName} {b' : ByteArray} {ml' : Nat} {rt' r : Option FieldType} {rm : Room} {Qc : Option Value → Heap → Prop} {index : Nat} {argsL rest : List Value} {W : Nat} {ps : List FieldType} {C : String} {a : Addr} (hd : decode bytes pc = .ok (.invokevirtual index, 3)) (hp : pc + 3 = pc') (M : MeetsW l Z n0 z b' ml' rt' rm (Value.ref a :: argsL).toArray h Qc) (E : Exa Z h a C) (w1 : (Cond.methodLink own index y).before a0 Z = true) (w5 : (Cond.declares y).before a0 Z = true) (nf : ∀ s : State, Z.Warmed39 s.vm → NotFace s y) (w6 : (Cond.selects C y z).before a0 Z = true) (w2 : (Cond.instanceMethod z).before a0 Z = true) (w3 : (Cond.initialized z.cls).before a0 Z = true) (w4 : (Cond.code z b' ml' rt').before a0 Z = true) (hy : y.cls ≠ "java/lang/invoke/MethodHandle" ∧ y.cls ≠ "java/lang/invoke/VarHandle") (hpd : parseMethodDescriptor y.desc = some ⟨ps, r⟩) (hlen : argsL.length = ps.length) (hL : L.size = maxL) (hW : (rest.map fun v => v.category).sum ≤ W) (hf : rm.frames + 1 ≤ R.frames) (hl : W + (ml' + 11) + rm.locals ≤ R.locals) (hc : kc + rm.cells ≤ R.cells) (hsl : ks + rm.slots ≤ R.slots) (hr : ∀ v h', Qc v h' → G h' (kc + rm.cells) (ks + rm.slots) (mkF m pc' L (v.toList ++ rest))) : G h kc ks (mkF m pc L (argsL.reverse ++ .ref a :: rest)) := by
  obtain ⟨p, e, s, args, below, meth, c, rfl, hx, hby, hml, hown, hZ, hret, hlk, hnm⟩ := K
  subst hp
  intro T locs X eT N
  obtain ⟨cq, kq, qa, qb, qc⟩ := isOf hZ eT E
  obtain ⟨v, _, ⟨T', Lo, ko, no⟩, -, X', ⟨Lc, hQ, l', y', z'⟩, st⟩ := X.virtualBack hx (y := y) (z := z) hown (mvT hZ w1) (mvT hZ w5) (nf s hZ) (mvT hZ w6) (mvT hZ w2) hy (backOf (Q := fun v h L => Qc v h ∧ Fr n0 L) (W := W) (M []) hZ w4 w3 hf hl) qa qc (g := mkF m pc L (argsL.reverse ++ .ref a :: rest)) rfl (by rw [hml]; exact hL) (Steps.refl _) (argsL := argsL) (rest := rest) (lenOf hpd hlen) rfl (by show 2 * 0 + _ ≤ _; omega) (hb hby hd) (fun _ _ => ⟨rfl, eT, hc, hsl⟩)
  dsimp only [Pt.U, Pt.locs, Pt.cells, Pt.slots] at X' l' y' z' st hQ
  subst l' y' z'
  obtain ⟨s₂, o, h1, h2⟩ := hr v T'.heap hQ.1 T' _ X' rfl (Fr.app N hQ.2)
  exact ⟨s₂, o, st.trans h1, h2⟩
theorem nf_sel {y z : MethodName} {C : String} (w : (Cond.selects C y z).before a0 Z = true) (hyz : y = z) : ∀ s : State, Z.Warmed39 s.vm → NotFace s y := fun s hZ => by subst hyz; exact notFace_of_selects (args := #[]) (mvT hZ w)
theorem Cx.ccast (K : Cx l R Z n0 Q own nm bytes maxL ret m G) {index : Nat} {Kc : String} {a : Addr} (hd : decode bytes pc = .ok (.checkcast index, 3)) (hp : pc + 3 = pc') (w : (Cond.classLink own index Kc).before a0 Z = true) (F : Ins Z h a Kc true) (hr : G h kc ks (mkF m pc' L (.ref a :: S))) : G h kc ks (mkF m pc L (.ref a :: S)) := by
  subst hp
  exact K.stepX (h' := h) (fun p e s args below meth c T locs X eT hx hb0 hown hZ => RoadKit.castY X hx hZ hown w eT F (g := mkF m pc L (.ref a :: S)) rfl rfl (hb hb0 hd)) hr
theorem Cx.reti (K : Cx l R Z n0 Q own nm bytes maxL (some .int) m G) {z : Int32} (hd : decode bytes pc = .ok (.ireturn, 1)) (hc : kc ≤ R.cells) (hs : ks ≤ R.slots) (hQ : Q (some (.int z)) h) : G h kc ks (mkF m pc L (.int z :: S)) := by
  obtain ⟨p, e, s, args, below, meth, c, rfl, hx, hby, hml, hown, hZ, hret, hlk, hnm⟩ := K
  intro T locs X eT N
  obtain ⟨fs, hr, hrun, hended, hW, hsame⟩ := X.leave (v := some (.int z)) (fun h => by rw [hret] at h; cases h) hlk
  refine ⟨_, _, ?_, hrun, hended, _, _, rfl, ⟨?_, N⟩, ⟨_, rfl⟩, hW, hsame.mono hc hs⟩
  · exact retOut X hx hret rfl (Or.inl ⟨rfl, Or.inl rfl, _, rfl⟩) (hb hby hd) hr
  · show Q _ T.heap
    rw [eT]; exact hQ
theorem Cx.retz (K : Cx l R Z n0 Q own nm bytes maxL (some .boolean) m G) {z : Int32} (hd : decode bytes pc = .ok (.ireturn, 1)) (hz : z = 0 ∨ z = 1) (hc : kc ≤ R.cells) (hs : ks ≤ R.slots) (hQ : Q (some (.int z)) h) : G h kc ks (mkF m pc L (.int z :: S)) := by
  obtain ⟨p, e, s, args, below, meth, c, rfl, hx, hby, hml, hown, hZ, hret, hlk, hnm⟩ := K
  intro T locs X eT N
  obtain ⟨fs, hr, hrun, hended, hW, hsame⟩ := X.leave (v := some (.int z)) (fun h => by rw [hret] at h; cases h) hlk
  refine ⟨_, _, ?_, hrun, hended, _, _, rfl, ⟨?_, N⟩, ⟨_, rfl⟩, hW, hsame.mono hc hs⟩
  · exact retOut X hx hret (by rcases hz with rfl | rfl <;> rfl) (Or.inl ⟨rfl, Or.inr (Or.inl rfl), _, rfl⟩) (hb hby hd) hr
  · show Q _ T.heap
    rw [eT]; exact hQ
theorem Cx.reta {t : FieldType} (K : Cx l R Z n0 Q own nm bytes maxL (some t) m G) {v : Value} (hd : decode bytes pc = .ok (.areturn, 1)) (ht : t.isReference = true) (hn : narrow t v = v) (hv : v.isRef = true) (hc : kc ≤ R.cells) (hs : ks ≤ R.slots) (hQ : Q (some v) h) : G h kc ks (mkF m pc L (v :: S)) := by
  obtain ⟨p, e, s, args, below, meth, c, rfl, hx, hby, hml, hown, hZ, hret, hlk, hnm⟩ := K
  intro T locs X eT N
  obtain ⟨fs, hr, hrun, hended, hW, hsame⟩ := X.leave (v := some v) (fun h => by rw [hret] at h; cases h) hlk
  refine ⟨_, _, ?_, hrun, hended, _, _, rfl, ⟨?_, N⟩, ⟨_, rfl⟩, hW, hsame.mono hc hs⟩
  · exact retOut X hx hret hn (Or.inr (Or.inr (Or.inr (Or.inr ⟨rfl, ht, hv⟩)))) (hb hby hd) hr
  · show Q _ T.heap
    rw [eT]; exact hQ
theorem Cx.ret0 (K : Cx l R Z n0 Q own nm bytes maxL none m G) (hd : decode bytes pc = .ok (.return_, 1)) (hc : kc ≤ R.cells) (hs : ks ≤ R.slots) (hQ : Q none h) : G h kc ks (mkF m pc L []) := by
  obtain ⟨p, e, s, args, below, meth, c, rfl, hx, hby, hml, hown, hZ, hret, hlk, hnm⟩ := K
  intro T locs X eT N
  obtain ⟨fs, hr, hrun, hended, hW, hsame⟩ := X.leave (v := none) (fun h => rfl) hlk
  refine ⟨_, _, ?_, hrun, hended, _, _, rfl, ⟨?_, N⟩, ⟨_, rfl⟩, hW, hsame.mono hc hs⟩
  · exact X.returnOut hx hret (hb hby hd) hr
  · show Q _ T.heap
    rw [eT]; exact hQ
end Steps
end Jvm.Wk
namespace Jvm.Wk
section More
variable {l : Launch} {R : Room} {Z : State} {n0 : Nat} {Q : Option Value → Heap → Prop} {own nm : String} {bytes : ByteArray} {maxL : Nat} {ret : Option FieldType} {m : MethodId} {G : Heap → Nat → Nat → JFrame → Prop} {h : Heap} {kc ks pc pc' pc1 pc2 : Nat} {L L' : Array Slot} {S : List Value} {a0 : Array Value}
open Sem ClassFile Op Lib Jvm.Stand Jvm.Free Jvm.LawKit Jvm.RoadKit
theorem Cx.retb (K : Cx l R Z n0 Q own nm bytes maxL (some .byte) m G) {z : Int32} (hd : decode bytes pc = .ok (.ireturn, 1)) (hz : narrow .byte (.int z) = .int z) (hc : kc ≤ R.cells) (hs : ks ≤ R.slots) (hQ : Q (some (.int z)) h) : G h kc ks (mkF m pc L (.int z :: S)) := by
  obtain ⟨p, e, s, args, below, meth, c, rfl, hx, hby, hml, hown, hZ, hret, hlk, hnm⟩ := K
  intro T locs X eT N
  obtain ⟨fs, hr, hrun, hended, hW, hsame⟩ := X.leave (v := some (.int z)) (fun h => by rw [hret] at h; cases h) hlk
  refine ⟨_, _, ?_, hrun, hended, _, _, rfl, ⟨?_, N⟩, ⟨_, rfl⟩, hW, hsame.mono hc hs⟩
  · exact retOut X hx hret hz (Or.inl ⟨rfl, Or.inr (Or.inr (Or.inl rfl)), _, rfl⟩) (hb hby hd) hr
  · show Q _ T.heap
    rw [eT]; exact hQ
theorem Cx.inst (K : Cx l R Z n0 Q own nm bytes maxL ret m G) {index : Nat} {Kc : String} {a : Addr} (hd : decode bytes pc = .ok (.instanceof index, 3)) (hp : pc + 3 = pc') (w : (Cond.classLink own index Kc).before a0 Z = true) (F : Ins Z h a Kc true) (hr : G h kc ks (mkF m pc' L (.int 1 :: S))) : G h kc ks (mkF m pc L (.ref a :: S)) := by
  subst hp
  exact K.stepX (h' := h) (fun p e s args below meth c T locs X eT hx hb0 hown hZ => RoadKit.instY X hx hZ hown w eT F (g := mkF m pc L (.ref a :: S)) rfl rfl (hb hb0 hd)) hr
theorem fld_one {a : Addr} {C n d : String} {v w : Value} (F : Fld Z h a C n d v) (F' : Fld Z h a C n d w) : v = w := by
  obtain ⟨c1, cf1, k1, i1, f1, e1, g1, -, -, -, -, r1⟩ := F
  obtain ⟨c2, cf2, k2, i2, f2, e2, g2, -, -, -, -, r2⟩ := F'
  cases e1.symm.trans e2
  cases g1.symm.trans g2
  exact Option.some.inj (r1.symm.trans r2)
theorem MeetsW.mono {y : MethodName} {rm : Room} {as' : Array Value} {h0 : Heap} {Q' : Option Value → Heap → Prop} (M : MeetsW l Z n0 y bytes maxL ret rm as' h0 Q) (hQ : ∀ v h', Q v h' → Q' v h') : MeetsW l Z n0 y bytes maxL ret rm as' h0 Q' := by
  intro ws p e ha hc hk s m args below hf happ hP hK
  obtain ⟨n, o, h1, h2, h3, v, L, e1, e2, e3⟩ := M ws p e ha hc hk s m args below hf happ hP hK
  exact ⟨n, o, h1, h2, h3, v, L, e1, ⟨hQ _ _ e2.1, e2.2⟩, e3⟩
theorem ext_refl (h : Heap) : Ext h h := ⟨Nat.le_refl _, fun _ _ q => q⟩
theorem ne_fld {a b c : Addr} {C n d : String} (F : Fld Z h a C n d (.ref c)) (F' : Fld Z h b C n d .null) : a ≠ b := fun q => by
  subst q
  exact absurd (fld_one F F') (by simp)
theorem ne_arr {b x : Addr} {C : String} {n : Nat} {ty : FieldType} {vs : List Value} {k : ClassId} {z : Int32} {d : Value} (A : Arv Z h b k ty z vs d) (E : Exa Z h x C) (w : (Cond.instantiable C n).before a0 Z = true) : b ≠ x := Ne.symm (Exa.neArv E A w)
end More
end Jvm.Wk
namespace Jvm.Wv
open Sem ClassFile Op Lib Jvm.Stand Jvm.Free Jvm.LawKit Jvm.RoadKit Jvm.Wk
/-- what is known of the constant "" of java/lang/String (entry 7) in these tables -/
def LV (Z : State) (vm : Vm) : Option Addr → Prop
  | none => IB Z vm []
  | some a => Lit (Z.setVm vm) "java/lang/String" 7 a
theorem LV.warm {Z s : State} {vm1 : Vm} {lv : Option Addr} (V : LV Z s.vm lv) (hW : s.WarmedH vm1) : LV Z vm1 lv := by
  cases lv with
  | none => obtain ⟨more, e, r⟩ := V; exact ⟨more, hW.interned_eq.trans e, r⟩
  | some a => exact Lit.stays (s := s) (vm0 := s.vm) (vm1 := vm1) V hW.wide
/-- no old cell is changed: no place is freed -/
theorem relocs {p : Program} {l : Launch} {e : Env} {R : Room} {s : State} {m : MethodId} {args : Array Value} {below : List Frame} {meth : Method} {c : Code} {T : State} {locs : List Loc} {cells slots : Nat} (X : Stand p l e R s m args below meth c T locs cells slots) (hold : ∀ (b : Addr) (cl : Cell), s.heap[b]? = some cl → T.heap[b]? = some cl) : Stand p l e R s m args below meth c T [] cells slots :=
  { X with same := ⟨X.same.1, X.same.2.1, X.same.2.2.1, X.same.2.2.2.1, X.same.2.2.2.2.1, fun a cl q => ⟨cl, hold a cl q, rfl, rfl, fun _ _ => rfl⟩⟩ }
def Go (p : Program) (l : Launch) (e : Env) (R : Room) (s : State) (m : MethodId) (args : Array Value) (below : List Frame) (meth : Method) (c : Code) (n0 : Nat) (Z : State) (lv : Option Addr) (Q : Option Value → Heap → Option Addr → Prop) (h : Heap) (kc ks : Nat) (f : JFrame) : Prop :=
  ∀ (vm0 : Vm) (n1 : Nat), s.Since vm0 n1 → n1 ≤ h.size → LV Z vm0 lv → ∀ (T : State) (locs : List Loc), Stand p l e R (s.setVm vm0) m args below meth c T locs kc ks → T.heap = h → Fr n0 locs →
    ∃ s₂ o, Steps p.tables e below (T.setTop f) s₂ ∧ s₂.status = .running ∧ Ended s₂ below o ∧ ∃ v L, o = .returned v ∧ ((∃ lv', LV Z s₂.vm lv' ∧ Q v s₂.heap lv') ∧ Fr n0 L) ∧ ReturnedEndW s o s₂ L R.cells R.slots
def Cx (l : Launch) (R : Room) (Z : State) (n0 : Nat) (Q : Option Value → Heap → Option Addr → Prop) (own nm : String) (bytes : ByteArray) (maxL : Nat) (ret : Option FieldType) (m : MethodId) (lv : Option Addr) (hE : Heap) (G : Heap → Nat → Nat → JFrame → Prop) : Prop :=
  ∃ (p : Program) (e : Env) (s : State) (args : Array Value) (below : List Frame) (meth : Method) (c : Code), G = Go p l e R s m args below meth c n0 Z lv Q ∧ p.tables.exec = Jvm.exec ∧ c.code = bytes ∧ c.maxLocals = maxL ∧ s.vm.findClass own = some m.cls ∧ Z.Warmed39 s.vm ∧ meth.sig.returnType = ret ∧ meth.locks = false ∧ meth.name = nm ∧ s.heap = hE
def MeetsV (l : Launch) (Z : State) (n0 : Nat) (y : MethodName) (bytes : ByteArray) (maxL : Nat) (ret : Option FieldType) (rm : Room) (as' : Array Value) (h0 : Heap) (lv : Option Addr) (Q : Option Value → Heap → Option Addr → Prop) : Prop :=
  ∀ ws : List Cond, MetFree l y (head1 (Cond.code y bytes maxL ret :: ws) rm) (fun a U => a = as' ∧ Z.Warmed39 U.vm ∧ U.heap = h0 ∧ LV Z U.vm lv) (fun _ _ _ _ _ => True) (fun _ U o U' => ∃ v L, o = .returned v ∧ ((∃ lv', LV Z U'.vm lv' ∧ Q v U'.heap lv') ∧ Fr n0 L) ∧ ReturnedEndW U o U' L rm.cells rm.slots)
section Calls
variable {p : Program} {l : Launch} {e : Env} {R : Room} {s : State} {args : Array Value} {below : List Frame} {Z : State} {a0 : Array Value} {h : Heap} {n0 : Nat} {lv : Option Addr}
theorem backOfV {y : MethodName} {bytes : ByteArray} {maxL : Nat} {ret : Option FieldType} {rm : Room} {len W : Nat} {as' : Array Value} {Q : Option Value → Heap → Vm → List Loc → Prop}
    (hM : MetFree l y (head1 [Cond.code y bytes maxL ret] rm) (fun a U => a = as' ∧ Z.Warmed39 U.vm ∧ U.heap = h ∧ LV Z U.vm lv) (fun _ _ _ _ _ => True) (fun _ U o U' => ∃ v L, o = .returned v ∧ Q v U'.heap U'.vm L ∧ ReturnedEndW U o U' L rm.cells rm.slots))
    (hZ : Z.Warmed39 s.vm) (hV : LV Z s.vm lv) (wc : (Cond.code y bytes maxL ret).before a0 Z = true) (wz : (Cond.initialized y.cls).before a0 Z = true) (hf : rm.frames + 1 ≤ R.frames) (hl : W + (maxL + 11) + rm.locals ≤ R.locals) :
    BackS l R p e below s args y len W (fun A a => a = as' ∧ A.U.heap = h ∧ A.cells + rm.cells ≤ R.cells ∧ A.slots + rm.slots ≤ R.slots)
      (fun A _ v B => ∃ L, Q v B.U.heap B.U.vm L ∧ B.locs = A.locs ++ L ∧ B.cells = A.cells + rm.cells ∧ B.slots = A.slots + rm.slots) := by
  refine BackS.of_freeW (bytes := bytes) (maxL := maxL) (ret := ret) (E := fun _ _ o t L k n => k = rm.cells ∧ n = rm.slots ∧ ∃ v, o = .returned v ∧ Q v t.heap t.vm L) hM hf hl ?_ ?_ ?_ ?_ ?_
  · intro m meth c A a Y hp
    have hU : Z.Warmed39 A.U.vm := wtrans hZ Y.warmed
    have hc : (Cond.code y bytes maxL ret).before a A.U = true := mv hU wc
    refine ⟨?_, hc, mv hU wz, hp.2.2⟩
    show (Cond.and _ .tt).before a A.U = true
    rw [Cond.before_and, hc]; rfl
  · intro m meth c A a g mk Y hp
    exact ⟨hp.1, wtrans hZ Y.warmed, hp.2.1, hV.warm Y.warmed⟩
  · intros; trivial
  · rintro _ _ _ _ ⟨v, L, h1, h2, h3⟩
    exact ⟨L, _, _, h3, rfl, rfl, v, h1, h2⟩
  · rintro m meth c A a g mk v t L k n Y hp _ _ ⟨e1, e2, v', e3, e4⟩
    cases e3; subst e1 e2
    exact ⟨L, e4, rfl, rfl, rfl⟩
theorem growM {y : MethodName} {S : Spec} {as' : Array Value} {kc ks : Nat} {Qc : Option Value → Heap → Prop}
    (M : MetFree l y S (fun a U => a = as' ∧ Z.Warmed39 U.vm ∧ U.heap = h) (fun _ _ _ _ _ => True) (fun _ U o U' => ∃ v L, o = .returned v ∧ (Qc v U'.heap ∧ Fr n0 L) ∧ FrameEnd U o U' L kc ks)) :
    MetFree l y S (fun a U => a = as' ∧ Z.Warmed39 U.vm ∧ U.heap = h) (fun _ _ _ _ _ => True) (fun _ U o U' => ∃ v L, o = .returned v ∧ ((Qc v U'.heap ∧ Fr n0 L) ∧ h.size ≤ U'.heap.size) ∧ FrameEnd U o U' L kc ks) := by
  intro p e ha hc hk s m args below hf happ hP hK
  obtain ⟨n, o, h1, h2, h3, v, L, e1, e2, e3⟩ := M p e ha hc hk s m args below hf happ hP hK
  refine ⟨n, o, h1, h2, h3, v, L, e1, ⟨e2, ?_⟩, e3⟩
  have q := e3.2.2.2.1
  rw [hP.2.2] at q
  exact q
end Calls
section Steps
variable {l : Launch} {R : Room} {Z : State} {n0 : Nat} {Q : Option Value → Heap → Option Addr → Prop} {own nm : String} {bytes : ByteArray} {maxL : Nat} {ret : Option FieldType} {m : MethodId} {lv : Option Addr} {hE : Heap} {G : Heap → Nat → Nat → JFrame → Prop} {h : Heap} {kc ks pc pc' pc1 pc2 : Nat} {L L' : Array Slot} {S : List Value} {a0 : Array Value}
theorem MeetsV.intro {y : MethodName} {rm : Room} {as' : Array Value} {h0 : Heap} (hpl : plainFor y = true) {L0 : Array Slot} (hef : ∀ m, entryFrame m as' maxL = mkF m 0 L0 [])
    (body : ∀ m G, Cx l rm Z n0 Q y.cls y.name bytes maxL ret m lv h0 G → G h0 0 0 (mkF m 0 L0 [])) : MeetsV l Z n0 y bytes maxL ret rm as' h0 lv Q := by
  intro ws
  refine MetFree.of_bodySF hpl hisR ?_
  intro p e s m args below meth c s₁ Bd hml0 hP hK
  obtain ⟨rfl, hZ, hh, hV⟩ := hP
  have hnm := (name_of_methodNamed Bd.named Bd.method).1
  have X0 : Stand p l e rm s m args below meth c s₁ [] 0 0 := Stand.of_body Bd
  have e0 : s₁.heap = h0 := by rw [← hh, Bd.state]; rfl
  have q := body m _ ⟨p, e, s, args, below, meth, c, rfl, Bd.exec, Bd.bytes, hml0, findClass_of_methodNamed Bd.named, hZ, Bd.returns, Bd.notSynchronized, hnm, hh⟩ s.vm s.heap.size ((State.WarmedH.refl s).since _) (Nat.le_of_eq (by rw [hh])) hV s₁ [] X0 e0 (Fr.nil n0)
  rw [hef]; exact q
theorem Cx.step (K : Cx l R Z n0 Q own nm bytes maxL ret m lv hE G) {f f' : JFrame}
    (hs : ∀ (p : Program) (e : Env) (below : List Frame) (T : State) (c : Code), At T m c below → p.tables.exec = Jvm.exec → c.code = bytes → ∀ t, Steps p.tables e below (T.setTop f') t → Steps p.tables e below (T.setTop f) t)
    (hr : G h kc ks f') : G h kc ks f := by
  obtain ⟨p, e, s0, args, below, meth, c, rfl, hx, hby, hml, hown0, hZ0, hret, hlk, hnm, hE0⟩ := K
  intro vm0 n1 hS hn1 hV T locs X eT N
  obtain ⟨s₂, o, h1, h2⟩ := hr vm0 n1 hS hn1 hV T locs X eT N
  exact ⟨s₂, o, hs p e below T c X.here hx hby _ h1, h2⟩
theorem Cx.stepX (K : Cx l R Z n0 Q own nm bytes maxL ret m lv hE G) {f f' : JFrame} {h' : Heap}
    (hs : ∀ (p : Program) (e : Env) (s : State) (args : Array Value) (below : List Frame) (meth : Method) (c : Code) (T : State) (locs : List Loc), Stand p l e R s m args below meth c T locs kc ks → T.heap = h → p.tables.exec = Jvm.exec → c.code = bytes → s.vm.findClass own = some m.cls → Z.Warmed39 s.vm → ∃ T', Stand p l e R s m args below meth c T' locs kc ks ∧ T'.heap = h ∧ ∀ t, Steps p.tables e below (T'.setTop f') t → Steps p.tables e below (T.setTop f) t)
    (hr : G h kc ks f') : G h kc ks f := by
  obtain ⟨p, e, s0, args, below, meth, c, rfl, hx, hby, hml, hown0, hZ0, hret, hlk, hnm, hE0⟩ := K
  intro vm0 n1 hS hn1 hV T locs X eT N
  have hZ : Z.Warmed39 (s0.setVm vm0).vm := State.Warmed39.trans (t := s0) hZ0 hS.1
  have hown : (s0.setVm vm0).vm.findClass own = some m.cls := by rw [show (s0.setVm vm0).vm = vm0 from rfl, hS.1.alike.findClass]; exact hown0
  obtain ⟨T', X', e', st⟩ := hs p e (s0.setVm vm0) args below meth c T locs X eT hx hby hown hZ
  obtain ⟨s₂, o, h1, h2⟩ := hr vm0 n1 hS hn1 hV T' locs X' e' N
  exact ⟨s₂, o, st _ h1, h2⟩
theorem Cx.iloadN (K : Cx l R Z n0 Q own nm bytes maxL ret m lv hE G) {k : Fin 4} {v : Int32} (hd : decode bytes pc = .ok (.iload_n k, 1)) (hp : pc + 1 = pc') (hl : L[k.val]? = some (.val (.int v))) (hr : G h kc ks (mkF m pc' L (.int v :: S))) : G h kc ks (mkF m pc L (S)) := by
  subst hp
  exact K.step (fun p e below T c h hx hb0 t hr => XS.iloadN h hx rfl (hb hb0 hd) hl hr) hr
theorem Cx.iload (K : Cx l R Z n0 Q own nm bytes maxL ret m lv hE G) {k : Nat} {v : Int32} (hd : decode bytes pc = .ok (.iload k, 2)) (hp : pc + 2 = pc') (hl : L[k]? = some (.val (.int v))) (hr : G h kc ks (mkF m pc' L (.int v :: S))) : G h kc ks (mkF m pc L (S)) := by
  subst hp
  exact K.step (fun p e below T c h hx hb0 t hr => XS.iload h hx rfl (hb hb0 hd) hl hr) hr
theorem Cx.istore (K : Cx l R Z n0 Q own nm bytes maxL ret m lv hE G) {k : Nat} {x : Int32} (hd : decode bytes pc = .ok (.istore k, 2)) (hp : pc + 2 = pc') (hl : storeLocals L k (.int x) = some L') (hr : G h kc ks (mkF m pc' L' (S))) : G h kc ks (mkF m pc L (.int x :: S)) := by
  subst hp
  exact K.step (fun p e below T c h hx hb0 t hr => XS.istore h hx rfl (hb hb0 hd) rfl hl hr) hr
theorem Cx.aloadN (K : Cx l R Z n0 Q own nm bytes maxL ret m lv hE G) {k : Fin 4} {v : Value} (hd : decode bytes pc = .ok (.aload_n k, 1)) (hp : pc + 1 = pc') (hl : L[k.val]? = some (.val v)) (hv : v.isRef = true) (hr : G h kc ks (mkF m pc' L (v :: S))) : G h kc ks (mkF m pc L (S)) := by
  subst hp
  exact K.step (fun p e below T c h hx hb0 t hr => XS.aloadN h hx rfl (hb hb0 hd) hl hv hr) hr
theorem Cx.aload (K : Cx l R Z n0 Q own nm bytes maxL ret m lv hE G) {k : Nat} {v : Value} (hd : decode bytes pc = .ok (.aload k, 2)) (hp : pc + 2 = pc') (hl : L[k]? = some (.val v)) (hv : v.isRef = true) (hr : G h kc ks (mkF m pc' L (v :: S))) : G h kc ks (mkF m pc L (S)) := by
  subst hp
  exact K.step (fun p e below T c h hx hb0 t hr => XS.aload h hx rfl (hb hb0 hd) hl hv hr) hr
theorem Cx.astore (K : Cx l R Z n0 Q own nm bytes maxL ret m lv hE G) {k : Nat} {x : Value} (hd : decode bytes pc = .ok (.astore k, 2)) (hp : pc + 2 = pc') (hv : x.isRef = true) (hl : storeLocals L k x = some L') (hr : G h kc ks (mkF m pc' L' (S))) : G h kc ks (mkF m pc L (x :: S)) := by
  subst hp
  exact K.step (fun p e below T c h hx hb0 t hr => XS.astore h hx rfl (hb hb0 hd) rfl hv hl hr) hr
theorem Cx.iconst (K : Cx l R Z n0 Q own nm bytes maxL ret m lv hE G) {i : Int} {z : Int32} (hd : decode bytes pc = .ok (.iconst i, 1)) (hp : pc + 1 = pc') (hz : Int32.ofInt i = z) (hr : G h kc ks (mkF m pc' L (.int z :: S))) : G h kc ks (mkF m pc L (S)) := by
  subst hp hz
  exact K.step (fun p e below T c h hx hb0 t hr => XS.iconst h hx rfl (hb hb0 hd) hr) hr
theorem Cx.bipush (K : Cx l R Z n0 Q own nm bytes maxL ret m lv hE G) {i : Int} {z : Int32} (hd : decode bytes pc = .ok (.bipush i, 2)) (hp : pc + 2 = pc') (hz : (Int8.ofInt i).toInt32 = z) (hr : G h kc ks (mkF m pc' L (.int z :: S))) : G h kc ks (mkF m pc L (S)) := by
  subst hp hz
  exact K.step (fun p e below T c h hx hb0 t hr => XS.bipush h hx rfl (hb hb0 hd) hr) hr
theorem Cx.sipush (K : Cx l R Z n0 Q own nm bytes maxL ret m lv hE G) {i : Int} {z : Int32} (hd : decode bytes pc = .ok (.sipush i, 3)) (hp : pc + 3 = pc') (hz : (Int16.ofInt i).toInt32 = z) (hr : G h kc ks (mkF m pc' L (.int z :: S))) : G h kc ks (mkF m pc L (S)) := by
  subst hp hz
  exact K.step (fun p e below T c h hx hb0 t hr => XS.sipush h hx rfl (hb hb0 hd) hr) hr
theorem Cx.anull (K : Cx l R Z n0 Q own nm bytes maxL ret m lv hE G) (hd : decode bytes pc = .ok (.aconst_null, 1)) (hp : pc + 1 = pc')  (hr : G h kc ks (mkF m pc' L (.null :: S))) : G h kc ks (mkF m pc L (S)) := by
  subst hp
  exact K.step (fun p e below T c h hx hb0 t hr => XS.aconstNull h hx rfl (hb hb0 hd) hr) hr
theorem Cx.iand (K : Cx l R Z n0 Q own nm bytes maxL ret m lv hE G) {x y z : Int32} (hd : decode bytes pc = .ok (.iand, 1)) (hp : pc + 1 = pc') (hz : x &&& y = z) (hr : G h kc ks (mkF m pc' L (.int z :: S))) : G h kc ks (mkF m pc L (.int y :: .int x :: S)) := by
  subst hp hz
  exact K.step (fun p e below T c h hx hb0 t hr => XS.iand h hx rfl (hb hb0 hd) rfl hr) hr
theorem Cx.iushr (K : Cx l R Z n0 Q own nm bytes maxL ret m lv hE G) {x y z : Int32} (hd : decode bytes pc = .ok (.iushr, 1)) (hp : pc + 1 = pc') (hz : (x.toUInt32 >>> (y &&& 31).toUInt32).toInt32 = z) (hr : G h kc ks (mkF m pc' L (.int z :: S))) : G h kc ks (mkF m pc L (.int y :: .int x :: S)) := by
  subst hp hz
  exact K.step (fun p e below T c h hx hb0 t hr => XS.iushr h hx rfl (hb hb0 hd) rfl hr) hr
theorem Cx.irem (K : Cx l R Z n0 Q own nm bytes maxL ret m lv hE G) {x y z : Int32} (hd : decode bytes pc = .ok (.irem, 1)) (hp : pc + 1 = pc') (hy : y ≠ 0) (hz : x % y = z) (hr : G h kc ks (mkF m pc' L (.int z :: S))) : G h kc ks (mkF m pc L (.int y :: .int x :: S)) := by
  subst hp hz
  exact K.step (fun p e below T c h hx hb0 t hr => XS.irem h hx rfl (hb hb0 hd) rfl hy (by rw [irem_eq_mod]; exact hr)) hr
theorem Cx.i2c (K : Cx l R Z n0 Q own nm bytes maxL ret m lv hE G) {x : Int32} {z : Int32} (hd : decode bytes pc = .ok (.i2c, 1)) (hp : pc + 1 = pc') (hz : x.toUInt32.toUInt16.toUInt32.toInt32 = z) (hr : G h kc ks (mkF m pc' L (.int z :: S))) : G h kc ks (mkF m pc L (.int x :: S)) := by
  subst hp hz
  exact K.step (fun p e below T c h hx hb0 t hr => XS.i2c h hx rfl (hb hb0 hd) rfl hr) hr
theorem Cx.dup (K : Cx l R Z n0 Q own nm bytes maxL ret m lv hE G) {x : Value} (hd : decode bytes pc = .ok (.dup, 1)) (hp : pc + 1 = pc') (hc : x.category = 1) (hr : G h kc ks (mkF m pc' L (x :: x :: S))) : G h kc ks (mkF m pc L (x :: S)) := by
  subst hp
  exact K.step (fun p e below T c h hx hb0 t hr => XS.dup h hx rfl (hb hb0 hd) rfl hc hr) hr
theorem Cx.goto (K : Cx l R Z n0 Q own nm bytes maxL ret m lv hE G) {o : Int} (hd : decode bytes pc = .ok (.goto o, 3)) (ho : 0 ≤ (pc : Int) + o) (hp : ((pc : Int) + o).toNat = pc') (hr : G h kc ks (mkF m pc' L S)) : G h kc ks (mkF m pc L S) :=
  K.step (fun p e below T c h hx hb0 t hr => XS.goto h hx rfl (pc0 := pc) (pc' := pc') rfl (hb hb0 hd) ho hp hr) hr
theorem Cx.icmp_lt (K : Cx l R Z n0 Q own nm bytes maxL ret m lv hE G) {o : Int} {x y : Int32} {a b : Int} (hd : decode bytes pc = .ok (.if_icmp .lt o, 3)) (hp : pc + 3 = pc1) (ho : 0 ≤ (pc : Int) + o) (hq : ((pc : Int) + o).toNat = pc2) (ha : x.toInt = a) (hb' : y.toInt = b) (ht : a < b → G h kc ks (mkF m pc2 L S)) (hf : b ≤ a → G h kc ks (mkF m pc1 L S)) : G h kc ks (mkF m pc L (.int y :: .int x :: S)) := by
  subst hp
  have q := icmpW .lt ha hb'
  by_cases hc : a < b
  · exact K.step (fun p e below T c h hx hb0 t hr => XS.icmpYes h hx rfl (pc0 := pc) (pc' := pc2) rfl (hb hb0 hd) rfl (q.trans (decide_eq_true hc)) ho hq hr) (ht hc)
  · exact K.step (fun p e below T c h hx hb0 t hr => XS.icmpNo h hx rfl (hb hb0 hd) rfl (q.trans (decide_eq_false hc)) hr) (hf (by omega))
theorem Cx.icmp_ne (K : Cx l R Z n0 Q own nm bytes maxL ret m lv hE G) {o : Int} {x y : Int32} {a b : Int} (hd : decode bytes pc = .ok (.if_icmp .ne o, 3)) (hp : pc + 3 = pc1) (ho : 0 ≤ (pc : Int) + o) (hq : ((pc : Int) + o).toNat = pc2) (ha : x.toInt = a) (hb' : y.toInt = b) (ht : a ≠ b → G h kc ks (mkF m pc2 L S)) (hf : a = b → G h kc ks (mkF m pc1 L S)) : G h kc ks (mkF m pc L (.int y :: .int x :: S)) := by
  subst hp
  have q := icmpW .ne ha hb'
  by_cases hc : a ≠ b
  · exact K.step (fun p e below T c h hx hb0 t hr => XS.icmpYes h hx rfl (pc0 := pc) (pc' := pc2) rfl (hb hb0 hd) rfl (q.trans (decide_eq_true hc)) ho hq hr) (ht hc)
  · exact K.step (fun p e below T c h hx hb0 t hr => XS.icmpNo h hx rfl (hb hb0 hd) rfl (q.trans (decide_eq_false hc)) hr) (hf (by omega))
theorem Cx.if_eq (K : Cx l R Z n0 Q own nm bytes maxL ret m lv hE G) {o : Int} {x : Int32} {a : Int} (hd : decode bytes pc = .ok (.ifCond .eq o, 3)) (hp : pc + 3 = pc1) (ho : 0 ≤ (pc : Int) + o) (hq : ((pc : Int) + o).toNat = pc2) (ha : x.toInt = a) (ht : a = 0 → G h kc ks (mkF m pc2 L S)) (hf : a ≠ 0 → G h kc ks (mkF m pc1 L S)) : G h kc ks (mkF m pc L (.int x :: S)) := by
  subst hp
  have q := (if0 .eq x).trans (icmpW .eq ha (b := 0) rfl)
  by_cases hc : a = 0
  · exact K.step (fun p e below T c h hx hb0 t hr => XS.ifYes h hx rfl (pc0 := pc) (pc' := pc2) rfl (hb hb0 hd) rfl (q.trans (decide_eq_true hc)) ho hq hr) (ht hc)
  · exact K.step (fun p e below T c h hx hb0 t hr => XS.ifNo h hx rfl (hb hb0 hd) rfl (q.trans (decide_eq_false hc)) hr) (hf (by omega))
theorem Cx.if_ne (K : Cx l R Z n0 Q own nm bytes maxL ret m lv hE G) {o : Int} {x : Int32} {a : Int} (hd : decode bytes pc = .ok (.ifCond .ne o, 3)) (hp : pc + 3 = pc1) (ho : 0 ≤ (pc : Int) + o) (hq : ((pc : Int) + o).toNat = pc2) (ha : x.toInt = a) (ht : a ≠ 0 → G h kc ks (mkF m pc2 L S)) (hf : a = 0 → G h kc ks (mkF m pc1 L S)) : G h kc ks (mkF m pc L (.int x :: S)) := by
  subst hp
  have q := (if0 .ne x).trans (icmpW .ne ha (b := 0) rfl)
  by_cases hc : a ≠ 0
  · exact K.step (fun p e below T c h hx hb0 t hr => XS.ifYes h hx rfl (pc0 := pc) (pc' := pc2) rfl (hb hb0 hd) rfl (q.trans (decide_eq_true hc)) ho hq hr) (ht hc)
  · exact K.step (fun p e below T c h hx hb0 t hr => XS.ifNo h hx rfl (hb hb0 hd) rfl (q.trans (decide_eq_false hc)) hr) (hf (by omega))
theorem Cx.icmpneB (K : Cx l R Z n0 Q own nm bytes maxL ret m lv hE G) {o : Int} {P P' : Prop} [Decidable P] [Decidable P'] (hd : decode bytes pc = .ok (.if_icmp .ne o, 3)) (hp : pc + 3 = pc1) (ho : 0 ≤ (pc : Int) + o) (hq : ((pc : Int) + o).toNat = pc2) (ht : ¬ (P ↔ P') → G h kc ks (mkF m pc2 L S)) (hf : (P ↔ P') → G h kc ks (mkF m pc1 L S)) : G h kc ks (mkF m pc L (.int (b2 P') :: .int (b2 P) :: S)) :=
  K.icmp_ne hd hp ho hq rfl rfl (fun q => ht (fun z => q ((b2_inj P P').mpr z))) (fun q => hf ((b2_inj P P').mp q))
theorem Cx.ldcI (K : Cx l R Z n0 Q own nm bytes maxL ret m lv hE G) {index : Nat} {v : Int32} (hd : decode bytes pc = .ok (.ldc index, 2)) (hp : pc + 2 = pc') (w : (Cond.constant own index v).before a0 Z = true) (hr : G h kc ks (mkF m pc' L (.int v :: S))) : G h kc ks (mkF m pc L S) := by
  subst hp
  exact K.stepX (h' := h) (fun p e s args below meth c T locs X eT hx hb0 hown hZ => ⟨T, X, eT, X.ldcInt hx hown (mvT hZ w) (g := mkF m pc L S) rfl (hb hb0 hd)⟩) hr
theorem Cx.getf (K : Cx l R Z n0 Q own nm bytes maxL ret m lv hE G) {R0 O n d host : String} {index : Nat} {a : Addr} {v : Value} (hd : decode bytes pc = .ok (.getfield index, 3)) (hp : pc + 3 = pc') (w : (Cond.fieldLink own index R0 n d).before a0 Z = true ∨ (Cond.fieldLinkNest own index R0 n d host).before a0 Z = true) (via : Via Z R0 O n d) (F : Fld Z h a O n d v) (hr : G h kc ks (mkF m pc' L (v :: S))) : G h kc ks (mkF m pc L (.ref a :: S)) := by
  subst hp
  exact K.stepX (h' := h) (fun p e s args below meth c T locs X eT hx hb0 hown hZ => RoadKit.getF X hx hZ hown w via eT F (g := mkF m pc L (.ref a :: S)) rfl rfl (hb hb0 hd)) hr
theorem Cx.alen (K : Cx l R Z n0 Q own nm bytes maxL ret m lv hE G) {a : Addr} {vs : List Value} {ty : FieldType} (hd : decode bytes pc = .ok (.arraylength, 1)) (hp : pc + 1 = pc') (A : Ary Z h a ty vs) (hr : ∀ z : Int32, z.toInt = (vs.length : Nat) → G h kc ks (mkF m pc' L (.int z :: S))) : G h kc ks (mkF m pc L (.ref a :: S)) := by
  subst hp
  obtain ⟨cl, Ar, rfl, hlt⟩ := A
  refine K.stepX (h' := h) (f' := mkF m (pc + 1) L (.int cl.slots.size.toInt32 :: S)) (fun p e s args below meth c T locs X eT hx hb0 hown hZ => ⟨T, X, eT, fun t hr => X.arraylength hx (by rw [eT]; exact Ar.1) (State.isArrayOf_alike hZ.alike Ar.2.1) (g := mkF m pc L (.ref a :: S)) rfl rfl (hb hb0 hd) _ hr⟩) (hr _ ?_)
  rw [Array.length_toList] at hlt ⊢
  exact len_int hlt
theorem Cx.putf (K : Cx l R Z n0 Q own nm bytes maxL ret m lv hE G) {R0 O n d host C : String} {index kk : Nat} {ty : FieldType} {a : Addr} {v old : Value} (hd : decode bytes pc = .ok (.putfield index, 3)) (hp : pc + 3 = pc') (w : (Cond.fieldLink own index R0 n d).before a0 Z = true ∨ (Cond.fieldLinkNest own index R0 n d host).before a0 Z = true) (via : Via Z R0 O n d) (F : Fld Z h a O n d old) (E : Exa Z h a C)
    (LL : (Cond.lays C O n d).before a0 Z = true ∨ ((Cond.laysFinal C O n d).before a0 Z = true ∧ own = O ∧ nm = "<init>")) (wi : (Cond.instantiable C kk).before a0 Z = true) (hty : parseFieldDescriptor d = some ty) (hn : narrow ty v = v) (hf : fits ty v = true) (ga : n0 ≤ a)
    (hr : ∀ h', Wr h h' a (Jvm.RoadKit.slotOf Z O n d) v → G h' kc ks (mkF m pc' L S)) : G h kc ks (mkF m pc L (v :: .ref a :: S)) := by
  obtain ⟨p, e, s0, args, below, meth, c, rfl, hx, hby, hml, hown0, hZ0, hret, hlk, hnm, hE0⟩ := K
  subst hp
  intro vm0 n1 hS hn1 hV T locs X eT N
  have hZ : Z.Warmed39 (s0.setVm vm0).vm := State.Warmed39.trans (t := s0) hZ0 hS.1
  have hown : (s0.setVm vm0).vm.findClass own = some m.cls := by rw [show (s0.setVm vm0).vm = vm0 from rfl, hS.1.alike.findClass]; exact hown0
  obtain ⟨T', h', X', e', W, st⟩ := RoadKit.putF X hx hZ hown w via eT F E (LL.imp id fun q => ⟨q.1, q.2.1, hnm.trans q.2.2⟩) wi hty hn hf (g := mkF m pc L (v :: .ref a :: S)) rfl rfl (hb hby hd)
  obtain ⟨s₂, o, h1, h2⟩ := hr h' W vm0 n1 hS (Nat.le_trans hn1 (Keep.of_wr W).1) hV T' _ X' e' (Fr.snoc X' N ga)
  exact ⟨s₂, o, st _ h1, h2⟩
theorem Cx.newo (K : Cx l R Z n0 Q own nm bytes maxL ret m lv hE G) {C : String} {index n : Nat} (hd : decode bytes pc = .ok (.new index, 3)) (hp : pc + 3 = pc') (w : (Cond.classLink own index C).before a0 Z = true) (wi : (Cond.instantiable C n).before a0 Z = true) (wz : (Cond.initialized C).before a0 Z = true) (hc : kc + 1 ≤ R.cells) (hl : ks + n ≤ R.slots)
    (hr : ∀ h' a, a = h.size → Ext h h' → Exa Z h' a C → (∀ {O nm d : String} {ty : FieldType}, Laid Z a0 C O nm d → parseFieldDescriptor d = some ty → Fld Z h' a O nm d (defaultValue ty)) → G h' (kc + 1) (ks + n) (mkF m pc' L (.ref a :: S))) : G h kc ks (mkF m pc L S) := by
  obtain ⟨p, e, s0, args, below, meth, c, rfl, hx, hby, hml, hown0, hZ0, hret, hlk, hnm, hE0⟩ := K
  subst hp
  intro vm0 n1 hS hn1 hV T locs X eT N
  have hZ : Z.Warmed39 (s0.setVm vm0).vm := State.Warmed39.trans (t := s0) hZ0 hS.1
  have hown : (s0.setVm vm0).vm.findClass own = some m.cls := by rw [show (s0.setVm vm0).vm = vm0 from rfl, hS.1.alike.findClass]; exact hown0
  obtain ⟨T', h', X', e', E, A, D, -, st⟩ := RoadKit.newO X hx hZ hown w wi wz eT (g := mkF m pc L S) rfl (hb hby hd) hc hl
  obtain ⟨s₂, o, h1, h2⟩ := hr h' _ rfl E A D vm0 n1 hS (Nat.le_trans hn1 E.1) hV T' _ X' e' N
  exact ⟨s₂, o, st _ h1, h2⟩
theorem Cx.newa (K : Cx l R Z n0 Q own nm bytes maxL ret m lv hE G) {aty : ArrayType} {n : Int32} {k cap : Nat} (hd : decode bytes pc = .ok (.newarray aty, 2)) (hp : pc + 2 = pc') (w : (Cond.arrayClass (newarray.typeOf aty)).before a0 Z = true) (hn : n.toInt = (k : Nat)) (hk : k ≤ cap) (hbig : cap * 8 ≤ 536870912) (hc : kc + 1 ≤ R.cells) (hl : ks + cap ≤ R.slots) {ad : String} (had : "[" ++ (newarray.typeOf aty).toString = ad)
    (hr : ∀ h' a, a = h.size → Ext h h' → Ary Z h' a (newarray.typeOf aty) (List.replicate k (defaultValue (newarray.typeOf aty))) → Exa Z h' a ad → G h' (kc + 1) (ks + cap) (mkF m pc' L (.ref a :: S))) : G h kc ks (mkF m pc L (.int n :: S)) := by
  obtain ⟨p, e, s0, args, below, meth, c, rfl, hx, hby, hml, hown0, hZ0, hret, hlk, hnm, hE0⟩ := K
  subst hp
  intro vm0 n1 hS hn1 hV T locs X eT N
  have hZ : Z.Warmed39 (s0.setVm vm0).vm := State.Warmed39.trans (t := s0) hZ0 hS.1
  have hown : (s0.setVm vm0).vm.findClass own = some m.cls := by rw [show (s0.setVm vm0).vm = vm0 from rfl, hS.1.alike.findClass]; exact hown0
  have hn0 : ¬ n < 0 := by rw [Int32.lt_iff_toInt_lt, hn, show (0 : Int32).toInt = 0 from rfl]; omega
  obtain ⟨T', h', cA, X', e', E, A, EX, st⟩ := RoadKit.newPE X hx hZ w eT (g := mkF m pc L (.int n :: S)) rfl (hb hby hd) rfl hn0 (cap := cap) (by rw [clamp_of hn]; exact hk) hbig hc hl had
  obtain ⟨s₂, o, h1, h2⟩ := hr h' _ rfl E ⟨_, A, by simp [newA, clamp_of hn], by rw [List.length_replicate]; have := n.toInt_lt; omega⟩ EX vm0 n1 hS (Nat.le_trans hn1 E.1) hV T' _ X' e' N
  exact ⟨s₂, o, st _ h1, h2⟩
theorem Cx.init0 (K : Cx l R Z n0 Q own nm bytes maxL ret m lv hE G) {idx W : Nat} {a : Addr} (hd : decode bytes pc = .ok (.invokespecial idx, 3)) (hp : pc + 3 = pc') (w1 : (Cond.methodLink own idx Lib.objectInit).before a0 Z = true) (w2 : (Cond.instanceMethod Lib.objectInit).before a0 Z = true) (w3 : (Cond.code Lib.objectInit ⟨#[0xb1]⟩ 1 none).before a0 Z = true) (hL : L.size = maxL) (hf : 1 ≤ R.frames) (hW : (S.map fun v => v.category).sum ≤ W) (hl : W + 12 ≤ R.locals)
    (hr : G h kc ks (mkF m pc' L S)) : G h kc ks (mkF m pc L (.ref a :: S)) := by
  obtain ⟨p, e, s0, args, below, meth, c, rfl, hx, hby, hml, hown0, hZ0, hret, hlk, hnm, hE0⟩ := K
  subst hp
  intro vm0 n1 hS hn1 hV T locs X eT N
  have hZ : Z.Warmed39 (s0.setVm vm0).vm := State.Warmed39.trans (t := s0) hZ0 hS.1
  have hown : (s0.setVm vm0).vm.findClass own = some m.cls := by rw [show (s0.setVm vm0).vm = vm0 from rfl, hS.1.alike.findClass]; exact hown0
  obtain ⟨T', X', e', st⟩ := RoadKit.initO X hx hZ hown w1 w2 w3 eT (g := mkF m pc L (.ref a :: S)) rfl (by rw [hml]; exact hL) rfl (hb hby hd) hf (W := W) (by show 2 * 0 + _ ≤ _; omega) hl
  obtain ⟨s₂, o, h1, h2⟩ := hr vm0 n1 hS hn1 hV T' _ X' e' N
  exact ⟨s₂, o, st _ h1, h2⟩
theorem Cx.calls (K : Cx l R Z n0 Q own nm bytes maxL ret m lv hE G) {y : MethodName} {b' : ByteArray} {ml' : Nat} {rt' r : Option FieldType} {rm : Room} {Qc : Option Value → Heap → Prop} {index : Nat} {argsL rest : List Value} {W : Nat} {ps : List FieldType} (hd : decode bytes pc = .ok (.invokestatic index, 3)) (hp : pc + 3 = pc') (M : MeetsW l Z n0 y b' ml' rt' rm argsL.toArray h Qc) (w1 : (Cond.methodLink own index y).before a0 Z = true) (w2 : (Cond.static y).before a0 Z = true) (w3 : (Cond.initialized y.cls).before a0 Z = true) (w4 : (Cond.code y b' ml' rt').before a0 Z = true) (hy : y.cls ≠ "java/lang/invoke/MethodHandle" ∧ y.cls ≠ "java/lang/invoke/VarHandle") (hpd : parseMethodDescriptor y.desc = some ⟨ps, r⟩) (hlen : argsL.length = ps.length) (hL : L.size = maxL) (hW : (rest.map fun v => v.category).sum ≤ W) (hf : rm.frames + 1 ≤ R.frames) (hl : W + (ml' + 11) + rm.locals ≤ R.locals) (hc : kc + rm.cells ≤ R.cells) (hsl : ks + rm.slots ≤ R.slots) (hr : ∀ v h', Qc v h' → G h' (kc + rm.cells) (ks + rm.slots) (mkF m pc' L (v.toList ++ rest))) : G h kc ks (mkF m pc L (argsL.reverse ++ rest)) := by
  obtain ⟨p, e, s0, args, below, meth, c, rfl, hx, hby, hml, hown0, hZ0, hret, hlk, hnm, hE0⟩ := K
  subst hp
  intro vm0 n1 hS hn1 hV T locs X eT N
  have hZ : Z.Warmed39 (s0.setVm vm0).vm := State.Warmed39.trans (t := s0) hZ0 hS.1
  have hown : (s0.setVm vm0).vm.findClass own = some m.cls := by rw [show (s0.setVm vm0).vm = vm0 from rfl, hS.1.alike.findClass]; exact hown0
  obtain ⟨v, _, ⟨T', Lo, ko, no⟩, -, X', ⟨Lc, hQ, l', y', z'⟩, st⟩ := Jvm.LawKit.callS X hx (y := y) hown (mvT hZ w1) (mvT hZ w2) (mvT hZ w3) (mvT hZ w4) hy (backOf (Q := fun v h' L => (Qc v h' ∧ Fr n0 L) ∧ h.size ≤ h'.size) (W := W) (growM (M [])) hZ w4 w3 hf hl) (g := mkF m pc L (argsL.reverse ++ rest)) rfl (by rw [hml]; exact hL) (argsL := argsL) (rest := rest) (lenOf hpd hlen) rfl (by show 2 * 0 + _ ≤ _; omega) (hb hby hd) (fun _ _ => ⟨rfl, eT, hc, hsl⟩)
  dsimp only [Pt.U, Pt.locs, Pt.cells, Pt.slots] at X' l' y' z' st hQ
  subst l' y' z'
  obtain ⟨s₂, o, h1, h2⟩ := hr v T'.heap hQ.1.1 vm0 n1 hS (Nat.le_trans hn1 hQ.2) hV T' _ X' rfl (Fr.app N hQ.1.2)
  exact ⟨s₂, o, st _ h1, h2⟩
theorem Cx.callc (K : Cx l R Z n0 Q own nm bytes maxL ret m lv hE G) {y : MethodName} {b' : ByteArray} {ml' : Nat} {r : Option FieldType} {rm : Room} {Qc : Option Value → Heap → Prop} {index : Nat} {argsL rest : List Value} {W : Nat} {ps : List FieldType} {a : Addr} (hd : decode bytes pc = .ok (.invokespecial index, 3)) (hp : pc + 3 = pc') (hi : y.name = "<init>") (M : MeetsW l Z n0 y b' ml' none rm (Value.ref a :: argsL).toArray h Qc) (w1 : (Cond.methodLink own index y).before a0 Z = true) (w2 : (Cond.instanceMethod y).before a0 Z = true) (w3 : (Cond.initialized y.cls).before a0 Z = true) (w4 : (Cond.code y b' ml' none).before a0 Z = true) (hy : y.cls ≠ "java/lang/invoke/MethodHandle" ∧ y.cls ≠ "java/lang/invoke/VarHandle") (hpd : parseMethodDescriptor y.desc = some ⟨ps, r⟩) (hlen : argsL.length = ps.length) (hL : L.size = maxL) (hW : (rest.map fun v => v.category).sum ≤ W) (hf : rm.frames + 1 ≤ R.frames) (hl : W + (ml' + 11) + rm.locals ≤ R.locals) (hc : kc + rm.cells ≤ R.cells) (hsl : ks + rm.slots ≤ R.slots) (hr : ∀ v h', Qc v h' → G h' (kc + rm.cells) (ks + rm.slots) (mkF m pc' L (v.toList ++ rest))) : G h kc ks (mkF m pc L (argsL.reverse ++ .ref a :: rest)) := by
  obtain ⟨p, e, s0, args, below, meth, c, rfl, hx, hby, hml, hown0, hZ0, hret, hlk, hnm, hE0⟩ := K
  subst hp
  intro vm0 n1 hS hn1 hV T locs X eT N
  have hZ : Z.Warmed39 (s0.setVm vm0).vm := State.Warmed39.trans (t := s0) hZ0 hS.1
  have hown : (s0.setVm vm0).vm.findClass own = some m.cls := by rw [show (s0.setVm vm0).vm = vm0 from rfl, hS.1.alike.findClass]; exact hown0
  obtain ⟨v, _, ⟨T', Lo, ko, no⟩, -, X', ⟨Lc, hQ, l', y', z'⟩, st⟩ := X.specialBack hx (y := y) hi hown (mvT hZ w1) (mvT hZ w2) (mvT hZ w4) hy (backOf (Q := fun v h' L => (Qc v h' ∧ Fr n0 L) ∧ h.size ≤ h'.size) (W := W) (growM (M [])) hZ w4 w3 hf hl) (g := mkF m pc L (argsL.reverse ++ .ref a :: rest)) rfl (by rw [hml]; exact hL) (Steps.refl _) (a := a) (argsL := argsL) (rest := rest) (lenOf hpd hlen) rfl (by show 2 * 0 + _ ≤ _; omega) (hb hby hd) (fun _ _ => ⟨rfl, eT, hc, hsl⟩)
  dsimp only [Pt.U, Pt.locs, Pt.cells, Pt.slots] at X' l' y' z' st hQ
  subst l' y' z'
  obtain ⟨s₂, o, h1, h2⟩ := hr v T'.heap hQ.1.1 vm0 n1 hS (Nat.le_trans hn1 hQ.2) hV T' _ X' rfl (Fr.app N hQ.1.2)
  exact ⟨s₂, o, st.trans h1, h2⟩
theorem Cx.callv (K : Cx l R Z n0 Q own nm bytes maxL ret m lv hE G) {y z : MethodName} {b' : ByteArray} {ml' : Nat} {rt' r : Option FieldType} {rm : Room} {Qc : Option Value → Heap → Prop} {index : Nat} {argsL rest : List Value} {W : Nat} {ps : List FieldType} {C : String} {a : Addr} (hd : decode bytes pc = .ok (.invokevirtual index, 3)) (hp : pc + 3 = pc') (M : MeetsW l Z n0 z b' ml' rt' rm (Value.ref a :: argsL).toArray h Qc) (E : Exa Z h a C) (w1 : (Cond.methodLink own index y).before a0 Z = true) (w5 : (Cond.declares y).before a0 Z = true) (nf : ∀ s : State, Z.Warmed39 s.vm → NotFace s y) (w6 : (Cond.selects C y z).before a0 Z = true) (w2 : (Cond.instanceMethod z).before a0 Z = true) (w3 : (Cond.initialized z.cls).before a0 Z = true) (w4 : (Cond.code z b' ml' rt').before a0 Z = true) (hy : y.cls ≠ "java/lang/invoke/MethodHandle" ∧ y.cls ≠ "java/lang/invoke/VarHandle") (hpd : parseMethodDescriptor y.desc = some ⟨ps, r⟩) (hlen : argsL.length = ps.length) (hL : L.size = maxL) (hW : (rest.map fun v => v.category).sum ≤ W) (hf : rm.frames + 1 ≤ R.frames) (hl : W + (ml' + 11) + rm.locals ≤ R.locals) (hc : kc + rm.cells ≤ R.cells) (hsl : ks + rm.slots ≤ R.slots) (hr : ∀ v h', Qc v h' → G h' (kc + rm.cells) (ks + rm.slots) (mkF m pc' L (v.toList ++ rest))) : G h kc ks (mkF m pc L (argsL.reverse ++ .ref a :: rest)) := by
  obtain ⟨p, e, s0, args, below, meth, c, rfl, hx, hby, hml, hown0, hZ0, hret, hlk, hnm, hE0⟩ := K
  subst hp
  intro vm0 n1 hS hn1 hV T locs X eT N
  have hZ : Z.Warmed39 (s0.setVm vm0).vm := State.Warmed39.trans (t := s0) hZ0 hS.1
  have hown : (s0.setVm vm0).vm.findClass own = some m.cls := by rw [show (s0.setVm vm0).vm = vm0 from rfl, hS.1.alike.findClass]; exact hown0
  obtain ⟨cq, kq, qa, qb, qc⟩ := isOf hZ eT E
  obtain ⟨v, _, ⟨T', Lo, ko, no⟩, -, X', ⟨Lc, hQ, l', y', z'⟩, st⟩ := X.virtualBack hx (y := y) (z := z) hown (mvT hZ w1) (mvT hZ w5) (nf (s0.setVm vm0) hZ) (mvT hZ w6) (mvT hZ w2) hy (backOf (Q := fun v h' L => (Qc v h' ∧ Fr n0 L) ∧ h.size ≤ h'.size) (W := W) (growM (M [])) hZ w4 w3 hf hl) qa qc (g := mkF m pc L (argsL.reverse ++ .ref a :: rest)) rfl (by rw [hml]; exact hL) (Steps.refl _) (argsL := argsL) (rest := rest) (lenOf hpd hlen) rfl (by show 2 * 0 + _ ≤ _; omega) (hb hby hd) (fun _ _ => ⟨rfl, eT, hc, hsl⟩)
  dsimp only [Pt.U, Pt.locs, Pt.cells, Pt.slots] at X' l' y' z' st hQ
  subst l' y' z'
  obtain ⟨s₂, o, h1, h2⟩ := hr v T'.heap hQ.1.1 vm0 n1 hS (Nat.le_trans hn1 hQ.2) hV T' _ X' rfl (Fr.app N hQ.1.2)
  exact ⟨s₂, o, st.trans h1, h2⟩
theorem Cx.callsV (K : Cx l R Z n0 Q own nm bytes maxL ret m lv hE G) {y : MethodName} {b' : ByteArray} {ml' : Nat} {rt' r : Option FieldType} {rm : Room} {Qc : Option Value → Heap → Option Addr → Prop} {index : Nat} {argsL rest : List Value} {W : Nat} {ps : List FieldType} (hd : decode bytes pc = .ok (.invokestatic index, 3)) (hp : pc + 3 = pc') (M : MeetsV l Z n0 y b' ml' rt' rm argsL.toArray h lv Qc) (w1 : (Cond.methodLink own index y).before a0 Z = true) (w2 : (Cond.static y).before a0 Z = true) (w3 : (Cond.initialized y.cls).before a0 Z = true) (w4 : (Cond.code y b' ml' rt').before a0 Z = true) (hy : y.cls ≠ "java/lang/invoke/MethodHandle" ∧ y.cls ≠ "java/lang/invoke/VarHandle") (hpd : parseMethodDescriptor y.desc = some ⟨ps, r⟩) (hlen : argsL.length = ps.length) (hL : L.size = maxL) (hW : (rest.map fun v => v.category).sum ≤ W) (hf : rm.frames + 1 ≤ R.frames) (hl : W + (ml' + 11) + rm.locals ≤ R.locals) (hc : kc + rm.cells ≤ R.cells) (hsl : ks + rm.slots ≤ R.slots) (hr : ∀ (lv' : Option Addr) (G' : Heap → Nat → Nat → JFrame → Prop), Cx l R Z n0 Q own nm bytes maxL ret m lv' hE G' → ∀ v h', Qc v h' lv' → G' h' (kc + rm.cells) (ks + rm.slots) (mkF m pc' L (v.toList ++ rest))) : G h kc ks (mkF m pc L (argsL.reverse ++ rest)) := by
  obtain ⟨p, e, s0, args, below, meth, c, rfl, hx, hby, hml, hown0, hZ0, hret, hlk, hnm, hE0⟩ := K
  subst hp
  intro vm0 n1 hS hn1 hV T locs X eT N
  have hZ : Z.Warmed39 (s0.setVm vm0).vm := State.Warmed39.trans (t := s0) hZ0 hS.1
  have hown : (s0.setVm vm0).vm.findClass own = some m.cls := by rw [show (s0.setVm vm0).vm = vm0 from rfl, hS.1.alike.findClass]; exact hown0
  obtain ⟨v, _, ⟨T', Lo, ko, no⟩, -, X', hS', hg, ⟨Lc, ⟨⟨lv', hV', hQ⟩, hF⟩, l', y', z'⟩, st⟩ := callSS X hx (y := y) hown (mvT hZ w1) (mvT hZ w2) (mvT hZ w3) (mvT hZ w4) hy (backOfV (Q := fun v h' vm L => (∃ lv', LV Z vm lv' ∧ Qc v h' lv') ∧ Fr n0 L) (W := W) (M []) hZ hV w4 w3 hf hl) (g := mkF m pc L (argsL.reverse ++ rest)) rfl (by rw [hml]; exact hL) (argsL := argsL) (rest := rest) (lenOf hpd hlen) rfl (by show 2 * 0 + _ ≤ _; omega) (hb hby hd) (fun _ _ => ⟨rfl, eT, hc, hsl⟩)
  dsimp only [Pt.U, Pt.locs, Pt.cells, Pt.slots] at X' hS' hg l' y' z' st hQ hV'
  subst l' y' z'
  obtain ⟨s₂, o, h1, h2⟩ := hr lv' _ ⟨p, e, s0, args, below, meth, c, rfl, hx, hby, hml, hown0, hZ0, hret, hlk, hnm, hE0⟩ v T'.heap hQ T'.vm T'.heap.size (hS.trans hS' (Nat.le_trans (by rw [← eT] at hn1; exact hn1) hg)) (Nat.le_refl _) hV' T' _ X' rfl (Fr.app N hF)
  exact ⟨s₂, o, st.trans h1, h2⟩
theorem Cx.callcV (K : Cx l R Z n0 Q own nm bytes maxL ret m lv hE G) {y : MethodName} {b' : ByteArray} {ml' : Nat} {r : Option FieldType} {rm : Room} {Qc : Option Value → Heap → Option Addr → Prop} {index : Nat} {argsL rest : List Value} {W : Nat} {ps : List FieldType} {a : Addr} (hd : decode bytes pc = .ok (.invokespecial index, 3)) (hp : pc + 3 = pc') (hi : y.name = "<init>") (M : MeetsV l Z n0 y b' ml' none rm (Value.ref a :: argsL).toArray h lv Qc) (w1 : (Cond.methodLink own index y).before a0 Z = true) (w2 : (Cond.instanceMethod y).before a0 Z = true) (w3 : (Cond.initialized y.cls).before a0 Z = true) (w4 : (Cond.code y b' ml' none).before a0 Z = true) (hy : y.cls ≠ "java/lang/invoke/MethodHandle" ∧ y.cls ≠ "java/lang/invoke/VarHandle") (hpd : parseMethodDescriptor y.desc = some ⟨ps, r⟩) (hlen : argsL.length = ps.length) (hL : L.size = maxL) (hW : (rest.map fun v => v.category).sum ≤ W) (hf : rm.frames + 1 ≤ R.frames) (hl : W + (ml' + 11) + rm.locals ≤ R.locals) (hc : kc + rm.cells ≤ R.cells) (hsl : ks + rm.slots ≤ R.slots) (hr : ∀ (lv' : Option Addr) (G' : Heap → Nat → Nat → JFrame → Prop), Cx l R Z n0 Q own nm bytes maxL ret m lv' hE G' → ∀ v h', Qc v h' lv' → G' h' (kc + rm.cells) (ks + rm.slots) (mkF m pc' L (v.toList ++ rest))) : G h kc ks (mkF m pc L (argsL.reverse ++ .ref a :: rest)) := by
  obtain ⟨p, e, s0, args, below, meth, c, rfl, hx, hby, hml, hown0, hZ0, hret, hlk, hnm, hE0⟩ := K
  subst hp
  intro vm0 n1 hS hn1 hV T locs X eT N
  have hZ : Z.Warmed39 (s0.setVm vm0).vm := State.Warmed39.trans (t := s0) hZ0 hS.1
  have hown : (s0.setVm vm0).vm.findClass own = some m.cls := by rw [show (s0.setVm vm0).vm = vm0 from rfl, hS.1.alike.findClass]; exact hown0
  obtain ⟨v, _, ⟨T', Lo, ko, no⟩, -, X', hS', hg, ⟨Lc, ⟨⟨lv', hV', hQ⟩, hF⟩, l', y', z'⟩, st⟩ := X.specialBackS hx (y := y) hi hown (mvT hZ w1) (mvT hZ w2) (mvT hZ w4) hy (backOfV (Q := fun v h' vm L => (∃ lv', LV Z vm lv' ∧ Qc v h' lv') ∧ Fr n0 L) (W := W) (M []) hZ hV w4 w3 hf hl) (g := mkF m pc L (argsL.reverse ++ .ref a :: rest)) rfl (by rw [hml]; exact hL) (Steps.refl _) (a := a) (argsL := argsL) (rest := rest) (lenOf hpd hlen) rfl (by show 2 * 0 + _ ≤ _; omega) (hb hby hd) (fun _ _ => ⟨rfl, eT, hc, hsl⟩)
  dsimp only [Pt.U, Pt.locs, Pt.cells, Pt.slots] at X' hS' hg l' y' z' st hQ hV'
  subst l' y' z'
  obtain ⟨s₂, o, h1, h2⟩ := hr lv' _ ⟨p, e, s0, args, below, meth, c, rfl, hx, hby, hml, hown0, hZ0, hret, hlk, hnm, hE0⟩ v T'.heap hQ T'.vm T'.heap.size (hS.trans hS' (Nat.le_trans (by rw [← eT] at hn1; exact hn1) hg)) (Nat.le_refl _) hV' T' _ X' rfl (Fr.app N hF)
  exact ⟨s₂, o, st.trans h1, h2⟩
theorem Cx.ldcSC (K : Cx l R Z n0 Q "java/lang/String" nm bytes maxL ret m none hE G) (hd : decode bytes pc = .ok (.ldc 7, 2)) (hp : pc + 2 = pc') (w : (Cond.stringLink "java/lang/String" 7 "").before a0 Z = true) (wS : ∀ a ∈ Bundle.stringAtoms, a.before a0 Z = true) (hh : Jvm.Lit.constHeld Z "java/lang/String" 7) (hcw : Jvm.Lit.compactW.before a0 Z = true)
    (hkeep : Ext Z.heap hE) (hold : Ext hE h) (hc : kc + 2 ≤ R.cells) (hl : ks + 4 ≤ R.slots)
    (hr : ∀ (G' : Heap → Nat → Nat → JFrame → Prop) (h' : Heap) (a b : Addr), Cx l R Z n0 Q "java/lang/String" nm bytes maxL ret m (some a) hE G' → Ext h h' → Exa Z h' a "java/lang/String" → Fld Z h' a "java/lang/String" "coder" "B" (.int 0) → Fld Z h' a "java/lang/String" "value" "[B" (.ref b) → (∃ (k : ClassId) (z : Int32), Arv Z h' b k .byte z [] (.int 0)) → Ary Z h' b .byte [] → G' h' (kc + 2) (ks + 4) (mkF m pc' L (.ref a :: S))) : G h kc ks (mkF m pc L S) := by
  obtain ⟨p, e, s0, args, below, meth, c, rfl, hx, hby, hml, hown0, hZ0, hret, hlk, hnm, hE0⟩ := K
  subst hp
  intro vm0 n1 hS hn1 hV T locs X eT N
  have hZ : Z.Warmed39 (s0.setVm vm0).vm := State.Warmed39.trans (t := s0) hZ0 hS.1
  have hown : (s0.setVm vm0).vm.findClass "java/lang/String" = some m.cls := by rw [show (s0.setVm vm0).vm = vm0 from rfl, hS.1.alike.findClass]; exact hown0
  have X2 : Stand p l e R (s0.setVm vm0) m args below meth c T [] kc ks := relocs X (fun b cl q => by rw [eT]; exact hold.2 b cl (by rw [← hE0]; exact q))
  obtain ⟨a, T', h', k1, b, k, X', e', E, hS', hk', -, -, xa, fc, fv, A, -, -, -, Lt, st⟩ := ldcSVL X2 hx hZ hown w wS eT hS hn1 (Fr.nil _) (fun b cl q => by rw [hE0]; exact hkeep.2 b cl q) (Ts := []) hV (by simp) hh hcw (vs := []) (z := 0) ⟨by simp, by simp⟩ (by decide) rfl (g := mkF m pc L S) rfl (hb hby hd) (n := 0) (by simp) (by decide) hc hl
  obtain ⟨s₂, o, h1, h2⟩ := hr _ h' a b ⟨p, e, s0, args, below, meth, c, rfl, hx, hby, hml, hown0, hZ0, hret, hlk, hnm, hE0⟩ E xa fc fv ⟨k, 0, A⟩ (Arv.toAry A rfl) T'.vm k1 hS' hk' Lt T' _ X' e' (Fr.nil n0)
  exact ⟨s₂, o, st _ h1, h2⟩
theorem Cx.ldcSH {a : Addr} (K : Cx l R Z n0 Q "java/lang/String" nm bytes maxL ret m (some a) hE G) (hd : decode bytes pc = .ok (.ldc 7, 2)) (hp : pc + 2 = pc') (w : (Cond.stringLink "java/lang/String" 7 "").before a0 Z = true) (hr : G h kc ks (mkF m pc' L (.ref a :: S))) : G h kc ks (mkF m pc L S) := by
  obtain ⟨p, e, s0, args, below, meth, c, rfl, hx, hby, hml, hown0, hZ0, hret, hlk, hnm, hE0⟩ := K
  subst hp
  intro vm0 n1 hS hn1 hV T locs X eT N
  have hZ : Z.Warmed39 (s0.setVm vm0).vm := State.Warmed39.trans (t := s0) hZ0 hS.1
  have hown : (s0.setVm vm0).vm.findClass "java/lang/String" = some m.cls := by rw [show (s0.setVm vm0).vm = vm0 from rfl, hS.1.alike.findClass]; exact hown0
  obtain ⟨s₂, o, h1, h2⟩ := hr vm0 n1 hS hn1 hV T locs X eT N
  exact ⟨s₂, o, ldcAgain X hx hZ hown w (a := a) hV (g := mkF m pc L S) rfl (hb hby hd) _ h1, h2⟩
theorem Cx.retz (K : Cx l R Z n0 Q own nm bytes maxL (some .boolean) m lv hE G) {z : Int32} (hd : decode bytes pc = .ok (.ireturn, 1)) (hz : z = 0 ∨ z = 1) (hc : kc ≤ R.cells) (hs : ks ≤ R.slots) (hQ : Q (some (.int z)) h lv) : G h kc ks (mkF m pc L (.int z :: S)) := by
  obtain ⟨p, e, s0, args, below, meth, c, rfl, hx, hby, hml, hown0, hZ0, hret, hlk, hnm, hE0⟩ := K
  intro vm0 n1 hS hn1 hV T locs X eT N
  obtain ⟨fs, hr, hrun, hended, g1, g2, g3, g4⟩ := X.leaveW hS (by rw [eT]; exact hn1) (v := some (.int z)) (fun h => by rw [hret] at h; cases h) hlk
  refine ⟨_, _, ?_, hrun, hended, _, _, rfl, ⟨⟨lv, ?_, ?_⟩, N⟩, g1, g2, g3, g4.mono hc hs⟩
  · exact retOut X hx hret (by rcases hz with rfl | rfl <;> rfl) (Or.inl ⟨rfl, Or.inr (Or.inl rfl), _, rfl⟩) (hb hby hd) hr
  · exact LV.warm (s := s0.setVm vm0) hV X.warmed
  · show Q _ T.heap lv
    rw [eT]; exact hQ
theorem Cx.reta {t : FieldType} (K : Cx l R Z n0 Q own nm bytes maxL (some t) m lv hE G) {v : Value} (hd : decode bytes pc = .ok (.areturn, 1)) (ht : t.isReference = true) (hn : narrow t v = v) (hv : v.isRef = true) (hc : kc ≤ R.cells) (hs : ks ≤ R.slots) (hQ : Q (some v) h lv) : G h kc ks (mkF m pc L (v :: S)) := by
  obtain ⟨p, e, s0, args, below, meth, c, rfl, hx, hby, hml, hown0, hZ0, hret, hlk, hnm, hE0⟩ := K
  intro vm0 n1 hS hn1 hV T locs X eT N
  obtain ⟨fs, hr, hrun, hended, g1, g2, g3, g4⟩ := X.leaveW hS (by rw [eT]; exact hn1) (v := some v) (fun h => by rw [hret] at h; cases h) hlk
  refine ⟨_, _, ?_, hrun, hended, _, _, rfl, ⟨⟨lv, ?_, ?_⟩, N⟩, g1, g2, g3, g4.mono hc hs⟩
  · exact retOut X hx hret hn (Or.inr (Or.inr (Or.inr (Or.inr ⟨rfl, ht, hv⟩)))) (hb hby hd) hr
  · exact LV.warm (s := s0.setVm vm0) hV X.warmed
  · show Q _ T.heap lv
    rw [eT]; exact hQ
theorem Cx.ret0 (K : Cx l R Z n0 Q own nm bytes maxL none m lv hE G) (hd : decode bytes pc = .ok (.return_, 1)) (hc : kc ≤ R.cells) (hs : ks ≤ R.slots) (hQ : Q none h lv) : G h kc ks (mkF m pc L []) := by
  obtain ⟨p, e, s0, args, below, meth, c, rfl, hx, hby, hml, hown0, hZ0, hret, hlk, hnm, hE0⟩ := K
  intro vm0 n1 hS hn1 hV T locs X eT N
  obtain ⟨fs, hr, hrun, hended, g1, g2, g3, g4⟩ := X.leaveW hS (by rw [eT]; exact hn1) (v := none) (fun h => rfl) hlk
  refine ⟨_, _, ?_, hrun, hended, _, _, rfl, ⟨⟨lv, ?_, ?_⟩, N⟩, g1, g2, g3, g4.mono hc hs⟩
  · exact X.returnOut hx hret (hb hby hd) hr
  · exact LV.warm (s := s0.setVm vm0) hV X.warmed
  · show Q _ T.heap lv
    rw [eT]; exact hQ
end Steps
end Jvm.Wv
namespace Jvm.Pilot.@@N@@
open Jvm Jvm.ClassFile Sem Op Lib Jvm.Free Jvm.Stand Jvm.LawKit Jvm.RoadKit Jvm.Wk Bundle Jvm.Pilot.@@N@@.Jvm.D
abbrev vi (x : Int32) : Slot := .val (.int x)
abbrev vr (x : Addr) : Slot := .val (.ref x)
abbrev sS : String := "java/lang/String"
abbrev sK : String := "com/example/ltl_to_omega/ltltoomega/hoa/HoaLexer$Kind"
abbrev sT : String := "com/example/ltl_to_omega/ltltoomega/hoa/HoaLexer$Token"
abbrev sW : String := "com/example/ltl_to_omega/ltltoomega/hoa/TokenIsPinLaw"
abbrev dK : String := "Lcom/example/ltl_to_omega/ltltoomega/hoa/HoaLexer$Kind;"
theorem wS_1 {a0 : Array Value} {Z : State} (hw : ∀ d ∈ tables_1, d.before a0 Z = true) : ∀ a ∈ Bundle.stringAtoms, a.before a0 Z = true := by
  intro a ha
  simp only [Bundle.stringAtoms, List.mem_cons, List.not_mem_nil, or_false] at ha
  rcases ha with rfl | rfl | rfl | rfl | rfl | rfl | rfl
  · exact hw _ (List.mem_of_getElem? (i := 7) rfl)
  · exact hw _ (List.mem_of_getElem? (i := 6) rfl)
  · exact hw _ (List.mem_of_getElem? (i := 20) rfl)
  · exact hw _ (List.mem_of_getElem? (i := 21) rfl)
  · exact hw _ (List.mem_of_getElem? (i := 22) rfl)
  · exact hw _ (List.mem_of_getElem? (i := 23) rfl)
  · exact hw _ (List.mem_of_getElem? (i := 24) rfl)
theorem d11_0 : decode jdk_52_method_15_code 0 = .ok (.iload_n 1, 1) := by decide +kernel
theorem d11_1 : decode jdk_52_method_15_code 1 = .ok (.aload_n 0, 1) := by decide +kernel
theorem d11_2 : decode jdk_52_method_15_code 2 = .ok (.arraylength, 1) := by decide +kernel
theorem d11_3 : decode jdk_52_method_15_code 3 = .ok (.isub, 1) := by decide +kernel
theorem d11_4 : decode jdk_52_method_15_code 4 = .ok (.bipush 31, 2) := by decide +kernel
theorem d11_6 : decode jdk_52_method_15_code 6 = .ok (.iushr, 1) := by decide +kernel
theorem d11_7 : decode jdk_52_method_15_code 7 = .ok (.i2b, 1) := by decide +kernel
theorem d11_8 : decode jdk_52_method_15_code 8 = .ok (.ireturn, 1) := by decide +kernel
theorem pn_java_lang_StringUTF16 : plainName "java/lang/StringUTF16" = true := by first | (simp [plainName, overriddenIn]; done) | decide +kernel
set_option maxRecDepth 65536 in
set_option maxHeartbeats 40000000 in
theorem c_cod1 (l : Launch) (Z : State) (a0 : Array Value) (hw : ∀ d ∈ tables_1, d.before a0 Z = true) (n0 : Nat) (h : Heap) (a : Addr) (x0 : Int32) (P1 : Ary Z h a .byte [(.int x0)]) : MeetsW l Z n0 (⟨"java/lang/StringUTF16", "coderFromArrayLen", "([BI)B"⟩ : MethodName) jdk_52_method_15_code 2 (some .byte) ({ frames := 0, cells := 0, slots := 0, locals := 0 } : Room) #[(.ref a), (.int (1 : Int32))] h (fun v h' => v = some (.int (0 : Int32)) ∧ h = h') := by
  refine MeetsW.intro (plainFor_of_name pn_java_lang_StringUTF16) (L0 := #[vr a, vi 1]) (fun m => by first | (simp [entryFrame, mkF, argsToLocals, Value.category]; done) | rfl) ?_
  intro m G K0
  have K : Cx l ({ frames := 0, cells := 0, slots := 0, locals := 0 } : Room) Z n0 _ "java/lang/StringUTF16" "coderFromArrayLen" jdk_52_method_15_code 2 (some .byte) m G := K0
  refine K.iloadN d11_0 (pc' := 1) rfl rfl ?_
  refine K.aloadN d11_1 (pc' := 2) rfl rfl rfl ?_
  refine K.alen d11_2 (pc' := 3) rfl P1 (fun z2 e_z2 => ?_)
  have t_z2 : z2.toInt = 1 := e_z2
  obtain ⟨s, e_s⟩ : ∃ z, (1 : Int32) - z2 = z := ⟨_, rfl⟩
  have r_s : (s.toInt - (1 - z2.toInt)) % 4294967296 = 0 := by have q := c_isub (1 : Int32) z2; rw [e_s] at q; exact q
  have g_s := rng32 s
  have t_s : s.toInt = 0 := by omega
  clear r_s
  clear g_s
  refine K.isub d11_3 (pc' := 4) rfl e_s ?_
  refine K.bipush d11_4 (pc' := 6) rfl (z := 31) rfl ?_
  obtain ⟨u, e_u⟩ : ∃ z, (s.toUInt32 >>> ((31 : Int32) &&& 31).toUInt32).toInt32 = z := ⟨_, rfl⟩
  have r_u : u.toInt = (s.toInt % 4294967296) / 2147483648 := by have q := c_iushr s (31 : Int32) 31 (by decide) (by decide); rw [e_u] at q; exact q
  have t_u : u.toInt = 0 := by omega
  clear r_u
  refine K.iushr d11_6 (pc' := 7) rfl e_u ?_
  obtain ⟨t, e_t⟩ : ∃ z, u.toInt8.toInt32 = z := ⟨_, rfl⟩
  have r_t : (t.toInt - u.toInt) % 256 = 0 ∧ -128 ≤ t.toInt ∧ t.toInt < 128 := by have q := c_i2b u; rw [e_t] at q; exact q
  have t_t : t.toInt = 0 := by omega
  clear r_t
  refine K.i2b d11_7 (pc' := 8) rfl e_t ?_
  have cs_t : t = 0 := by
    have q : t.toInt = 0 := by omega
    rcases q with q
    · exact eqI q
  rcases cs_t with rfl
  · exact K.retb d11_8 rfl (by decide) (by decide) ⟨rfl, rfl⟩
theorem d10_0 : decode jdk_52_method_21_code 0 = .ok (.iconst 0, 1) := by decide +kernel
theorem d10_1 : decode jdk_52_method_21_code 1 = .ok (.istore 5, 2) := by decide +kernel
theorem d10_3 : decode jdk_52_method_21_code 3 = .ok (.iload 5, 2) := by decide +kernel
theorem d10_5 : decode jdk_52_method_21_code 5 = .ok (.iload 4, 2) := by decide +kernel
theorem d10_7 : decode jdk_52_method_21_code 7 = .ok (.if_icmp .ge 37, 3) := by decide +kernel
theorem d10_10 : decode jdk_52_method_21_code 10 = .ok (.aload_n 0, 1) := by decide +kernel
theorem d10_11 : decode jdk_52_method_21_code 11 = .ok (.iload_n 1, 1) := by decide +kernel
theorem d10_12 : decode jdk_52_method_21_code 12 = .ok (.caload, 1) := by decide +kernel
theorem d10_13 : decode jdk_52_method_21_code 13 = .ok (.istore 6, 2) := by decide +kernel
theorem d10_15 : decode jdk_52_method_21_code 15 = .ok (.iload 6, 2) := by decide +kernel
theorem d10_17 : decode jdk_52_method_21_code 17 = .ok (.sipush 255, 3) := by decide +kernel
theorem d10_20 : decode jdk_52_method_21_code 20 = .ok (.if_icmp .le 6, 3) := by decide +kernel
theorem d10_26 : decode jdk_52_method_21_code 26 = .ok (.aload_n 2, 1) := by decide +kernel
theorem d10_27 : decode jdk_52_method_21_code 27 = .ok (.iload_n 3, 1) := by decide +kernel
theorem d10_28 : decode jdk_52_method_21_code 28 = .ok (.iload 6, 2) := by decide +kernel
theorem d10_30 : decode jdk_52_method_21_code 30 = .ok (.i2b, 1) := by decide +kernel
theorem d10_31 : decode jdk_52_method_21_code 31 = .ok (.bastore, 1) := by decide +kernel
theorem d10_32 : decode jdk_52_method_21_code 32 = .ok (.iinc 1 1, 3) := by decide +kernel
theorem d10_35 : decode jdk_52_method_21_code 35 = .ok (.iinc 3 1, 3) := by decide +kernel
theorem d10_38 : decode jdk_52_method_21_code 38 = .ok (.iinc 5 1, 3) := by decide +kernel
theorem d10_41 : decode jdk_52_method_21_code 41 = .ok (.goto (-38), 3) := by decide +kernel
theorem d10_44 : decode jdk_52_method_21_code 44 = .ok (.iload 4, 2) := by decide +kernel
theorem d10_46 : decode jdk_52_method_21_code 46 = .ok (.ireturn, 1) := by decide +kernel
set_option maxRecDepth 65536 in
set_option maxHeartbeats 40000000 in
theorem c_ci1 (l : Launch) (Z : State) (a0 : Array Value) (hw : ∀ d ∈ tables_1, d.before a0 Z = true) (n0 : Nat) (h : Heap) (a : Addr) (d : Addr) (p : Int32) (P1 : Ary Z h a .char [(.int p)]) (P2 : Ary Z h d .byte [(.int (0 : Int32))]) (P3 : n0 ≤ d) (P4 : a ≠ d) (hp : 0 ≤ p.toInt ∧ p.toInt ≤ 255) : MeetsW l Z n0 (⟨"java/lang/StringUTF16", "compress", "([CI[BII)I"⟩ : MethodName) jdk_52_method_21_code 7 (some .int) ({ frames := 0, cells := 0, slots := 0, locals := 0 } : Room) #[(.ref a), (.int (0 : Int32)), (.ref d), (.int (0 : Int32)), (.int (1 : Int32))] h (fun v h' => v = some (.int (1 : Int32)) ∧ Keep h h' [d] ∧ Ary Z h' d .byte [(.int (p.toInt8.toInt32))]) := by
  refine MeetsW.intro (plainFor_of_name pn_java_lang_StringUTF16) (L0 := #[vr a, vi 0, vr d, vi 0, vi 1, .unset, .unset]) (fun m => by first | (simp [entryFrame, mkF, argsToLocals, Value.category]; done) | rfl) ?_
  intro m G K0
  have K : Cx l ({ frames := 0, cells := 0, slots := 0, locals := 0 } : Room) Z n0 _ "java/lang/StringUTF16" "compress" jdk_52_method_21_code 7 (some .int) m G := K0
  refine K.iconst d10_0 (pc' := 1) rfl (z := 0) rfl ?_
  refine K.istore d10_1 (pc' := 3) rfl (L' := #[vr a, vi 0, vr d, vi 0, vi 1, vi 0, .unset]) rfl ?_
  refine K.iload d10_3 (pc' := 5) rfl rfl ?_
  refine K.iload d10_5 (pc' := 7) rfl rfl ?_
  refine K.icmp_ge d10_7 (pc1 := 10) rfl (by decide) (pc2 := 44) (by decide) (a := 0) (b := 1) rfl rfl (fun c7 => ?_) (fun c7 => ?_)
  · exfalso; omega
  · refine K.aloadN d10_10 (pc' := 11) rfl rfl rfl ?_
    refine K.iloadN d10_11 (pc' := 12) rfl rfl ?_
    refine K.cald d10_12 (pc' := 13) rfl P1 (i := 0) rfl rfl ?_
    refine K.istore d10_13 (pc' := 15) rfl (L' := #[vr a, vi 0, vr d, vi 0, vi 1, vi 0, vi p]) rfl ?_
    refine K.iload d10_15 (pc' := 17) rfl rfl ?_
    refine K.sipush d10_17 (pc' := 20) rfl (z := 255) rfl ?_
    refine K.icmp_le d10_20 (pc1 := 23) rfl (by decide) (pc2 := 26) (by decide) (a := p.toInt) (b := 255) rfl rfl (fun c20 => ?_) (fun c20 => ?_)
    · refine K.aloadN d10_26 (pc' := 27) rfl rfl rfl ?_
      refine K.iloadN d10_27 (pc' := 28) rfl rfl ?_
      refine K.iload d10_28 (pc' := 30) rfl rfl ?_
      refine K.i2b d10_30 (pc' := 31) rfl rfl ?_
      refine K.bast d10_31 (pc' := 32) rfl P2 (i := 0) rfl (show 0 < 1 by decide) P3 (fun h_1 W_2 A_3 => ?_)
      rw [show nar .byte (p.toInt8.toInt32) = (p.toInt8.toInt32) from nar_byte_of (by have qp := c_i2b p; omega)] at W_2 A_3
      have kp_4 : Keep h h_1 [d] := (Keep.refl h [d]).wr W_2 (Or.inl (by simp))
      have A_5 : Ary Z h_1 d .byte [(.int (p.toInt8.toInt32))] := A_3
      refine K.iinc d10_32 (pc' := 35) rfl rfl (z := (1 : Int32)) rfl (L' := #[vr a, vi 1, vr d, vi 0, vi 1, vi 0, vi p]) rfl ?_
      refine K.iinc d10_35 (pc' := 38) rfl rfl (z := (1 : Int32)) rfl (L' := #[vr a, vi 1, vr d, vi 1, vi 1, vi 0, vi p]) rfl ?_
      refine K.iinc d10_38 (pc' := 41) rfl rfl (z := (1 : Int32)) rfl (L' := #[vr a, vi 1, vr d, vi 1, vi 1, vi 1, vi p]) rfl ?_
      refine K.goto d10_41 (by decide) (pc' := 3) (by decide) ?_
      refine K.iload d10_3 (pc' := 5) rfl rfl ?_
      refine K.iload d10_5 (pc' := 7) rfl rfl ?_
      refine K.icmp_ge d10_7 (pc1 := 10) rfl (by decide) (pc2 := 44) (by decide) (a := 1) (b := 1) rfl rfl (fun c7_1 => ?_) (fun c7_1 => ?_)
      · refine K.iload d10_44 (pc' := 46) rfl rfl ?_
        exact K.reti d10_46 (by decide) (by decide) ⟨rfl, kp_4, A_5⟩
      · exfalso; omega
    · exfalso; omega
theorem d9_0 : decode jdk_52_method_16_code 0 = .ok (.iload_n 2, 1) := by decide +kernel
theorem d9_1 : decode jdk_52_method_16_code 1 = .ok (.newarray .byte, 2) := by decide +kernel
theorem d9_3 : decode jdk_52_method_16_code 3 = .ok (.astore_n 3, 1) := by decide +kernel
theorem d9_4 : decode jdk_52_method_16_code 4 = .ok (.aload_n 0, 1) := by decide +kernel
theorem d9_5 : decode jdk_52_method_16_code 5 = .ok (.iload_n 1, 1) := by decide +kernel
theorem d9_6 : decode jdk_52_method_16_code 6 = .ok (.aload_n 3, 1) := by decide +kernel
theorem d9_7 : decode jdk_52_method_16_code 7 = .ok (.iconst 0, 1) := by decide +kernel
theorem d9_8 : decode jdk_52_method_16_code 8 = .ok (.iload_n 2, 1) := by decide +kernel
theorem d9_9 : decode jdk_52_method_16_code 9 = .ok (.invokestatic 115, 3) := by decide +kernel
theorem pd_0 : parseMethodDescriptor "([CI[BII)I" = some ⟨[(.array .char), .int, (.array .byte), .int, .int], some .int⟩ := by decide +kernel
theorem d9_12 : decode jdk_52_method_16_code 12 = .ok (.istore 4, 2) := by decide +kernel
theorem d9_14 : decode jdk_52_method_16_code 14 = .ok (.iload 4, 2) := by decide +kernel
theorem d9_16 : decode jdk_52_method_16_code 16 = .ok (.iload_n 2, 1) := by decide +kernel
theorem d9_17 : decode jdk_52_method_16_code 17 = .ok (.if_icmp .eq 40, 3) := by decide +kernel
theorem d9_57 : decode jdk_52_method_16_code 57 = .ok (.aload_n 3, 1) := by decide +kernel
theorem d9_58 : decode jdk_52_method_16_code 58 = .ok (.areturn, 1) := by decide +kernel
set_option maxRecDepth 65536 in
set_option maxHeartbeats 40000000 in
theorem c_co1 (l : Launch) (Z : State) (a0 : Array Value) (hw : ∀ d ∈ tables_1, d.before a0 Z = true) (n0 : Nat) (h : Heap) (a : Addr) (p : Int32) (Z0 : n0 ≤ h.size) (P2 : Ary Z h a .char [(.int p)]) (hp : 0 ≤ p.toInt ∧ p.toInt ≤ 255) : MeetsW l Z n0 (⟨"java/lang/StringUTF16", "compress", "([CII)[B"⟩ : MethodName) jdk_52_method_16_code 6 (some (.array .byte)) ({ frames := 1, cells := 1, slots := 1, locals := 18 } : Room) #[(.ref a), (.int (0 : Int32)), (.int (1 : Int32))] h (fun v h' => ∃ o : Addr, v = some (.ref o) ∧ Keep h h' [] ∧ h.size ≤ o ∧ Ary Z h' o .byte [(.int (p.toInt8.toInt32))]) := by
  refine MeetsW.intro (plainFor_of_name pn_java_lang_StringUTF16) (L0 := #[vr a, vi 0, vi 1, .unset, .unset, .unset]) (fun m => by first | (simp [entryFrame, mkF, argsToLocals, Value.category]; done) | rfl) ?_
  intro m G K0
  have K : Cx l ({ frames := 1, cells := 1, slots := 1, locals := 18 } : Room) Z n0 _ "java/lang/StringUTF16" "compress" jdk_52_method_16_code 6 (some (.array .byte)) m G := K0
  have hw20 := hw _ (List.mem_of_getElem? (i := 20) rfl)
  have hw61 := hw _ (List.mem_of_getElem? (i := 61) rfl)
  have hw63 := hw _ (List.mem_of_getElem? (i := 63) rfl)
  have hw64 := hw _ (List.mem_of_getElem? (i := 64) rfl)
  have hw65 := hw _ (List.mem_of_getElem? (i := 65) rfl)
  refine K.iloadN d9_0 (pc' := 1) rfl rfl ?_
  refine K.newa d9_1 (pc' := 3) rfl hw20 (k := 1) (cap := 1) rfl (by decide) (by decide) (by decide) (by decide) (ad := "[B") (by decide) (fun h_2 a_1 g_a_1 E_3 A_4 x_a_1 => ?_)
  have ge_a_1 : n0 ≤ a_1 := g_a_1 ▸ Z0
  have sb_a_1 : h.size ≤ a_1 := g_a_1 ▸ (Keep.refl h []).1
  have kp_5 : Keep h h_2 [] := (Keep.refl h []).ext E_3
  have A_6 : Ary Z h_2 a_1 .byte [(.int (0 : Int32))] := A_4
  refine K.astoreN d9_3 (pc' := 4) rfl rfl (L' := #[vr a, vi 0, vi 1, vr a_1, .unset, .unset]) rfl ?_
  refine K.aloadN d9_4 (pc' := 5) rfl rfl rfl ?_
  refine K.iloadN d9_5 (pc' := 6) rfl rfl ?_
  refine K.aloadN d9_6 (pc' := 7) rfl rfl rfl ?_
  refine K.iconst d9_7 (pc' := 8) rfl (z := 0) rfl ?_
  refine K.iloadN d9_8 (pc' := 9) rfl rfl ?_
  have f_7 : Ary Z h_2 a .char [(.int p)] := (P2.ext E_3)
  have ne_8 : a ≠ a_1 := (Nat.ne_of_lt (Nat.lt_of_lt_of_le P2.lt (Nat.le_trans (Nat.le_refl _) (Nat.le_of_eq g_a_1.symm))))
  refine K.calls (argsL := [(.ref a), (.int (0 : Int32)), (.ref a_1), (.int (0 : Int32)), (.int (1 : Int32))]) (rest := []) d9_9 (pc' := 12) rfl (c_ci1 l Z a0 hw n0 h_2 (a := a) (d := a_1) (p := p) f_7 A_6 ge_a_1 ne_8 (by omega)) hw63 hw64 hw61 hw65 (by decide) pd_0 rfl rfl (W := 0) (by simp [Value.category]) (by decide) (by decide) (by decide) (by decide) (fun v_11 h_9 q_10 => ?_)
  obtain ⟨rfl, K_13, f_14⟩ := q_10
  have kp_15 : Keep h h_9 [] := kp_5.trans K_13 (allS (Or.inr sb_a_1) all0)
  show G h_9 1 1 (mkF m 12 #[vr a, vi 0, vi 1, vr a_1, .unset, .unset] [(.int (1 : Int32))])
  refine K.istore d9_12 (pc' := 14) rfl (L' := #[vr a, vi 0, vi 1, vr a_1, vi 1, .unset]) rfl ?_
  refine K.iload d9_14 (pc' := 16) rfl rfl ?_
  refine K.iloadN d9_16 (pc' := 17) rfl rfl ?_
  refine K.icmp_eq d9_17 (pc1 := 20) rfl (by decide) (pc2 := 57) (by decide) (a := 1) (b := 1) rfl rfl (fun c17 => ?_) (fun c17 => ?_)
  · refine K.aloadN d9_57 (pc' := 58) rfl rfl rfl ?_
    exact K.reta d9_58 rfl rfl rfl (by decide) (by decide) ⟨a_1, rfl, kp_15, sb_a_1, f_14⟩
  · exfalso; omega
theorem d3_0 : decode jdk_42_method_149_code 0 = .ok (.aload_n 0, 1) := by decide +kernel
theorem d3_1 : decode jdk_42_method_149_code 1 = .ok (.invokespecial 1, 3) := by decide +kernel
theorem d3_4 : decode jdk_42_method_149_code 4 = .ok (.iload_n 3, 1) := by decide +kernel
theorem d3_5 : decode jdk_42_method_149_code 5 = .ok (.ifCond .ne 22, 3) := by decide +kernel
theorem d3_27 : decode jdk_42_method_149_code 27 = .ok (.getstatic 38, 3) := by decide +kernel
theorem d3_30 : decode jdk_42_method_149_code 30 = .ok (.ifCond .eq 28, 3) := by decide +kernel
theorem d3_33 : decode jdk_42_method_149_code 33 = .ok (.aload_n 1, 1) := by decide +kernel
theorem d3_34 : decode jdk_42_method_149_code 34 = .ok (.iload_n 2, 1) := by decide +kernel
theorem d3_35 : decode jdk_42_method_149_code 35 = .ok (.iload_n 3, 1) := by decide +kernel
theorem d3_36 : decode jdk_42_method_149_code 36 = .ok (.invokestatic 177, 3) := by decide +kernel
theorem pd_1 : parseMethodDescriptor "([CII)[B" = some ⟨[(.array .char), .int, .int], some (.array .byte)⟩ := by decide +kernel
theorem d3_39 : decode jdk_42_method_149_code 39 = .ok (.astore 5, 2) := by decide +kernel
theorem d3_41 : decode jdk_42_method_149_code 41 = .ok (.aload_n 0, 1) := by decide +kernel
theorem d3_42 : decode jdk_42_method_149_code 42 = .ok (.aload 5, 2) := by decide +kernel
theorem d3_44 : decode jdk_42_method_149_code 44 = .ok (.iload_n 3, 1) := by decide +kernel
theorem d3_45 : decode jdk_42_method_149_code 45 = .ok (.invokestatic 47, 3) := by decide +kernel
theorem pd_2 : parseMethodDescriptor "([BI)B" = some ⟨[(.array .byte), .int], some .byte⟩ := by decide +kernel
theorem d3_48 : decode jdk_42_method_149_code 48 = .ok (.putfield 15, 3) := by decide +kernel
theorem d3_51 : decode jdk_42_method_149_code 51 = .ok (.aload_n 0, 1) := by decide +kernel
theorem d3_52 : decode jdk_42_method_149_code 52 = .ok (.aload 5, 2) := by decide +kernel
theorem d3_54 : decode jdk_42_method_149_code 54 = .ok (.putfield 9, 3) := by decide +kernel
theorem d3_57 : decode jdk_42_method_149_code 57 = .ok (.return_, 1) := by decide +kernel
theorem pn_java_lang_String : plainName sS = true := by first | (simp [plainName, overriddenIn]; done) | decide +kernel
set_option maxRecDepth 65536 in
set_option maxHeartbeats 40000000 in
theorem c_ini1 (l : Launch) (Z : State) (a0 : Array Value) (hw : ∀ d ∈ tables_1, d.before a0 Z = true) (n0 : Nat) (h : Heap) (a : Addr) (b : Addr) (cs : Int32) (p : Int32) (Z0 : n0 ≤ h.size) (P2 : Old Z n0 h) (P3 : Sta Z Z.heap sS "COMPACT_STRINGS" "Z" (.int cs)) (hcs : cs.toInt ≠ 0) (P5 : Exa Z h a sS) (P6 : n0 ≤ a) (P7 : Fld Z h a sS "value" "[B" .null) (P8 : Fld Z h a sS "coder" "B" (.int (0 : Int32))) (P9 : Ary Z h b .char [(.int p)]) (P10 : b ≠ a) (hp : 0 ≤ p.toInt ∧ p.toInt ≤ 255) : MeetsW l Z n0 (⟨sS, "<init>", "([CIILjava/lang/Void;)V"⟩ : MethodName) jdk_42_method_149_code 6 none ({ frames := 2, cells := 1, slots := 1, locals := 35 } : Room) #[(.ref a), (.ref b), (.int (0 : Int32)), (.int (1 : Int32)), .null] h (fun v h' => ∃ (d : Addr), v = none ∧ Keep h h' [a] ∧ h.size ≤ d ∧ Fld Z h' a sS "value" "[B" (.ref d) ∧ Fld Z h' a sS "coder" "B" (.int (0 : Int32)) ∧ Ary Z h' d .byte [(.int (p.toInt8.toInt32))]) := by
  refine MeetsW.intro (plainFor_of_name pn_java_lang_String) (L0 := #[vr a, vr b, vi 0, vi 1, .val .null, .unset]) (fun m => by first | (simp [entryFrame, mkF, argsToLocals, Value.category]; done) | rfl) ?_
  intro m G K0
  have K : Cx l ({ frames := 2, cells := 1, slots := 1, locals := 35 } : Room) Z n0 _ sS "<init>" jdk_42_method_149_code 6 none m G := K0
  have hw6 := hw _ (List.mem_of_getElem? (i := 6) rfl)
  have hw16 := hw _ (List.mem_of_getElem? (i := 16) rfl)
  have hw17 := hw _ (List.mem_of_getElem? (i := 17) rfl)
  have hw18 := hw _ (List.mem_of_getElem? (i := 18) rfl)
  have hw21 := hw _ (List.mem_of_getElem? (i := 21) rfl)
  have hw22 := hw _ (List.mem_of_getElem? (i := 22) rfl)
  have hw25 := hw _ (List.mem_of_getElem? (i := 25) rfl)
  have hw26 := hw _ (List.mem_of_getElem? (i := 26) rfl)
  have hw58 := hw _ (List.mem_of_getElem? (i := 58) rfl)
  have hw59 := hw _ (List.mem_of_getElem? (i := 59) rfl)
  have hw60 := hw _ (List.mem_of_getElem? (i := 60) rfl)
  have hw61 := hw _ (List.mem_of_getElem? (i := 61) rfl)
  have hw62 := hw _ (List.mem_of_getElem? (i := 62) rfl)
  have hw66 := hw _ (List.mem_of_getElem? (i := 66) rfl)
  have hw67 := hw _ (List.mem_of_getElem? (i := 67) rfl)
  have hw68 := hw _ (List.mem_of_getElem? (i := 68) rfl)
  refine K.aloadN d3_0 (pc' := 1) rfl rfl rfl ?_
  refine K.init0 d3_1 (pc' := 4) rfl hw16 hw17 hw18 rfl (by decide) (W := 0) (by simp [Value.category]) (by decide) ?_
  refine K.iloadN d3_4 (pc' := 5) rfl rfl ?_
  refine K.if_ne d3_5 (pc1 := 8) rfl (by decide) (pc2 := 27) (by decide) (a := 1) rfl (fun c5 => ?_) (fun c5 => ?_)
  · refine K.gets d3_27 (pc' := 30) rfl (host := "") (Or.inl hw58) Via.refl (P3.ext P2.2) ?_
    refine K.if_eq d3_30 (pc1 := 33) rfl (by decide) (pc2 := 58) (by decide) (a := cs.toInt) rfl (fun c30 => ?_) (fun c30 => ?_)
    · exfalso; exact hcs c30
    · refine K.aloadN d3_33 (pc' := 34) rfl rfl rfl ?_
      refine K.iloadN d3_34 (pc' := 35) rfl rfl ?_
      refine K.iloadN d3_35 (pc' := 36) rfl rfl ?_
      refine K.calls (argsL := [(.ref b), (.int (0 : Int32)), (.int (1 : Int32))]) (rest := []) d3_36 (pc' := 39) rfl (c_co1 l Z a0 hw n0 h (a := b) (p := p) Z0 P9 (by omega)) hw59 hw60 hw61 hw62 (by decide) pd_1 rfl rfl (W := 0) (by simp [Value.category]) (by decide) (by decide) (by decide) (by decide) (fun v_3 h_1 q_2 => ?_)
      obtain ⟨d0, rfl, K_4, f_5, f_6⟩ := q_2
      have sb_d0 : h.size ≤ d0 := Nat.le_trans (Keep.refl h [a]).1 f_5
      have kp_7 : Keep h h_1 [a] := (Keep.refl h [a]).trans K_4 all0
      show G h_1 1 1 (mkF m 39 #[vr a, vr b, vi 0, vi 1, .val .null, .unset] [(.ref d0)])
      refine K.astore d3_39 (pc' := 41) rfl rfl (L' := #[vr a, vr b, vi 0, vi 1, .val .null, vr d0]) rfl ?_
      refine K.aloadN d3_41 (pc' := 42) rfl rfl rfl ?_
      refine K.aload d3_42 (pc' := 44) rfl rfl rfl ?_
      refine K.iloadN d3_44 (pc' := 45) rfl rfl ?_
      refine K.calls (argsL := [(.ref d0), (.int (1 : Int32))]) (rest := [(.ref a)]) d3_45 (pc' := 48) rfl (c_cod1 l Z a0 hw n0 h_1 (a := d0) (x0 := (p.toInt8.toInt32)) f_6) hw66 hw67 hw61 hw68 (by decide) pd_2 rfl rfl (W := 1) (by simp [Value.category]) (by decide) (by decide) (by decide) (by decide) (fun v_10 h_8 q_9 => ?_)
      obtain ⟨rfl, rfl⟩ := q_9
      show G h_1 1 1 (mkF m 48 #[vr a, vr b, vi 0, vi 1, .val .null, vr d0] [(.int (0 : Int32)), (.ref a)])
      have f_12 : Fld Z h_1 a sS "coder" "B" (.int (0 : Int32)) := (P8.keep K_4 nin0)
      have f_13 : Exa Z h_1 a sS := (P5.keep K_4)
      refine K.putf d3_48 (pc' := 51) rfl (host := "") (Or.inl hw26) Via.refl f_12 f_13 (Or.inr ⟨hw22, rfl, rfl⟩) hw6 (ty := .byte) (by decide) rfl rfl P6 (fun h_14 W_15 => ?_)
      have f_16 : Fld Z h_1 a sS "value" "[B" .null := (P7.keep K_4 nin0)
      have f_17 : Fld Z h_14 a sS "value" "[B" .null := f_16.other W_15 (Or.inr (slot_ne (Or.inr hw21) (Or.inr hw22) (by decide) (t := (.array .byte)) (t' := .byte) (by decide) (by decide)))
      have f_18 : Fld Z h_14 a sS "coder" "B" (.int (0 : Int32)) := f_12.same W_15
      have kp_19 : Keep h h_14 [a] := kp_7.wr W_15 (Or.inl (by simp))
      refine K.aloadN d3_51 (pc' := 52) rfl rfl rfl ?_
      refine K.aload d3_52 (pc' := 54) rfl rfl rfl ?_
      have f_20 : Exa Z h_14 a sS := (f_13.wr W_15)
      refine K.putf d3_54 (pc' := 57) rfl (host := "") (Or.inl hw25) Via.refl f_17 f_20 (Or.inr ⟨hw21, rfl, rfl⟩) hw6 (ty := (.array .byte)) (by decide) rfl rfl P6 (fun h_21 W_22 => ?_)
      have f_23 : Fld Z h_21 a sS "value" "[B" (.ref d0) := f_17.same W_22
      have f_24 : Fld Z h_21 a sS "coder" "B" (.int (0 : Int32)) := f_18.other W_22 (Or.inr (slot_ne (Or.inr hw22) (Or.inr hw21) (by decide) (t := .byte) (t' := (.array .byte)) (by decide) (by decide)))
      have kp_25 : Keep h h_21 [a] := kp_19.wr W_22 (Or.inl (by simp))
      have ne_26 : d0 ≠ a := (Ne.symm (Nat.ne_of_lt (Nat.lt_of_lt_of_le P5.lt (Nat.le_trans (Nat.le_refl _) f_5))))
      have f_27 : Ary Z h_21 d0 .byte [(.int (p.toInt8.toInt32))] := ((f_6.other W_15 ne_26).other W_22 ne_26)
      exact K.ret0 d3_57 (by decide) (by decide) ⟨d0, rfl, kp_25, sb_d0, f_23, f_24, f_27⟩
  · exfalso; omega
theorem d2_0 : decode jdk_42_method_3_code 0 = .ok (.aload_n 0, 1) := by decide +kernel
theorem d2_1 : decode jdk_42_method_3_code 1 = .ok (.aload_n 1, 1) := by decide +kernel
theorem d2_2 : decode jdk_42_method_3_code 2 = .ok (.iconst 0, 1) := by decide +kernel
theorem d2_3 : decode jdk_42_method_3_code 3 = .ok (.aload_n 1, 1) := by decide +kernel
theorem d2_4 : decode jdk_42_method_3_code 4 = .ok (.arraylength, 1) := by decide +kernel
theorem d2_5 : decode jdk_42_method_3_code 5 = .ok (.aconst_null, 1) := by decide +kernel
theorem d2_6 : decode jdk_42_method_3_code 6 = .ok (.invokespecial 27, 3) := by decide +kernel
theorem pd_3 : parseMethodDescriptor "([CIILjava/lang/Void;)V" = some ⟨[(.array .char), .int, .int, (.object "java/lang/Void")], none⟩ := by decide +kernel
theorem d2_9 : decode jdk_42_method_3_code 9 = .ok (.return_, 1) := by decide +kernel
set_option maxRecDepth 65536 in
set_option maxHeartbeats 40000000 in
theorem c_inA1 (l : Launch) (Z : State) (a0 : Array Value) (hw : ∀ d ∈ tables_1, d.before a0 Z = true) (n0 : Nat) (h : Heap) (a : Addr) (b : Addr) (cs : Int32) (p : Int32) (Z0 : n0 ≤ h.size) (P2 : Old Z n0 h) (P3 : Sta Z Z.heap sS "COMPACT_STRINGS" "Z" (.int cs)) (hcs : cs.toInt ≠ 0) (P5 : Exa Z h a sS) (P6 : n0 ≤ a) (P7 : Fld Z h a sS "value" "[B" .null) (P8 : Fld Z h a sS "coder" "B" (.int (0 : Int32))) (P9 : Ary Z h b .char [(.int p)]) (P10 : b ≠ a) (hp : 0 ≤ p.toInt ∧ p.toInt ≤ 255) : MeetsW l Z n0 (⟨sS, "<init>", "([C)V"⟩ : MethodName) jdk_42_method_3_code 2 none ({ frames := 3, cells := 1, slots := 1, locals := 52 } : Room) #[(.ref a), (.ref b)] h (fun v h' => ∃ (d : Addr), v = none ∧ Keep h h' [a] ∧ h.size ≤ d ∧ Fld Z h' a sS "value" "[B" (.ref d) ∧ Fld Z h' a sS "coder" "B" (.int (0 : Int32)) ∧ Ary Z h' d .byte [(.int (p.toInt8.toInt32))]) := by
  refine MeetsW.intro (plainFor_of_name pn_java_lang_String) (L0 := #[vr a, vr b]) (fun m => by first | (simp [entryFrame, mkF, argsToLocals, Value.category]; done) | rfl) ?_
  intro m G K0
  have K : Cx l ({ frames := 3, cells := 1, slots := 1, locals := 52 } : Room) Z n0 _ sS "<init>" jdk_42_method_3_code 2 none m G := K0
  have hw7 := hw _ (List.mem_of_getElem? (i := 7) rfl)
  have hw12 := hw _ (List.mem_of_getElem? (i := 12) rfl)
  have hw13 := hw _ (List.mem_of_getElem? (i := 13) rfl)
  have hw15 := hw _ (List.mem_of_getElem? (i := 15) rfl)
  refine K.aloadN d2_0 (pc' := 1) rfl rfl rfl ?_
  refine K.aloadN d2_1 (pc' := 2) rfl rfl rfl ?_
  refine K.iconst d2_2 (pc' := 3) rfl (z := 0) rfl ?_
  refine K.aloadN d2_3 (pc' := 4) rfl rfl rfl ?_
  refine K.alen d2_4 (pc' := 5) rfl P9 (fun n e_n => ?_)
  have t_n : n.toInt = 1 := e_n
  have cs_n : n = 1 := by
    have q : n.toInt = 1 := by omega
    rcases q with q
    · exact eqI q
  rcases cs_n with rfl
  · refine K.anull d2_5 (pc' := 6) rfl ?_
    refine K.callc (argsL := [(.ref b), (.int (0 : Int32)), (.int (1 : Int32)), .null]) (rest := []) d2_6 (pc' := 9) rfl rfl (c_ini1 l Z a0 hw n0 h (a := a) (b := b) (cs := cs) (p := p) Z0 P2 P3 (by omega) P5 P6 P7 P8 P9 P10 (by omega)) hw12 hw13 hw7 hw15 (by decide) pd_3 rfl rfl (W := 0) (by simp [Value.category]) (by decide) (by decide) (by decide) (by decide) (fun v_3 h_1 q_2 => ?_)
    obtain ⟨d0, rfl, K_5, f_6, f_7, f_8, f_9⟩ := q_2
    have sb_d0 : h.size ≤ d0 := Nat.le_trans (Keep.refl h [a]).1 f_6
    have kp_10 : Keep h h_1 [a] := (Keep.refl h [a]).trans K_5 (allS (Or.inl (by simp)) all0)
    show G h_1 1 1 (mkF m 9 #[vr a, vr b] [])
    exact K.ret0 d2_9 (by decide) (by decide) ⟨d0, rfl, kp_10, sb_d0, f_7, f_8, f_9⟩
theorem d1_0 : decode method_3_code 0 = .ok (.iload_n 0, 1) := by decide +kernel
theorem d1_1 : decode method_3_code 1 = .ok (.ifCond .ne 14, 3) := by decide +kernel
theorem d1_15 : decode method_3_code 15 = .ok (.iload_n 0, 1) := by decide +kernel
theorem d1_16 : decode method_3_code 16 = .ok (.iconst 1, 1) := by decide +kernel
theorem d1_17 : decode method_3_code 17 = .ok (.if_icmp .ne 18, 3) := by decide +kernel
theorem d1_20 : decode method_3_code 20 = .ok (.new 40, 3) := by decide +kernel
theorem d1_23 : decode method_3_code 23 = .ok (.dup, 1) := by decide +kernel
theorem d1_24 : decode method_3_code 24 = .ok (.iconst 1, 1) := by decide +kernel
theorem d1_25 : decode method_3_code 25 = .ok (.newarray .char, 2) := by decide +kernel
theorem d1_27 : decode method_3_code 27 = .ok (.dup, 1) := by decide +kernel
theorem d1_28 : decode method_3_code 28 = .ok (.iconst 0, 1) := by decide +kernel
theorem d1_29 : decode method_3_code 29 = .ok (.iload_n 1, 1) := by decide +kernel
theorem d1_30 : decode method_3_code 30 = .ok (.castore, 1) := by decide +kernel
theorem d1_31 : decode method_3_code 31 = .ok (.invokespecial 42, 3) := by decide +kernel
theorem pd_4 : parseMethodDescriptor "([C)V" = some ⟨[(.array .char)], none⟩ := by decide +kernel
theorem d1_34 : decode method_3_code 34 = .ok (.areturn, 1) := by decide +kernel
theorem pn_com_example_ltl_to_omega_ltltoomega_hoa_TokenIsPinLaw : plainName sW = true := by first | (simp [plainName, overriddenIn]; done) | decide +kernel
set_option maxRecDepth 65536 in
set_option maxHeartbeats 40000000 in
theorem c_str1 (l : Launch) (Z : State) (a0 : Array Value) (hw : ∀ d ∈ tables_1, d.before a0 Z = true) (n0 : Nat) (h : Heap) (cs : Int32) (p : Int32) (q : Int32) (Z0 : n0 ≤ h.size) (P2 : Old Z n0 h) (P3 : Sta Z Z.heap sS "COMPACT_STRINGS" "Z" (.int cs)) (hcs : cs.toInt ≠ 0) (hp : 0 ≤ p.toInt ∧ p.toInt ≤ 255) : MeetsW l Z n0 (⟨sW, "str", "(ICC)Ljava/lang/String;"⟩ : MethodName) method_3_code 3 (some (.object sS)) ({ frames := 4, cells := 3, slots := 6, locals := 66 } : Room) #[(.int (1 : Int32)), (.int p), (.int q)] h (fun v h' => ∃ (o : Addr) (d : Addr), v = some (.ref o) ∧ Keep h h' [] ∧ h.size ≤ o ∧ h.size ≤ d ∧ Exa Z h' o sS ∧ Fld Z h' o sS "value" "[B" (.ref d) ∧ Fld Z h' o sS "coder" "B" (.int (0 : Int32)) ∧ Ary Z h' d .byte [(.int (p.toInt8.toInt32))]) := by
  refine MeetsW.intro (plainFor_of_name pn_com_example_ltl_to_omega_ltltoomega_hoa_TokenIsPinLaw) (L0 := #[vi 1, vi p, vi q]) (fun m => by first | (simp [entryFrame, mkF, argsToLocals, Value.category]; done) | rfl) ?_
  intro m G K0
  have K : Cx l ({ frames := 4, cells := 3, slots := 6, locals := 66 } : Room) Z n0 _ sW "str" method_3_code 3 (some (.object sS)) m G := K0
  have hw5 := hw _ (List.mem_of_getElem? (i := 5) rfl)
  have hw6 := hw _ (List.mem_of_getElem? (i := 6) rfl)
  have hw7 := hw _ (List.mem_of_getElem? (i := 7) rfl)
  have hw8 := hw _ (List.mem_of_getElem? (i := 8) rfl)
  have hw9 := hw _ (List.mem_of_getElem? (i := 9) rfl)
  have hw10 := hw _ (List.mem_of_getElem? (i := 10) rfl)
  have hw11 := hw _ (List.mem_of_getElem? (i := 11) rfl)
  have hw21 := hw _ (List.mem_of_getElem? (i := 21) rfl)
  have hw22 := hw _ (List.mem_of_getElem? (i := 22) rfl)
  refine K.iloadN d1_0 (pc' := 1) rfl rfl ?_
  refine K.if_ne d1_1 (pc1 := 4) rfl (by decide) (pc2 := 15) (by decide) (a := 1) rfl (fun c1 => ?_) (fun c1 => ?_)
  · refine K.iloadN d1_15 (pc' := 16) rfl rfl ?_
    refine K.iconst d1_16 (pc' := 17) rfl (z := 1) rfl ?_
    refine K.icmp_ne d1_17 (pc1 := 20) rfl (by decide) (pc2 := 35) (by decide) (a := 1) (b := 1) rfl rfl (fun c17 => ?_) (fun c17 => ?_)
    · exfalso; omega
    · refine K.newo d1_20 (pc' := 23) rfl hw5 hw6 hw7 (by decide) (by decide) (fun h_2 o_1 g_o_1 E_3 x_o_1 D_o_1 => ?_)
      have ge_o_1 : n0 ≤ o_1 := g_o_1 ▸ Z0
      have sb_o_1 : h.size ≤ o_1 := g_o_1 ▸ (Keep.refl h []).1
      have kp_4 : Keep h h_2 [] := (Keep.refl h []).ext E_3
      have f_5 : Fld Z h_2 o_1 sS "value" "[B" .null := D_o_1 (Or.inr hw21) (ty := (.array .byte)) (by decide)
      have f_6 : Fld Z h_2 o_1 sS "coder" "B" (.int (0 : Int32)) := D_o_1 (Or.inr hw22) (ty := .byte) (by decide)
      refine K.dup d1_23 (pc' := 24) rfl rfl ?_
      refine K.iconst d1_24 (pc' := 25) rfl (z := 1) rfl ?_
      refine K.newa d1_25 (pc' := 27) rfl hw8 (k := 1) (cap := 1) rfl (by decide) (by decide) (by decide) (by decide) (ad := "[C") (by decide) (fun h_8 a_7 g_a_7 E_9 A_10 x_a_7 => ?_)
      have sz_11 : n0 ≤ h_2.size := Nat.le_trans Z0 E_3.1
      have ge_a_7 : n0 ≤ a_7 := g_a_7 ▸ sz_11
      have sb_a_7 : h.size ≤ a_7 := g_a_7 ▸ kp_4.1
      have kp_12 : Keep h h_8 [] := kp_4.ext E_9
      have A_13 : Ary Z h_8 a_7 .char [(.int (0 : Int32))] := A_10
      refine K.dup d1_27 (pc' := 28) rfl rfl ?_
      refine K.iconst d1_28 (pc' := 29) rfl (z := 0) rfl ?_
      refine K.iloadN d1_29 (pc' := 30) rfl rfl ?_
      refine K.cast_ d1_30 (pc' := 31) rfl A_13 (i := 0) rfl (show 0 < 1 by decide) ge_a_7 (fun h_14 W_15 A_16 => ?_)
      rw [show nar .char p = p from nar_char_of (by omega)] at W_15 A_16
      have kp_17 : Keep h h_14 [] := kp_12.wr W_15 (Or.inr sb_a_7)
      have A_18 : Ary Z h_14 a_7 .char [(.int p)] := A_16
      have sz_19 : n0 ≤ h_14.size := Nat.le_trans sz_11 (Nat.le_trans E_9.1 (Keep.of_wr W_15).1)
      have f_20 : Old Z n0 h_14 := (((P2.ext E_3).ext E_9).wr W_15 ge_a_7)
      have f_21 : Exa Z h_14 o_1 sS := ((x_o_1.ext E_9).wr W_15)
      have ne_22 : o_1 ≠ a_7 := (Nat.ne_of_lt (Nat.lt_of_lt_of_le x_o_1.lt (Nat.le_trans (Nat.le_refl _) (Nat.le_of_eq g_a_7.symm))))
      have f_23 : Fld Z h_14 o_1 sS "value" "[B" .null := ((f_5.ext E_9).other W_15 (Or.inl ne_22))
      have f_24 : Fld Z h_14 o_1 sS "coder" "B" (.int (0 : Int32)) := ((f_6.ext E_9).other W_15 (Or.inl ne_22))
      refine K.callc (argsL := [(.ref a_7)]) (rest := [(.ref o_1)]) d1_31 (pc' := 34) rfl rfl (c_inA1 l Z a0 hw n0 h_14 (a := o_1) (b := a_7) (cs := cs) (p := p) sz_19 f_20 P3 (by omega) f_21 ge_o_1 f_23 f_24 A_18 (Ne.symm ne_22) (by omega)) hw9 hw10 hw7 hw11 (by decide) pd_4 rfl rfl (W := 1) (by simp [Value.category]) (by decide) (by decide) (by decide) (by decide) (fun v_27 h_25 q_26 => ?_)
      obtain ⟨d0, rfl, K_29, f_30, f_31, f_32, f_33⟩ := q_26
      have sb_d0 : h.size ≤ d0 := Nat.le_trans kp_17.1 f_30
      have kp_34 : Keep h h_25 [] := kp_17.trans K_29 (allS (Or.inr sb_o_1) all0)
      show G h_25 3 6 (mkF m 34 #[vi 1, vi p, vi q] [(.ref o_1)])
      have f_35 : Exa Z h_25 o_1 sS := (f_21.keep K_29)
      exact K.reta d1_34 rfl rfl rfl (by decide) (by decide) ⟨o_1, d0, rfl, kp_34, sb_o_1, sb_d0, f_35, f_31, f_32, f_33⟩
  · exfalso; omega
set_option maxRecDepth 65536 in
set_option maxHeartbeats 40000000 in
theorem c_cod2 (l : Launch) (Z : State) (a0 : Array Value) (hw : ∀ d ∈ tables_1, d.before a0 Z = true) (n0 : Nat) (h : Heap) (a : Addr) (x0 : Int32) (x1 : Int32) (P1 : Ary Z h a .byte [(.int x0), (.int x1)]) : MeetsW l Z n0 (⟨"java/lang/StringUTF16", "coderFromArrayLen", "([BI)B"⟩ : MethodName) jdk_52_method_15_code 2 (some .byte) ({ frames := 0, cells := 0, slots := 0, locals := 0 } : Room) #[(.ref a), (.int (2 : Int32))] h (fun v h' => v = some (.int (0 : Int32)) ∧ h = h') := by
  refine MeetsW.intro (plainFor_of_name pn_java_lang_StringUTF16) (L0 := #[vr a, vi 2]) (fun m => by first | (simp [entryFrame, mkF, argsToLocals, Value.category]; done) | rfl) ?_
  intro m G K0
  have K : Cx l ({ frames := 0, cells := 0, slots := 0, locals := 0 } : Room) Z n0 _ "java/lang/StringUTF16" "coderFromArrayLen" jdk_52_method_15_code 2 (some .byte) m G := K0
  refine K.iloadN d11_0 (pc' := 1) rfl rfl ?_
  refine K.aloadN d11_1 (pc' := 2) rfl rfl rfl ?_
  refine K.alen d11_2 (pc' := 3) rfl P1 (fun z2 e_z2 => ?_)
  have t_z2 : z2.toInt = 2 := e_z2
  obtain ⟨s, e_s⟩ : ∃ z, (2 : Int32) - z2 = z := ⟨_, rfl⟩
  have r_s : (s.toInt - (2 - z2.toInt)) % 4294967296 = 0 := by have q := c_isub (2 : Int32) z2; rw [e_s] at q; exact q
  have g_s := rng32 s
  have t_s : s.toInt = 0 := by omega
  clear r_s
  clear g_s
  refine K.isub d11_3 (pc' := 4) rfl e_s ?_
  refine K.bipush d11_4 (pc' := 6) rfl (z := 31) rfl ?_
  obtain ⟨u, e_u⟩ : ∃ z, (s.toUInt32 >>> ((31 : Int32) &&& 31).toUInt32).toInt32 = z := ⟨_, rfl⟩
  have r_u : u.toInt = (s.toInt % 4294967296) / 2147483648 := by have q := c_iushr s (31 : Int32) 31 (by decide) (by decide); rw [e_u] at q; exact q
  have t_u : u.toInt = 0 := by omega
  clear r_u
  refine K.iushr d11_6 (pc' := 7) rfl e_u ?_
  obtain ⟨t, e_t⟩ : ∃ z, u.toInt8.toInt32 = z := ⟨_, rfl⟩
  have r_t : (t.toInt - u.toInt) % 256 = 0 ∧ -128 ≤ t.toInt ∧ t.toInt < 128 := by have q := c_i2b u; rw [e_t] at q; exact q
  have t_t : t.toInt = 0 := by omega
  clear r_t
  refine K.i2b d11_7 (pc' := 8) rfl e_t ?_
  have cs_t : t = 0 := by
    have q : t.toInt = 0 := by omega
    rcases q with q
    · exact eqI q
  rcases cs_t with rfl
  · exact K.retb d11_8 rfl (by decide) (by decide) ⟨rfl, rfl⟩
set_option maxRecDepth 65536 in
set_option maxHeartbeats 40000000 in
theorem c_ci2 (l : Launch) (Z : State) (a0 : Array Value) (hw : ∀ d ∈ tables_1, d.before a0 Z = true) (n0 : Nat) (h : Heap) (a : Addr) (d : Addr) (p : Int32) (q : Int32) (P1 : Ary Z h a .char [(.int p), (.int q)]) (P2 : Ary Z h d .byte [(.int (0 : Int32)), (.int (0 : Int32))]) (P3 : n0 ≤ d) (P4 : a ≠ d) (hp : 0 ≤ p.toInt ∧ p.toInt ≤ 255) (hq : 0 ≤ q.toInt ∧ q.toInt ≤ 255) : MeetsW l Z n0 (⟨"java/lang/StringUTF16", "compress", "([CI[BII)I"⟩ : MethodName) jdk_52_method_21_code 7 (some .int) ({ frames := 0, cells := 0, slots := 0, locals := 0 } : Room) #[(.ref a), (.int (0 : Int32)), (.ref d), (.int (0 : Int32)), (.int (2 : Int32))] h (fun v h' => v = some (.int (2 : Int32)) ∧ Keep h h' [d] ∧ Ary Z h' d .byte [(.int (p.toInt8.toInt32)), (.int (q.toInt8.toInt32))]) := by
  refine MeetsW.intro (plainFor_of_name pn_java_lang_StringUTF16) (L0 := #[vr a, vi 0, vr d, vi 0, vi 2, .unset, .unset]) (fun m => by first | (simp [entryFrame, mkF, argsToLocals, Value.category]; done) | rfl) ?_
  intro m G K0
  have K : Cx l ({ frames := 0, cells := 0, slots := 0, locals := 0 } : Room) Z n0 _ "java/lang/StringUTF16" "compress" jdk_52_method_21_code 7 (some .int) m G := K0
  refine K.iconst d10_0 (pc' := 1) rfl (z := 0) rfl ?_
  refine K.istore d10_1 (pc' := 3) rfl (L' := #[vr a, vi 0, vr d, vi 0, vi 2, vi 0, .unset]) rfl ?_
  refine K.iload d10_3 (pc' := 5) rfl rfl ?_
  refine K.iload d10_5 (pc' := 7) rfl rfl ?_
  refine K.icmp_ge d10_7 (pc1 := 10) rfl (by decide) (pc2 := 44) (by decide) (a := 0) (b := 2) rfl rfl (fun c7 => ?_) (fun c7 => ?_)
  · exfalso; omega
  · refine K.aloadN d10_10 (pc' := 11) rfl rfl rfl ?_
    refine K.iloadN d10_11 (pc' := 12) rfl rfl ?_
    refine K.cald d10_12 (pc' := 13) rfl P1 (i := 0) rfl rfl ?_
    refine K.istore d10_13 (pc' := 15) rfl (L' := #[vr a, vi 0, vr d, vi 0, vi 2, vi 0, vi p]) rfl ?_
    refine K.iload d10_15 (pc' := 17) rfl rfl ?_
    refine K.sipush d10_17 (pc' := 20) rfl (z := 255) rfl ?_
    refine K.icmp_le d10_20 (pc1 := 23) rfl (by decide) (pc2 := 26) (by decide) (a := p.toInt) (b := 255) rfl rfl (fun c20 => ?_) (fun c20 => ?_)
    · refine K.aloadN d10_26 (pc' := 27) rfl rfl rfl ?_
      refine K.iloadN d10_27 (pc' := 28) rfl rfl ?_
      refine K.iload d10_28 (pc' := 30) rfl rfl ?_
      refine K.i2b d10_30 (pc' := 31) rfl rfl ?_
      refine K.bast d10_31 (pc' := 32) rfl P2 (i := 0) rfl (show 0 < 2 by decide) P3 (fun h_1 W_2 A_3 => ?_)
      rw [show nar .byte (p.toInt8.toInt32) = (p.toInt8.toInt32) from nar_byte_of (by have qp := c_i2b p; have qq := c_i2b q; omega)] at W_2 A_3
      have kp_4 : Keep h h_1 [d] := (Keep.refl h [d]).wr W_2 (Or.inl (by simp))
      have A_5 : Ary Z h_1 d .byte [(.int (p.toInt8.toInt32)), (.int (0 : Int32))] := A_3
      refine K.iinc d10_32 (pc' := 35) rfl rfl (z := (1 : Int32)) rfl (L' := #[vr a, vi 1, vr d, vi 0, vi 2, vi 0, vi p]) rfl ?_
      refine K.iinc d10_35 (pc' := 38) rfl rfl (z := (1 : Int32)) rfl (L' := #[vr a, vi 1, vr d, vi 1, vi 2, vi 0, vi p]) rfl ?_
      refine K.iinc d10_38 (pc' := 41) rfl rfl (z := (1 : Int32)) rfl (L' := #[vr a, vi 1, vr d, vi 1, vi 2, vi 1, vi p]) rfl ?_
      refine K.goto d10_41 (by decide) (pc' := 3) (by decide) ?_
      refine K.iload d10_3 (pc' := 5) rfl rfl ?_
      refine K.iload d10_5 (pc' := 7) rfl rfl ?_
      refine K.icmp_ge d10_7 (pc1 := 10) rfl (by decide) (pc2 := 44) (by decide) (a := 1) (b := 2) rfl rfl (fun c7_1 => ?_) (fun c7_1 => ?_)
      · exfalso; omega
      · refine K.aloadN d10_10 (pc' := 11) rfl rfl rfl ?_
        refine K.iloadN d10_11 (pc' := 12) rfl rfl ?_
        have f_6 : Ary Z h_1 a .char [(.int p), (.int q)] := (P1.other W_2 P4)
        refine K.cald d10_12 (pc' := 13) rfl f_6 (i := 1) rfl rfl ?_
        refine K.istore d10_13 (pc' := 15) rfl (L' := #[vr a, vi 1, vr d, vi 1, vi 2, vi 1, vi q]) rfl ?_
        refine K.iload d10_15 (pc' := 17) rfl rfl ?_
        refine K.sipush d10_17 (pc' := 20) rfl (z := 255) rfl ?_
        refine K.icmp_le d10_20 (pc1 := 23) rfl (by decide) (pc2 := 26) (by decide) (a := q.toInt) (b := 255) rfl rfl (fun c20_1 => ?_) (fun c20_1 => ?_)
        · refine K.aloadN d10_26 (pc' := 27) rfl rfl rfl ?_
          refine K.iloadN d10_27 (pc' := 28) rfl rfl ?_
          refine K.iload d10_28 (pc' := 30) rfl rfl ?_
          refine K.i2b d10_30 (pc' := 31) rfl rfl ?_
          refine K.bast d10_31 (pc' := 32) rfl A_5 (i := 1) rfl (show 1 < 2 by decide) P3 (fun h_7 W_8 A_9 => ?_)
          rw [show nar .byte (q.toInt8.toInt32) = (q.toInt8.toInt32) from nar_byte_of (by have qp := c_i2b p; have qq := c_i2b q; omega)] at W_8 A_9
          have kp_10 : Keep h h_7 [d] := kp_4.wr W_8 (Or.inl (by simp))
          have A_11 : Ary Z h_7 d .byte [(.int (p.toInt8.toInt32)), (.int (q.toInt8.toInt32))] := A_9
          refine K.iinc d10_32 (pc' := 35) rfl rfl (z := (2 : Int32)) rfl (L' := #[vr a, vi 2, vr d, vi 1, vi 2, vi 1, vi q]) rfl ?_
          refine K.iinc d10_35 (pc' := 38) rfl rfl (z := (2 : Int32)) rfl (L' := #[vr a, vi 2, vr d, vi 2, vi 2, vi 1, vi q]) rfl ?_
          refine K.iinc d10_38 (pc' := 41) rfl rfl (z := (2 : Int32)) rfl (L' := #[vr a, vi 2, vr d, vi 2, vi 2, vi 2, vi q]) rfl ?_
          refine K.goto d10_41 (by decide) (pc' := 3) (by decide) ?_
          refine K.iload d10_3 (pc' := 5) rfl rfl ?_
          refine K.iload d10_5 (pc' := 7) rfl rfl ?_
          refine K.icmp_ge d10_7 (pc1 := 10) rfl (by decide) (pc2 := 44) (by decide) (a := 2) (b := 2) rfl rfl (fun c7_2 => ?_) (fun c7_2 => ?_)
          · refine K.iload d10_44 (pc' := 46) rfl rfl ?_
            exact K.reti d10_46 (by decide) (by decide) ⟨rfl, kp_10, A_11⟩
          · exfalso; omega
        · exfalso; omega
    · exfalso; omega
set_option maxRecDepth 65536 in
set_option maxHeartbeats 40000000 in
theorem c_co2 (l : Launch) (Z : State) (a0 : Array Value) (hw : ∀ d ∈ tables_1, d.before a0 Z = true) (n0 : Nat) (h : Heap) (a : Addr) (p : Int32) (q : Int32) (Z0 : n0 ≤ h.size) (P2 : Ary Z h a .char [(.int p), (.int q)]) (hp : 0 ≤ p.toInt ∧ p.toInt ≤ 255) (hq : 0 ≤ q.toInt ∧ q.toInt ≤ 255) : MeetsW l Z n0 (⟨"java/lang/StringUTF16", "compress", "([CII)[B"⟩ : MethodName) jdk_52_method_16_code 6 (some (.array .byte)) ({ frames := 1, cells := 1, slots := 2, locals := 18 } : Room) #[(.ref a), (.int (0 : Int32)), (.int (2 : Int32))] h (fun v h' => ∃ o : Addr, v = some (.ref o) ∧ Keep h h' [] ∧ h.size ≤ o ∧ Ary Z h' o .byte [(.int (p.toInt8.toInt32)), (.int (q.toInt8.toInt32))]) := by
  refine MeetsW.intro (plainFor_of_name pn_java_lang_StringUTF16) (L0 := #[vr a, vi 0, vi 2, .unset, .unset, .unset]) (fun m => by first | (simp [entryFrame, mkF, argsToLocals, Value.category]; done) | rfl) ?_
  intro m G K0
  have K : Cx l ({ frames := 1, cells := 1, slots := 2, locals := 18 } : Room) Z n0 _ "java/lang/StringUTF16" "compress" jdk_52_method_16_code 6 (some (.array .byte)) m G := K0
  have hw20 := hw _ (List.mem_of_getElem? (i := 20) rfl)
  have hw61 := hw _ (List.mem_of_getElem? (i := 61) rfl)
  have hw63 := hw _ (List.mem_of_getElem? (i := 63) rfl)
  have hw64 := hw _ (List.mem_of_getElem? (i := 64) rfl)
  have hw65 := hw _ (List.mem_of_getElem? (i := 65) rfl)
  refine K.iloadN d9_0 (pc' := 1) rfl rfl ?_
  refine K.newa d9_1 (pc' := 3) rfl hw20 (k := 2) (cap := 2) rfl (by decide) (by decide) (by decide) (by decide) (ad := "[B") (by decide) (fun h_2 a_1 g_a_1 E_3 A_4 x_a_1 => ?_)
  have ge_a_1 : n0 ≤ a_1 := g_a_1 ▸ Z0
  have sb_a_1 : h.size ≤ a_1 := g_a_1 ▸ (Keep.refl h []).1
  have kp_5 : Keep h h_2 [] := (Keep.refl h []).ext E_3
  have A_6 : Ary Z h_2 a_1 .byte [(.int (0 : Int32)), (.int (0 : Int32))] := A_4
  refine K.astoreN d9_3 (pc' := 4) rfl rfl (L' := #[vr a, vi 0, vi 2, vr a_1, .unset, .unset]) rfl ?_
  refine K.aloadN d9_4 (pc' := 5) rfl rfl rfl ?_
  refine K.iloadN d9_5 (pc' := 6) rfl rfl ?_
  refine K.aloadN d9_6 (pc' := 7) rfl rfl rfl ?_
  refine K.iconst d9_7 (pc' := 8) rfl (z := 0) rfl ?_
  refine K.iloadN d9_8 (pc' := 9) rfl rfl ?_
  have f_7 : Ary Z h_2 a .char [(.int p), (.int q)] := (P2.ext E_3)
  have ne_8 : a ≠ a_1 := (Nat.ne_of_lt (Nat.lt_of_lt_of_le P2.lt (Nat.le_trans (Nat.le_refl _) (Nat.le_of_eq g_a_1.symm))))
  refine K.calls (argsL := [(.ref a), (.int (0 : Int32)), (.ref a_1), (.int (0 : Int32)), (.int (2 : Int32))]) (rest := []) d9_9 (pc' := 12) rfl (c_ci2 l Z a0 hw n0 h_2 (a := a) (d := a_1) (p := p) (q := q) f_7 A_6 ge_a_1 ne_8 (by omega) (by omega)) hw63 hw64 hw61 hw65 (by decide) pd_0 rfl rfl (W := 0) (by simp [Value.category]) (by decide) (by decide) (by decide) (by decide) (fun v_11 h_9 q_10 => ?_)
  obtain ⟨rfl, K_13, f_14⟩ := q_10
  have kp_15 : Keep h h_9 [] := kp_5.trans K_13 (allS (Or.inr sb_a_1) all0)
  show G h_9 1 2 (mkF m 12 #[vr a, vi 0, vi 2, vr a_1, .unset, .unset] [(.int (2 : Int32))])
  refine K.istore d9_12 (pc' := 14) rfl (L' := #[vr a, vi 0, vi 2, vr a_1, vi 2, .unset]) rfl ?_
  refine K.iload d9_14 (pc' := 16) rfl rfl ?_
  refine K.iloadN d9_16 (pc' := 17) rfl rfl ?_
  refine K.icmp_eq d9_17 (pc1 := 20) rfl (by decide) (pc2 := 57) (by decide) (a := 2) (b := 2) rfl rfl (fun c17 => ?_) (fun c17 => ?_)
  · refine K.aloadN d9_57 (pc' := 58) rfl rfl rfl ?_
    exact K.reta d9_58 rfl rfl rfl (by decide) (by decide) ⟨a_1, rfl, kp_15, sb_a_1, f_14⟩
  · exfalso; omega
set_option maxRecDepth 65536 in
set_option maxHeartbeats 40000000 in
theorem c_ini2 (l : Launch) (Z : State) (a0 : Array Value) (hw : ∀ d ∈ tables_1, d.before a0 Z = true) (n0 : Nat) (h : Heap) (a : Addr) (b : Addr) (cs : Int32) (p : Int32) (q : Int32) (Z0 : n0 ≤ h.size) (P2 : Old Z n0 h) (P3 : Sta Z Z.heap sS "COMPACT_STRINGS" "Z" (.int cs)) (hcs : cs.toInt ≠ 0) (P5 : Exa Z h a sS) (P6 : n0 ≤ a) (P7 : Fld Z h a sS "value" "[B" .null) (P8 : Fld Z h a sS "coder" "B" (.int (0 : Int32))) (P9 : Ary Z h b .char [(.int p), (.int q)]) (P10 : b ≠ a) (hp : 0 ≤ p.toInt ∧ p.toInt ≤ 255) (hq : 0 ≤ q.toInt ∧ q.toInt ≤ 255) : MeetsW l Z n0 (⟨sS, "<init>", "([CIILjava/lang/Void;)V"⟩ : MethodName) jdk_42_method_149_code 6 none ({ frames := 2, cells := 1, slots := 2, locals := 35 } : Room) #[(.ref a), (.ref b), (.int (0 : Int32)), (.int (2 : Int32)), .null] h (fun v h' => ∃ (d : Addr), v = none ∧ Keep h h' [a] ∧ h.size ≤ d ∧ Fld Z h' a sS "value" "[B" (.ref d) ∧ Fld Z h' a sS "coder" "B" (.int (0 : Int32)) ∧ Ary Z h' d .byte [(.int (p.toInt8.toInt32)), (.int (q.toInt8.toInt32))]) := by
  refine MeetsW.intro (plainFor_of_name pn_java_lang_String) (L0 := #[vr a, vr b, vi 0, vi 2, .val .null, .unset]) (fun m => by first | (simp [entryFrame, mkF, argsToLocals, Value.category]; done) | rfl) ?_
  intro m G K0
  have K : Cx l ({ frames := 2, cells := 1, slots := 2, locals := 35 } : Room) Z n0 _ sS "<init>" jdk_42_method_149_code 6 none m G := K0
  have hw6 := hw _ (List.mem_of_getElem? (i := 6) rfl)
  have hw16 := hw _ (List.mem_of_getElem? (i := 16) rfl)
  have hw17 := hw _ (List.mem_of_getElem? (i := 17) rfl)
  have hw18 := hw _ (List.mem_of_getElem? (i := 18) rfl)
  have hw21 := hw _ (List.mem_of_getElem? (i := 21) rfl)
  have hw22 := hw _ (List.mem_of_getElem? (i := 22) rfl)
  have hw25 := hw _ (List.mem_of_getElem? (i := 25) rfl)
  have hw26 := hw _ (List.mem_of_getElem? (i := 26) rfl)
  have hw58 := hw _ (List.mem_of_getElem? (i := 58) rfl)
  have hw59 := hw _ (List.mem_of_getElem? (i := 59) rfl)
  have hw60 := hw _ (List.mem_of_getElem? (i := 60) rfl)
  have hw61 := hw _ (List.mem_of_getElem? (i := 61) rfl)
  have hw62 := hw _ (List.mem_of_getElem? (i := 62) rfl)
  have hw66 := hw _ (List.mem_of_getElem? (i := 66) rfl)
  have hw67 := hw _ (List.mem_of_getElem? (i := 67) rfl)
  have hw68 := hw _ (List.mem_of_getElem? (i := 68) rfl)
  refine K.aloadN d3_0 (pc' := 1) rfl rfl rfl ?_
  refine K.init0 d3_1 (pc' := 4) rfl hw16 hw17 hw18 rfl (by decide) (W := 0) (by simp [Value.category]) (by decide) ?_
  refine K.iloadN d3_4 (pc' := 5) rfl rfl ?_
  refine K.if_ne d3_5 (pc1 := 8) rfl (by decide) (pc2 := 27) (by decide) (a := 2) rfl (fun c5 => ?_) (fun c5 => ?_)
  · refine K.gets d3_27 (pc' := 30) rfl (host := "") (Or.inl hw58) Via.refl (P3.ext P2.2) ?_
    refine K.if_eq d3_30 (pc1 := 33) rfl (by decide) (pc2 := 58) (by decide) (a := cs.toInt) rfl (fun c30 => ?_) (fun c30 => ?_)
    · exfalso; exact hcs c30
    · refine K.aloadN d3_33 (pc' := 34) rfl rfl rfl ?_
      refine K.iloadN d3_34 (pc' := 35) rfl rfl ?_
      refine K.iloadN d3_35 (pc' := 36) rfl rfl ?_
      refine K.calls (argsL := [(.ref b), (.int (0 : Int32)), (.int (2 : Int32))]) (rest := []) d3_36 (pc' := 39) rfl (c_co2 l Z a0 hw n0 h (a := b) (p := p) (q := q) Z0 P9 (by omega) (by omega)) hw59 hw60 hw61 hw62 (by decide) pd_1 rfl rfl (W := 0) (by simp [Value.category]) (by decide) (by decide) (by decide) (by decide) (fun v_3 h_1 q_2 => ?_)
      obtain ⟨d0, rfl, K_4, f_5, f_6⟩ := q_2
      have sb_d0 : h.size ≤ d0 := Nat.le_trans (Keep.refl h [a]).1 f_5
      have kp_7 : Keep h h_1 [a] := (Keep.refl h [a]).trans K_4 all0
      show G h_1 1 2 (mkF m 39 #[vr a, vr b, vi 0, vi 2, .val .null, .unset] [(.ref d0)])
      refine K.astore d3_39 (pc' := 41) rfl rfl (L' := #[vr a, vr b, vi 0, vi 2, .val .null, vr d0]) rfl ?_
      refine K.aloadN d3_41 (pc' := 42) rfl rfl rfl ?_
      refine K.aload d3_42 (pc' := 44) rfl rfl rfl ?_
      refine K.iloadN d3_44 (pc' := 45) rfl rfl ?_
      refine K.calls (argsL := [(.ref d0), (.int (2 : Int32))]) (rest := [(.ref a)]) d3_45 (pc' := 48) rfl (c_cod2 l Z a0 hw n0 h_1 (a := d0) (x0 := (p.toInt8.toInt32)) (x1 := (q.toInt8.toInt32)) f_6) hw66 hw67 hw61 hw68 (by decide) pd_2 rfl rfl (W := 1) (by simp [Value.category]) (by decide) (by decide) (by decide) (by decide) (fun v_10 h_8 q_9 => ?_)
      obtain ⟨rfl, rfl⟩ := q_9
      show G h_1 1 2 (mkF m 48 #[vr a, vr b, vi 0, vi 2, .val .null, vr d0] [(.int (0 : Int32)), (.ref a)])
      have f_12 : Fld Z h_1 a sS "coder" "B" (.int (0 : Int32)) := (P8.keep K_4 nin0)
      have f_13 : Exa Z h_1 a sS := (P5.keep K_4)
      refine K.putf d3_48 (pc' := 51) rfl (host := "") (Or.inl hw26) Via.refl f_12 f_13 (Or.inr ⟨hw22, rfl, rfl⟩) hw6 (ty := .byte) (by decide) rfl rfl P6 (fun h_14 W_15 => ?_)
      have f_16 : Fld Z h_1 a sS "value" "[B" .null := (P7.keep K_4 nin0)
      have f_17 : Fld Z h_14 a sS "value" "[B" .null := f_16.other W_15 (Or.inr (slot_ne (Or.inr hw21) (Or.inr hw22) (by decide) (t := (.array .byte)) (t' := .byte) (by decide) (by decide)))
      have f_18 : Fld Z h_14 a sS "coder" "B" (.int (0 : Int32)) := f_12.same W_15
      have kp_19 : Keep h h_14 [a] := kp_7.wr W_15 (Or.inl (by simp))
      refine K.aloadN d3_51 (pc' := 52) rfl rfl rfl ?_
      refine K.aload d3_52 (pc' := 54) rfl rfl rfl ?_
      have f_20 : Exa Z h_14 a sS := (f_13.wr W_15)
      refine K.putf d3_54 (pc' := 57) rfl (host := "") (Or.inl hw25) Via.refl f_17 f_20 (Or.inr ⟨hw21, rfl, rfl⟩) hw6 (ty := (.array .byte)) (by decide) rfl rfl P6 (fun h_21 W_22 => ?_)
      have f_23 : Fld Z h_21 a sS "value" "[B" (.ref d0) := f_17.same W_22
      have f_24 : Fld Z h_21 a sS "coder" "B" (.int (0 : Int32)) := f_18.other W_22 (Or.inr (slot_ne (Or.inr hw22) (Or.inr hw21) (by decide) (t := .byte) (t' := (.array .byte)) (by decide) (by decide)))
      have kp_25 : Keep h h_21 [a] := kp_19.wr W_22 (Or.inl (by simp))
      have ne_26 : d0 ≠ a := (Ne.symm (Nat.ne_of_lt (Nat.lt_of_lt_of_le P5.lt (Nat.le_trans (Nat.le_refl _) f_5))))
      have f_27 : Ary Z h_21 d0 .byte [(.int (p.toInt8.toInt32)), (.int (q.toInt8.toInt32))] := ((f_6.other W_15 ne_26).other W_22 ne_26)
      exact K.ret0 d3_57 (by decide) (by decide) ⟨d0, rfl, kp_25, sb_d0, f_23, f_24, f_27⟩
  · exfalso; omega
set_option maxRecDepth 65536 in
set_option maxHeartbeats 40000000 in
theorem c_inA2 (l : Launch) (Z : State) (a0 : Array Value) (hw : ∀ d ∈ tables_1, d.before a0 Z = true) (n0 : Nat) (h : Heap) (a : Addr) (b : Addr) (cs : Int32) (p : Int32) (q : Int32) (Z0 : n0 ≤ h.size) (P2 : Old Z n0 h) (P3 : Sta Z Z.heap sS "COMPACT_STRINGS" "Z" (.int cs)) (hcs : cs.toInt ≠ 0) (P5 : Exa Z h a sS) (P6 : n0 ≤ a) (P7 : Fld Z h a sS "value" "[B" .null) (P8 : Fld Z h a sS "coder" "B" (.int (0 : Int32))) (P9 : Ary Z h b .char [(.int p), (.int q)]) (P10 : b ≠ a) (hp : 0 ≤ p.toInt ∧ p.toInt ≤ 255) (hq : 0 ≤ q.toInt ∧ q.toInt ≤ 255) : MeetsW l Z n0 (⟨sS, "<init>", "([C)V"⟩ : MethodName) jdk_42_method_3_code 2 none ({ frames := 3, cells := 1, slots := 2, locals := 52 } : Room) #[(.ref a), (.ref b)] h (fun v h' => ∃ (d : Addr), v = none ∧ Keep h h' [a] ∧ h.size ≤ d ∧ Fld Z h' a sS "value" "[B" (.ref d) ∧ Fld Z h' a sS "coder" "B" (.int (0 : Int32)) ∧ Ary Z h' d .byte [(.int (p.toInt8.toInt32)), (.int (q.toInt8.toInt32))]) := by
  refine MeetsW.intro (plainFor_of_name pn_java_lang_String) (L0 := #[vr a, vr b]) (fun m => by first | (simp [entryFrame, mkF, argsToLocals, Value.category]; done) | rfl) ?_
  intro m G K0
  have K : Cx l ({ frames := 3, cells := 1, slots := 2, locals := 52 } : Room) Z n0 _ sS "<init>" jdk_42_method_3_code 2 none m G := K0
  have hw7 := hw _ (List.mem_of_getElem? (i := 7) rfl)
  have hw12 := hw _ (List.mem_of_getElem? (i := 12) rfl)
  have hw13 := hw _ (List.mem_of_getElem? (i := 13) rfl)
  have hw15 := hw _ (List.mem_of_getElem? (i := 15) rfl)
  refine K.aloadN d2_0 (pc' := 1) rfl rfl rfl ?_
  refine K.aloadN d2_1 (pc' := 2) rfl rfl rfl ?_
  refine K.iconst d2_2 (pc' := 3) rfl (z := 0) rfl ?_
  refine K.aloadN d2_3 (pc' := 4) rfl rfl rfl ?_
  refine K.alen d2_4 (pc' := 5) rfl P9 (fun n e_n => ?_)
  have t_n : n.toInt = 2 := e_n
  have cs_n : n = 2 := by
    have q : n.toInt = 2 := by omega
    rcases q with q
    · exact eqI q
  rcases cs_n with rfl
  · refine K.anull d2_5 (pc' := 6) rfl ?_
    refine K.callc (argsL := [(.ref b), (.int (0 : Int32)), (.int (2 : Int32)), .null]) (rest := []) d2_6 (pc' := 9) rfl rfl (c_ini2 l Z a0 hw n0 h (a := a) (b := b) (cs := cs) (p := p) (q := q) Z0 P2 P3 (by omega) P5 P6 P7 P8 P9 P10 (by omega) (by omega)) hw12 hw13 hw7 hw15 (by decide) pd_3 rfl rfl (W := 0) (by simp [Value.category]) (by decide) (by decide) (by decide) (by decide) (fun v_3 h_1 q_2 => ?_)
    obtain ⟨d0, rfl, K_5, f_6, f_7, f_8, f_9⟩ := q_2
    have sb_d0 : h.size ≤ d0 := Nat.le_trans (Keep.refl h [a]).1 f_6
    have kp_10 : Keep h h_1 [a] := (Keep.refl h [a]).trans K_5 (allS (Or.inl (by simp)) all0)
    show G h_1 1 2 (mkF m 9 #[vr a, vr b] [])
    exact K.ret0 d2_9 (by decide) (by decide) ⟨d0, rfl, kp_10, sb_d0, f_7, f_8, f_9⟩
theorem d1_35 : decode method_3_code 35 = .ok (.new 40, 3) := by decide +kernel
theorem d1_38 : decode method_3_code 38 = .ok (.dup, 1) := by decide +kernel
theorem d1_39 : decode method_3_code 39 = .ok (.iconst 2, 1) := by decide +kernel
theorem d1_40 : decode method_3_code 40 = .ok (.newarray .char, 2) := by decide +kernel
theorem d1_42 : decode method_3_code 42 = .ok (.dup, 1) := by decide +kernel
theorem d1_43 : decode method_3_code 43 = .ok (.iconst 0, 1) := by decide +kernel
theorem d1_44 : decode method_3_code 44 = .ok (.iload_n 1, 1) := by decide +kernel
theorem d1_45 : decode method_3_code 45 = .ok (.castore, 1) := by decide +kernel
theorem d1_46 : decode method_3_code 46 = .ok (.dup, 1) := by decide +kernel
theorem d1_47 : decode method_3_code 47 = .ok (.iconst 1, 1) := by decide +kernel
theorem d1_48 : decode method_3_code 48 = .ok (.iload_n 2, 1) := by decide +kernel
theorem d1_49 : decode method_3_code 49 = .ok (.castore, 1) := by decide +kernel
theorem d1_50 : decode method_3_code 50 = .ok (.invokespecial 42, 3) := by decide +kernel
theorem d1_53 : decode method_3_code 53 = .ok (.areturn, 1) := by decide +kernel
set_option maxRecDepth 65536 in
set_option maxHeartbeats 40000000 in
theorem c_str2 (l : Launch) (Z : State) (a0 : Array Value) (hw : ∀ d ∈ tables_1, d.before a0 Z = true) (n0 : Nat) (h : Heap) (cs : Int32) (p : Int32) (q : Int32) (Z0 : n0 ≤ h.size) (P2 : Old Z n0 h) (P3 : Sta Z Z.heap sS "COMPACT_STRINGS" "Z" (.int cs)) (hcs : cs.toInt ≠ 0) (hp : 0 ≤ p.toInt ∧ p.toInt ≤ 255) (hq : 0 ≤ q.toInt ∧ q.toInt ≤ 255) : MeetsW l Z n0 (⟨sW, "str", "(ICC)Ljava/lang/String;"⟩ : MethodName) method_3_code 3 (some (.object sS)) ({ frames := 4, cells := 3, slots := 8, locals := 66 } : Room) #[(.int (2 : Int32)), (.int p), (.int q)] h (fun v h' => ∃ (o : Addr) (d : Addr), v = some (.ref o) ∧ Keep h h' [] ∧ h.size ≤ o ∧ h.size ≤ d ∧ Exa Z h' o sS ∧ Fld Z h' o sS "value" "[B" (.ref d) ∧ Fld Z h' o sS "coder" "B" (.int (0 : Int32)) ∧ Ary Z h' d .byte [(.int (p.toInt8.toInt32)), (.int (q.toInt8.toInt32))]) := by
  refine MeetsW.intro (plainFor_of_name pn_com_example_ltl_to_omega_ltltoomega_hoa_TokenIsPinLaw) (L0 := #[vi 2, vi p, vi q]) (fun m => by first | (simp [entryFrame, mkF, argsToLocals, Value.category]; done) | rfl) ?_
  intro m G K0
  have K : Cx l ({ frames := 4, cells := 3, slots := 8, locals := 66 } : Room) Z n0 _ sW "str" method_3_code 3 (some (.object sS)) m G := K0
  have hw5 := hw _ (List.mem_of_getElem? (i := 5) rfl)
  have hw6 := hw _ (List.mem_of_getElem? (i := 6) rfl)
  have hw7 := hw _ (List.mem_of_getElem? (i := 7) rfl)
  have hw8 := hw _ (List.mem_of_getElem? (i := 8) rfl)
  have hw9 := hw _ (List.mem_of_getElem? (i := 9) rfl)
  have hw10 := hw _ (List.mem_of_getElem? (i := 10) rfl)
  have hw11 := hw _ (List.mem_of_getElem? (i := 11) rfl)
  have hw21 := hw _ (List.mem_of_getElem? (i := 21) rfl)
  have hw22 := hw _ (List.mem_of_getElem? (i := 22) rfl)
  refine K.iloadN d1_0 (pc' := 1) rfl rfl ?_
  refine K.if_ne d1_1 (pc1 := 4) rfl (by decide) (pc2 := 15) (by decide) (a := 2) rfl (fun c1 => ?_) (fun c1 => ?_)
  · refine K.iloadN d1_15 (pc' := 16) rfl rfl ?_
    refine K.iconst d1_16 (pc' := 17) rfl (z := 1) rfl ?_
    refine K.icmp_ne d1_17 (pc1 := 20) rfl (by decide) (pc2 := 35) (by decide) (a := 2) (b := 1) rfl rfl (fun c17 => ?_) (fun c17 => ?_)
    · refine K.newo d1_35 (pc' := 38) rfl hw5 hw6 hw7 (by decide) (by decide) (fun h_2 o_1 g_o_1 E_3 x_o_1 D_o_1 => ?_)
      have ge_o_1 : n0 ≤ o_1 := g_o_1 ▸ Z0
      have sb_o_1 : h.size ≤ o_1 := g_o_1 ▸ (Keep.refl h []).1
      have kp_4 : Keep h h_2 [] := (Keep.refl h []).ext E_3
      have f_5 : Fld Z h_2 o_1 sS "value" "[B" .null := D_o_1 (Or.inr hw21) (ty := (.array .byte)) (by decide)
      have f_6 : Fld Z h_2 o_1 sS "coder" "B" (.int (0 : Int32)) := D_o_1 (Or.inr hw22) (ty := .byte) (by decide)
      refine K.dup d1_38 (pc' := 39) rfl rfl ?_
      refine K.iconst d1_39 (pc' := 40) rfl (z := 2) rfl ?_
      refine K.newa d1_40 (pc' := 42) rfl hw8 (k := 2) (cap := 2) rfl (by decide) (by decide) (by decide) (by decide) (ad := "[C") (by decide) (fun h_8 a_7 g_a_7 E_9 A_10 x_a_7 => ?_)
      have sz_11 : n0 ≤ h_2.size := Nat.le_trans Z0 E_3.1
      have ge_a_7 : n0 ≤ a_7 := g_a_7 ▸ sz_11
      have sb_a_7 : h.size ≤ a_7 := g_a_7 ▸ kp_4.1
      have kp_12 : Keep h h_8 [] := kp_4.ext E_9
      have A_13 : Ary Z h_8 a_7 .char [(.int (0 : Int32)), (.int (0 : Int32))] := A_10
      refine K.dup d1_42 (pc' := 43) rfl rfl ?_
      refine K.iconst d1_43 (pc' := 44) rfl (z := 0) rfl ?_
      refine K.iloadN d1_44 (pc' := 45) rfl rfl ?_
      refine K.cast_ d1_45 (pc' := 46) rfl A_13 (i := 0) rfl (show 0 < 2 by decide) ge_a_7 (fun h_14 W_15 A_16 => ?_)
      rw [show nar .char p = p from nar_char_of (by omega)] at W_15 A_16
      have kp_17 : Keep h h_14 [] := kp_12.wr W_15 (Or.inr sb_a_7)
      have A_18 : Ary Z h_14 a_7 .char [(.int p), (.int (0 : Int32))] := A_16
      refine K.dup d1_46 (pc' := 47) rfl rfl ?_
      refine K.iconst d1_47 (pc' := 48) rfl (z := 1) rfl ?_
      refine K.iloadN d1_48 (pc' := 49) rfl rfl ?_
      refine K.cast_ d1_49 (pc' := 50) rfl A_18 (i := 1) rfl (show 1 < 2 by decide) ge_a_7 (fun h_19 W_20 A_21 => ?_)
      rw [show nar .char q = q from nar_char_of (by omega)] at W_20 A_21
      have kp_22 : Keep h h_19 [] := kp_17.wr W_20 (Or.inr sb_a_7)
      have A_23 : Ary Z h_19 a_7 .char [(.int p), (.int q)] := A_21
      have sz_24 : n0 ≤ h_19.size := Nat.le_trans sz_11 (Nat.le_trans E_9.1 (Nat.le_trans (Keep.of_wr W_15).1 (Keep.of_wr W_20).1))
      have f_25 : Old Z n0 h_19 := ((((P2.ext E_3).ext E_9).wr W_15 ge_a_7).wr W_20 ge_a_7)
      have f_26 : Exa Z h_19 o_1 sS := (((x_o_1.ext E_9).wr W_15).wr W_20)
      have ne_27 : o_1 ≠ a_7 := (Nat.ne_of_lt (Nat.lt_of_lt_of_le x_o_1.lt (Nat.le_trans (Nat.le_refl _) (Nat.le_of_eq g_a_7.symm))))
      have f_28 : Fld Z h_19 o_1 sS "value" "[B" .null := (((f_5.ext E_9).other W_15 (Or.inl ne_27)).other W_20 (Or.inl ne_27))
      have f_29 : Fld Z h_19 o_1 sS "coder" "B" (.int (0 : Int32)) := (((f_6.ext E_9).other W_15 (Or.inl ne_27)).other W_20 (Or.inl ne_27))
      refine K.callc (argsL := [(.ref a_7)]) (rest := [(.ref o_1)]) d1_50 (pc' := 53) rfl rfl (c_inA2 l Z a0 hw n0 h_19 (a := o_1) (b := a_7) (cs := cs) (p := p) (q := q) sz_24 f_25 P3 (by omega) f_26 ge_o_1 f_28 f_29 A_23 (Ne.symm ne_27) (by omega) (by omega)) hw9 hw10 hw7 hw11 (by decide) pd_4 rfl rfl (W := 1) (by simp [Value.category]) (by decide) (by decide) (by decide) (by decide) (fun v_32 h_30 q_31 => ?_)
      obtain ⟨d0, rfl, K_34, f_35, f_36, f_37, f_38⟩ := q_31
      have sb_d0 : h.size ≤ d0 := Nat.le_trans kp_22.1 f_35
      have kp_39 : Keep h h_30 [] := kp_22.trans K_34 (allS (Or.inr sb_o_1) all0)
      show G h_30 3 8 (mkF m 53 #[vi 2, vi p, vi q] [(.ref o_1)])
      have f_40 : Exa Z h_30 o_1 sS := (f_26.keep K_34)
      exact K.reta d1_53 rfl rfl rfl (by decide) (by decide) ⟨o_1, d0, rfl, kp_39, sb_o_1, sb_d0, f_40, f_36, f_37, f_38⟩
    · exfalso; omega
  · exfalso; omega
theorem d3_8 : decode jdk_42_method_149_code 8 = .ok (.aload_n 0, 1) := by decide +kernel
theorem d3_9 : decode jdk_42_method_149_code 9 = .ok (.ldc 7, 2) := by decide +kernel
theorem d3_11 : decode jdk_42_method_149_code 11 = .ok (.getfield 9, 3) := by decide +kernel
theorem d3_14 : decode jdk_42_method_149_code 14 = .ok (.putfield 9, 3) := by decide +kernel
theorem d3_17 : decode jdk_42_method_149_code 17 = .ok (.aload_n 0, 1) := by decide +kernel
theorem d3_18 : decode jdk_42_method_149_code 18 = .ok (.ldc 7, 2) := by decide +kernel
theorem d3_20 : decode jdk_42_method_149_code 20 = .ok (.getfield 15, 3) := by decide +kernel
theorem d3_23 : decode jdk_42_method_149_code 23 = .ok (.putfield 15, 3) := by decide +kernel
theorem d3_26 : decode jdk_42_method_149_code 26 = .ok (.return_, 1) := by decide +kernel
set_option maxRecDepth 65536 in
set_option maxHeartbeats 40000000 in
theorem c_ini0c (l : Launch) (Z : State) (a0 : Array Value) (hw : ∀ d ∈ tables_1, d.before a0 Z = true) (n0 : Nat) (h : Heap) (a : Addr) (b : Addr) (Z0 : n0 ≤ h.size) (P2 : Old Z n0 h) (P3 : Exa Z h a sS) (P4 : n0 ≤ a) (P5 : Fld Z h a sS "value" "[B" .null) (P6 : Fld Z h a sS "coder" "B" (.int (0 : Int32))) (hh : Jvm.Lit.constHeld Z sS 7) (hcw : Jvm.Lit.compactW.before a0 Z = true) : Jvm.Wv.MeetsV l Z n0 (⟨sS, "<init>", "([CIILjava/lang/Void;)V"⟩ : MethodName) jdk_42_method_149_code 6 none ({ frames := 1, cells := 2, slots := 4, locals := 12 } : Room) #[(.ref a), (.ref b), (.int (0 : Int32)), (.int (0 : Int32)), .null] h none (fun v h' lv' => ∃ (la : Addr) (lb : Addr), v = none ∧ Keep h h' [a] ∧ lv' = some la ∧ Exa Z h' la sS ∧ Fld Z h' la sS "value" "[B" (.ref lb) ∧ Fld Z h' la sS "coder" "B" (.int (0 : Int32)) ∧ Ary Z h' lb .byte [] ∧ Fld Z h' a sS "value" "[B" (.ref lb) ∧ Fld Z h' a sS "coder" "B" (.int (0 : Int32))) := by
  refine Jvm.Wv.MeetsV.intro (plainFor_of_name pn_java_lang_String) (L0 := #[vr a, vr b, vi 0, vi 0, .val .null, .unset]) (fun m => by first | (simp [entryFrame, mkF, argsToLocals, Value.category]; done) | rfl) ?_
  intro m G K0
  have K : Jvm.Wv.Cx l ({ frames := 1, cells := 2, slots := 4, locals := 12 } : Room) Z n0 _ sS "<init>" jdk_42_method_149_code 6 none m none h G := K0
  have hw6 := hw _ (List.mem_of_getElem? (i := 6) rfl)
  have hw16 := hw _ (List.mem_of_getElem? (i := 16) rfl)
  have hw17 := hw _ (List.mem_of_getElem? (i := 17) rfl)
  have hw18 := hw _ (List.mem_of_getElem? (i := 18) rfl)
  have hw19 := hw _ (List.mem_of_getElem? (i := 19) rfl)
  have hw21 := hw _ (List.mem_of_getElem? (i := 21) rfl)
  have hw22 := hw _ (List.mem_of_getElem? (i := 22) rfl)
  have hw25 := hw _ (List.mem_of_getElem? (i := 25) rfl)
  have hw26 := hw _ (List.mem_of_getElem? (i := 26) rfl)
  refine K.aloadN d3_0 (pc' := 1) rfl rfl rfl ?_
  refine K.init0 d3_1 (pc' := 4) rfl hw16 hw17 hw18 rfl (by decide) (W := 0) (by simp [Value.category]) (by decide) ?_
  refine K.iloadN d3_4 (pc' := 5) rfl rfl ?_
  refine K.if_ne d3_5 (pc1 := 8) rfl (by decide) (pc2 := 27) (by decide) (a := 0) rfl (fun c5 => ?_) (fun c5 => ?_)
  · exfalso; omega
  · refine K.aloadN d3_8 (pc' := 9) rfl rfl rfl ?_
    refine K.ldcSC d3_9 (pc' := 11) rfl hw19 (wS_1 hw) hh hcw P2.2 (ext_refl h) (by decide) (by decide) (fun G h_1 la_3 lb_4 K E_2 x_la_3 fc_la_3 fv_la_3 k_6 A_5 => ?_)
    have kp_7 : Keep h h_1 [a] := (Keep.refl h [a]).ext E_2
    have f_8 : Fld Z h_1 a sS "value" "[B" .null := (P5.ext E_2)
    have ne_la_3_a : la_3 ≠ a := ne_fld fv_la_3 f_8
    have f_9 : Exa Z h_1 a sS := (P3.ext E_2)
    have ne_lb_4_a : lb_4 ≠ a := by obtain ⟨q1, q2, q3⟩ := k_6; exact ne_arr q3 f_9 hw6
    refine K.getf d3_11 (pc' := 14) rfl (host := "") (Or.inl hw25) Via.refl fv_la_3 ?_
    refine K.putf d3_14 (pc' := 17) rfl (host := "") (Or.inl hw25) Via.refl f_8 f_9 (Or.inr ⟨hw21, rfl, rfl⟩) hw6 (ty := (.array .byte)) (by decide) rfl rfl P4 (fun h_10 W_11 => ?_)
    have f_12 : Fld Z h_1 a sS "coder" "B" (.int (0 : Int32)) := (P6.ext E_2)
    have f_13 : Fld Z h_10 a sS "value" "[B" (.ref lb_4) := f_8.same W_11
    have f_14 : Fld Z h_10 a sS "coder" "B" (.int (0 : Int32)) := f_12.other W_11 (Or.inr (slot_ne (Or.inr hw22) (Or.inr hw21) (by decide) (t := .byte) (t' := (.array .byte)) (by decide) (by decide)))
    have kp_15 : Keep h h_10 [a] := kp_7.wr W_11 (Or.inl (by simp))
    refine K.aloadN d3_17 (pc' := 18) rfl rfl rfl ?_
    refine K.ldcSH d3_18 (pc' := 20) rfl hw19 ?_
    have f_16 : Fld Z h_10 la_3 sS "coder" "B" (.int (0 : Int32)) := (fc_la_3.other W_11 (Or.inl ne_la_3_a))
    refine K.getf d3_20 (pc' := 23) rfl (host := "") (Or.inl hw26) Via.refl f_16 ?_
    have f_17 : Exa Z h_10 a sS := (f_9.wr W_11)
    refine K.putf d3_23 (pc' := 26) rfl (host := "") (Or.inl hw26) Via.refl f_14 f_17 (Or.inr ⟨hw22, rfl, rfl⟩) hw6 (ty := .byte) (by decide) rfl rfl P4 (fun h_18 W_19 => ?_)
    have f_20 : Fld Z h_18 a sS "value" "[B" (.ref lb_4) := f_13.other W_19 (Or.inr (slot_ne (Or.inr hw21) (Or.inr hw22) (by decide) (t := (.array .byte)) (t' := .byte) (by decide) (by decide)))
    have f_21 : Fld Z h_18 a sS "coder" "B" (.int (0 : Int32)) := f_14.same W_19
    have kp_22 : Keep h h_18 [a] := kp_15.wr W_19 (Or.inl (by simp))
    have f_23 : Fld Z h_18 la_3 sS "value" "[B" (.ref lb_4) := ((fv_la_3.other W_11 (Or.inl ne_la_3_a)).other W_19 (Or.inl ne_la_3_a))
    have f_24 : Exa Z h_18 la_3 sS := ((x_la_3.wr W_11).wr W_19)
    have f_25 : Fld Z h_18 la_3 sS "coder" "B" (.int (0 : Int32)) := (f_16.other W_19 (Or.inl ne_la_3_a))
    have f_26 : Ary Z h_18 lb_4 .byte [] := ((A_5.other W_11 ne_lb_4_a).other W_19 ne_lb_4_a)
    exact K.ret0 d3_26 (by decide) (by decide) ⟨la_3, lb_4, rfl, kp_22, rfl, f_24, f_23, f_25, f_26, f_20, f_21⟩
set_option maxRecDepth 65536 in
set_option maxHeartbeats 40000000 in
theorem c_ini0h (l : Launch) (Z : State) (a0 : Array Value) (hw : ∀ d ∈ tables_1, d.before a0 Z = true) (n0 : Nat) (h : Heap) (a : Addr) (b : Addr) (la : Addr) (lb : Addr) (P1 : Exa Z h a sS) (P2 : n0 ≤ a) (P3 : Fld Z h a sS "value" "[B" .null) (P4 : Fld Z h a sS "coder" "B" (.int (0 : Int32))) (P5 : Exa Z h la sS) (P6 : Fld Z h la sS "value" "[B" (.ref lb)) (P7 : Fld Z h la sS "coder" "B" (.int (0 : Int32))) (P8 : Ary Z h lb .byte []) (P9 : la ≠ a) (P10 : lb ≠ a) : Jvm.Wv.MeetsV l Z n0 (⟨sS, "<init>", "([CIILjava/lang/Void;)V"⟩ : MethodName) jdk_42_method_149_code 6 none ({ frames := 1, cells := 0, slots := 0, locals := 12 } : Room) #[(.ref a), (.ref b), (.int (0 : Int32)), (.int (0 : Int32)), .null] h (some la) (fun v h' lv' => v = none ∧ Keep h h' [a] ∧ lv' = some la ∧ Exa Z h' la sS ∧ Fld Z h' la sS "value" "[B" (.ref lb) ∧ Fld Z h' la sS "coder" "B" (.int (0 : Int32)) ∧ Ary Z h' lb .byte [] ∧ Fld Z h' a sS "value" "[B" (.ref lb) ∧ Fld Z h' a sS "coder" "B" (.int (0 : Int32))) := by
  refine Jvm.Wv.MeetsV.intro (plainFor_of_name pn_java_lang_String) (L0 := #[vr a, vr b, vi 0, vi 0, .val .null, .unset]) (fun m => by first | (simp [entryFrame, mkF, argsToLocals, Value.category]; done) | rfl) ?_
  intro m G K0
  have K : Jvm.Wv.Cx l ({ frames := 1, cells := 0, slots := 0, locals := 12 } : Room) Z n0 _ sS "<init>" jdk_42_method_149_code 6 none m (some la) h G := K0
  have hw6 := hw _ (List.mem_of_getElem? (i := 6) rfl)
  have hw16 := hw _ (List.mem_of_getElem? (i := 16) rfl)
  have hw17 := hw _ (List.mem_of_getElem? (i := 17) rfl)
  have hw18 := hw _ (List.mem_of_getElem? (i := 18) rfl)
  have hw19 := hw _ (List.mem_of_getElem? (i := 19) rfl)
  have hw21 := hw _ (List.mem_of_getElem? (i := 21) rfl)
  have hw22 := hw _ (List.mem_of_getElem? (i := 22) rfl)
  have hw25 := hw _ (List.mem_of_getElem? (i := 25) rfl)
  have hw26 := hw _ (List.mem_of_getElem? (i := 26) rfl)
  refine K.aloadN d3_0 (pc' := 1) rfl rfl rfl ?_
  refine K.init0 d3_1 (pc' := 4) rfl hw16 hw17 hw18 rfl (by decide) (W := 0) (by simp [Value.category]) (by decide) ?_
  refine K.iloadN d3_4 (pc' := 5) rfl rfl ?_
  refine K.if_ne d3_5 (pc1 := 8) rfl (by decide) (pc2 := 27) (by decide) (a := 0) rfl (fun c5 => ?_) (fun c5 => ?_)
  · exfalso; omega
  · refine K.aloadN d3_8 (pc' := 9) rfl rfl rfl ?_
    refine K.ldcSH d3_9 (pc' := 11) rfl hw19 ?_
    refine K.getf d3_11 (pc' := 14) rfl (host := "") (Or.inl hw25) Via.refl P6 ?_
    refine K.putf d3_14 (pc' := 17) rfl (host := "") (Or.inl hw25) Via.refl P3 P1 (Or.inr ⟨hw21, rfl, rfl⟩) hw6 (ty := (.array .byte)) (by decide) rfl rfl P2 (fun h_1 W_2 => ?_)
    have f_3 : Fld Z h_1 a sS "value" "[B" (.ref lb) := P3.same W_2
    have f_4 : Fld Z h_1 a sS "coder" "B" (.int (0 : Int32)) := P4.other W_2 (Or.inr (slot_ne (Or.inr hw22) (Or.inr hw21) (by decide) (t := .byte) (t' := (.array .byte)) (by decide) (by decide)))
    have kp_5 : Keep h h_1 [a] := (Keep.refl h [a]).wr W_2 (Or.inl (by simp))
    refine K.aloadN d3_17 (pc' := 18) rfl rfl rfl ?_
    refine K.ldcSH d3_18 (pc' := 20) rfl hw19 ?_
    have f_6 : Fld Z h_1 la sS "coder" "B" (.int (0 : Int32)) := (P7.other W_2 (Or.inl P9))
    refine K.getf d3_20 (pc' := 23) rfl (host := "") (Or.inl hw26) Via.refl f_6 ?_
    have f_7 : Exa Z h_1 a sS := (P1.wr W_2)
    refine K.putf d3_23 (pc' := 26) rfl (host := "") (Or.inl hw26) Via.refl f_4 f_7 (Or.inr ⟨hw22, rfl, rfl⟩) hw6 (ty := .byte) (by decide) rfl rfl P2 (fun h_8 W_9 => ?_)
    have f_10 : Fld Z h_8 a sS "value" "[B" (.ref lb) := f_3.other W_9 (Or.inr (slot_ne (Or.inr hw21) (Or.inr hw22) (by decide) (t := (.array .byte)) (t' := .byte) (by decide) (by decide)))
    have f_11 : Fld Z h_8 a sS "coder" "B" (.int (0 : Int32)) := f_4.same W_9
    have kp_12 : Keep h h_8 [a] := kp_5.wr W_9 (Or.inl (by simp))
    have f_13 : Exa Z h_8 la sS := ((P5.wr W_2).wr W_9)
    have f_14 : Fld Z h_8 la sS "value" "[B" (.ref lb) := ((P6.other W_2 (Or.inl P9)).other W_9 (Or.inl P9))
    have f_15 : Fld Z h_8 la sS "coder" "B" (.int (0 : Int32)) := (f_6.other W_9 (Or.inl P9))
    have f_16 : Ary Z h_8 lb .byte [] := ((P8.other W_2 P10).other W_9 P10)
    exact K.ret0 d3_26 (by decide) (by decide) ⟨rfl, kp_12, rfl, f_13, f_14, f_15, f_16, f_10, f_11⟩
set_option maxRecDepth 65536 in
set_option maxHeartbeats 40000000 in
theorem c_inA0c (l : Launch) (Z : State) (a0 : Array Value) (hw : ∀ d ∈ tables_1, d.before a0 Z = true) (n0 : Nat) (h : Heap) (a : Addr) (b : Addr) (Z0 : n0 ≤ h.size) (P2 : Old Z n0 h) (P3 : Exa Z h a sS) (P4 : n0 ≤ a) (P5 : Fld Z h a sS "value" "[B" .null) (P6 : Fld Z h a sS "coder" "B" (.int (0 : Int32))) (P7 : Ary Z h b .char []) (hh : Jvm.Lit.constHeld Z sS 7) (hcw : Jvm.Lit.compactW.before a0 Z = true) : Jvm.Wv.MeetsV l Z n0 (⟨sS, "<init>", "([C)V"⟩ : MethodName) jdk_42_method_3_code 2 none ({ frames := 2, cells := 2, slots := 4, locals := 29 } : Room) #[(.ref a), (.ref b)] h none (fun v h' lv' => ∃ (la : Addr) (lb : Addr), v = none ∧ Keep h h' [a] ∧ lv' = some la ∧ Exa Z h' la sS ∧ Fld Z h' la sS "value" "[B" (.ref lb) ∧ Fld Z h' la sS "coder" "B" (.int (0 : Int32)) ∧ Ary Z h' lb .byte [] ∧ Fld Z h' a sS "value" "[B" (.ref lb) ∧ Fld Z h' a sS "coder" "B" (.int (0 : Int32))) := by
  refine Jvm.Wv.MeetsV.intro (plainFor_of_name pn_java_lang_String) (L0 := #[vr a, vr b]) (fun m => by first | (simp [entryFrame, mkF, argsToLocals, Value.category]; done) | rfl) ?_
  intro m G K0
  have K : Jvm.Wv.Cx l ({ frames := 2, cells := 2, slots := 4, locals := 29 } : Room) Z n0 _ sS "<init>" jdk_42_method_3_code 2 none m none h G := K0
  have hw7 := hw _ (List.mem_of_getElem? (i := 7) rfl)
  have hw12 := hw _ (List.mem_of_getElem? (i := 12) rfl)
  have hw13 := hw _ (List.mem_of_getElem? (i := 13) rfl)
  have hw15 := hw _ (List.mem_of_getElem? (i := 15) rfl)
  refine K.aloadN d2_0 (pc' := 1) rfl rfl rfl ?_
  refine K.aloadN d2_1 (pc' := 2) rfl rfl rfl ?_
  refine K.iconst d2_2 (pc' := 3) rfl (z := 0) rfl ?_
  refine K.aloadN d2_3 (pc' := 4) rfl rfl rfl ?_
  refine K.alen d2_4 (pc' := 5) rfl P7 (fun n e_n => ?_)
  have t_n : n.toInt = 0 := e_n
  have cs_n : n = 0 := by
    have q : n.toInt = 0 := by omega
    rcases q with q
    · exact eqI q
  rcases cs_n with rfl
  · refine K.anull d2_5 (pc' := 6) rfl ?_
    refine K.callcV (argsL := [(.ref b), (.int (0 : Int32)), (.int (0 : Int32)), .null]) (rest := []) d2_6 (pc' := 9) rfl rfl (c_ini0c l Z a0 hw n0 h (a := a) (b := b) Z0 P2 P3 P4 P5 P6 hh hcw) hw12 hw13 hw7 hw15 (by decide) pd_3 rfl rfl (W := 0) (by simp [Value.category]) (by decide) (by decide) (by decide) (by decide) (fun lv_4 G K v_3 h_1 q_2 => ?_)
    obtain ⟨la_6, lb_7, rfl, K_8, rfl, f_9, f_10, f_11, f_12, f_13, f_14⟩ := q_2
    have kp_15 : Keep h h_1 [a] := (Keep.refl h [a]).trans K_8 (allS (Or.inl (by simp)) all0)
    show G h_1 2 4 (mkF m 9 #[vr a, vr b] [])
    exact K.ret0 d2_9 (by decide) (by decide) ⟨la_6, lb_7, rfl, kp_15, rfl, f_9, f_10, f_11, f_12, f_13, f_14⟩
set_option maxRecDepth 65536 in
set_option maxHeartbeats 40000000 in
theorem c_inA0h (l : Launch) (Z : State) (a0 : Array Value) (hw : ∀ d ∈ tables_1, d.before a0 Z = true) (n0 : Nat) (h : Heap) (a : Addr) (b : Addr) (la : Addr) (lb : Addr) (P1 : Exa Z h a sS) (P2 : n0 ≤ a) (P3 : Fld Z h a sS "value" "[B" .null) (P4 : Fld Z h a sS "coder" "B" (.int (0 : Int32))) (P5 : Exa Z h la sS) (P6 : Fld Z h la sS "value" "[B" (.ref lb)) (P7 : Fld Z h la sS "coder" "B" (.int (0 : Int32))) (P8 : Ary Z h lb .byte []) (P9 : la ≠ a) (P10 : lb ≠ a) (P11 : Ary Z h b .char []) : Jvm.Wv.MeetsV l Z n0 (⟨sS, "<init>", "([C)V"⟩ : MethodName) jdk_42_method_3_code 2 none ({ frames := 2, cells := 0, slots := 0, locals := 29 } : Room) #[(.ref a), (.ref b)] h (some la) (fun v h' lv' => v = none ∧ Keep h h' [a] ∧ lv' = some la ∧ Exa Z h' la sS ∧ Fld Z h' la sS "value" "[B" (.ref lb) ∧ Fld Z h' la sS "coder" "B" (.int (0 : Int32)) ∧ Ary Z h' lb .byte [] ∧ Fld Z h' a sS "value" "[B" (.ref lb) ∧ Fld Z h' a sS "coder" "B" (.int (0 : Int32))) := by
  refine Jvm.Wv.MeetsV.intro (plainFor_of_name pn_java_lang_String) (L0 := #[vr a, vr b]) (fun m => by first | (simp [entryFrame, mkF, argsToLocals, Value.category]; done) | rfl) ?_
  intro m G K0
  have K : Jvm.Wv.Cx l ({ frames := 2, cells := 0, slots := 0, locals := 29 } : Room) Z n0 _ sS "<init>" jdk_42_method_3_code 2 none m (some la) h G := K0
  have hw7 := hw _ (List.mem_of_getElem? (i := 7) rfl)
  have hw12 := hw _ (List.mem_of_getElem? (i := 12) rfl)
  have hw13 := hw _ (List.mem_of_getElem? (i := 13) rfl)
  have hw15 := hw _ (List.mem_of_getElem? (i := 15) rfl)
  refine K.aloadN d2_0 (pc' := 1) rfl rfl rfl ?_
  refine K.aloadN d2_1 (pc' := 2) rfl rfl rfl ?_
  refine K.iconst d2_2 (pc' := 3) rfl (z := 0) rfl ?_
  refine K.aloadN d2_3 (pc' := 4) rfl rfl rfl ?_
  refine K.alen d2_4 (pc' := 5) rfl P11 (fun n e_n => ?_)
  have t_n : n.toInt = 0 := e_n
  have cs_n : n = 0 := by
    have q : n.toInt = 0 := by omega
    rcases q with q
    · exact eqI q
  rcases cs_n with rfl
  · refine K.anull d2_5 (pc' := 6) rfl ?_
    refine K.callcV (argsL := [(.ref b), (.int (0 : Int32)), (.int (0 : Int32)), .null]) (rest := []) d2_6 (pc' := 9) rfl rfl (c_ini0h l Z a0 hw n0 h (a := a) (b := b) (la := la) (lb := lb) P1 P2 P3 P4 P5 P6 P7 P8 P9 P10) hw12 hw13 hw7 hw15 (by decide) pd_3 rfl rfl (W := 0) (by simp [Value.category]) (by decide) (by decide) (by decide) (by decide) (fun lv_4 G K v_3 h_1 q_2 => ?_)
    obtain ⟨rfl, K_6, rfl, f_7, f_8, f_9, f_10, f_11, f_12⟩ := q_2
    have kp_13 : Keep h h_1 [a] := (Keep.refl h [a]).trans K_6 (allS (Or.inl (by simp)) all0)
    show G h_1 0 0 (mkF m 9 #[vr a, vr b] [])
    exact K.ret0 d2_9 (by decide) (by decide) ⟨rfl, kp_13, rfl, f_7, f_8, f_9, f_10, f_11, f_12⟩
theorem d1_4 : decode method_3_code 4 = .ok (.new 40, 3) := by decide +kernel
theorem d1_7 : decode method_3_code 7 = .ok (.dup, 1) := by decide +kernel
theorem d1_8 : decode method_3_code 8 = .ok (.iconst 0, 1) := by decide +kernel
theorem d1_9 : decode method_3_code 9 = .ok (.newarray .char, 2) := by decide +kernel
theorem d1_11 : decode method_3_code 11 = .ok (.invokespecial 42, 3) := by decide +kernel
theorem d1_14 : decode method_3_code 14 = .ok (.areturn, 1) := by decide +kernel
set_option maxRecDepth 65536 in
set_option maxHeartbeats 40000000 in
theorem c_str0c (l : Launch) (Z : State) (a0 : Array Value) (hw : ∀ d ∈ tables_1, d.before a0 Z = true) (n0 : Nat) (h : Heap) (p : Int32) (q : Int32) (Z0 : n0 ≤ h.size) (P2 : Old Z n0 h) (hh : Jvm.Lit.constHeld Z sS 7) (hcw : Jvm.Lit.compactW.before a0 Z = true) : Jvm.Wv.MeetsV l Z n0 (⟨sW, "str", "(ICC)Ljava/lang/String;"⟩ : MethodName) method_3_code 3 (some (.object sS)) ({ frames := 3, cells := 4, slots := 8, locals := 43 } : Room) #[(.int (0 : Int32)), (.int p), (.int q)] h none (fun v h' lv' => ∃ (o : Addr) (la : Addr) (lb : Addr), v = some (.ref o) ∧ Keep h h' [] ∧ lv' = some la ∧ Exa Z h' la sS ∧ Fld Z h' la sS "value" "[B" (.ref lb) ∧ Fld Z h' la sS "coder" "B" (.int (0 : Int32)) ∧ Ary Z h' lb .byte [] ∧ h.size ≤ o ∧ Exa Z h' o sS ∧ Fld Z h' o sS "value" "[B" (.ref lb) ∧ Fld Z h' o sS "coder" "B" (.int (0 : Int32))) := by
  refine Jvm.Wv.MeetsV.intro (plainFor_of_name pn_com_example_ltl_to_omega_ltltoomega_hoa_TokenIsPinLaw) (L0 := #[vi 0, vi p, vi q]) (fun m => by first | (simp [entryFrame, mkF, argsToLocals, Value.category]; done) | rfl) ?_
  intro m G K0
  have K : Jvm.Wv.Cx l ({ frames := 3, cells := 4, slots := 8, locals := 43 } : Room) Z n0 _ sW "str" method_3_code 3 (some (.object sS)) m none h G := K0
  have hw5 := hw _ (List.mem_of_getElem? (i := 5) rfl)
  have hw6 := hw _ (List.mem_of_getElem? (i := 6) rfl)
  have hw7 := hw _ (List.mem_of_getElem? (i := 7) rfl)
  have hw8 := hw _ (List.mem_of_getElem? (i := 8) rfl)
  have hw9 := hw _ (List.mem_of_getElem? (i := 9) rfl)
  have hw10 := hw _ (List.mem_of_getElem? (i := 10) rfl)
  have hw11 := hw _ (List.mem_of_getElem? (i := 11) rfl)
  have hw21 := hw _ (List.mem_of_getElem? (i := 21) rfl)
  have hw22 := hw _ (List.mem_of_getElem? (i := 22) rfl)
  refine K.iloadN d1_0 (pc' := 1) rfl rfl ?_
  refine K.if_ne d1_1 (pc1 := 4) rfl (by decide) (pc2 := 15) (by decide) (a := 0) rfl (fun c1 => ?_) (fun c1 => ?_)
  · exfalso; omega
  · refine K.newo d1_4 (pc' := 7) rfl hw5 hw6 hw7 (by decide) (by decide) (fun h_2 o_1 g_o_1 E_3 x_o_1 D_o_1 => ?_)
    have ge_o_1 : n0 ≤ o_1 := g_o_1 ▸ Z0
    have sb_o_1 : h.size ≤ o_1 := g_o_1 ▸ (Keep.refl h []).1
    have kp_4 : Keep h h_2 [] := (Keep.refl h []).ext E_3
    have f_5 : Fld Z h_2 o_1 sS "value" "[B" .null := D_o_1 (Or.inr hw21) (ty := (.array .byte)) (by decide)
    have f_6 : Fld Z h_2 o_1 sS "coder" "B" (.int (0 : Int32)) := D_o_1 (Or.inr hw22) (ty := .byte) (by decide)
    refine K.dup d1_7 (pc' := 8) rfl rfl ?_
    refine K.iconst d1_8 (pc' := 9) rfl (z := 0) rfl ?_
    refine K.newa d1_9 (pc' := 11) rfl hw8 (k := 0) (cap := 0) rfl (by decide) (by decide) (by decide) (by decide) (ad := "[C") (by decide) (fun h_8 a_7 g_a_7 E_9 A_10 x_a_7 => ?_)
    have sz_11 : n0 ≤ h_2.size := Nat.le_trans Z0 E_3.1
    have ge_a_7 : n0 ≤ a_7 := g_a_7 ▸ sz_11
    have sb_a_7 : h.size ≤ a_7 := g_a_7 ▸ kp_4.1
    have kp_12 : Keep h h_8 [] := kp_4.ext E_9
    have A_13 : Ary Z h_8 a_7 .char [] := A_10
    have sz_14 : n0 ≤ h_8.size := Nat.le_trans sz_11 E_9.1
    have f_15 : Old Z n0 h_8 := ((P2.ext E_3).ext E_9)
    have f_16 : Exa Z h_8 o_1 sS := (x_o_1.ext E_9)
    have f_17 : Fld Z h_8 o_1 sS "value" "[B" .null := (f_5.ext E_9)
    have f_18 : Fld Z h_8 o_1 sS "coder" "B" (.int (0 : Int32)) := (f_6.ext E_9)
    refine K.callcV (argsL := [(.ref a_7)]) (rest := [(.ref o_1)]) d1_11 (pc' := 14) rfl rfl (c_inA0c l Z a0 hw n0 h_8 (a := o_1) (b := a_7) sz_14 f_15 f_16 ge_o_1 f_17 f_18 A_13 hh hcw) hw9 hw10 hw7 hw11 (by decide) pd_4 rfl rfl (W := 1) (by simp [Value.category]) (by decide) (by decide) (by decide) (by decide) (fun lv_22 G K v_21 h_19 q_20 => ?_)
    obtain ⟨la_24, lb_25, rfl, K_26, rfl, f_27, f_28, f_29, f_30, f_31, f_32⟩ := q_20
    have kp_33 : Keep h h_19 [] := kp_12.trans K_26 (allS (Or.inr sb_o_1) all0)
    show G h_19 4 8 (mkF m 14 #[vi 0, vi p, vi q] [(.ref o_1)])
    have f_34 : Exa Z h_19 o_1 sS := (f_16.keep K_26)
    exact K.reta d1_14 rfl rfl rfl (by decide) (by decide) ⟨o_1, la_24, lb_25, rfl, kp_33, rfl, f_27, f_28, f_29, f_30, sb_o_1, f_34, f_31, f_32⟩
set_option maxRecDepth 65536 in
set_option maxHeartbeats 40000000 in
theorem c_str0h (l : Launch) (Z : State) (a0 : Array Value) (hw : ∀ d ∈ tables_1, d.before a0 Z = true) (n0 : Nat) (h : Heap) (p : Int32) (q : Int32) (la : Addr) (lb : Addr) (Z0 : n0 ≤ h.size) (P2 : Exa Z h la sS) (P3 : Fld Z h la sS "value" "[B" (.ref lb)) (P4 : Fld Z h la sS "coder" "B" (.int (0 : Int32))) (P5 : Ary Z h lb .byte []) : Jvm.Wv.MeetsV l Z n0 (⟨sW, "str", "(ICC)Ljava/lang/String;"⟩ : MethodName) method_3_code 3 (some (.object sS)) ({ frames := 3, cells := 2, slots := 4, locals := 43 } : Room) #[(.int (0 : Int32)), (.int p), (.int q)] h (some la) (fun v h' lv' => ∃ o : Addr, v = some (.ref o) ∧ Keep h h' [] ∧ lv' = some la ∧ Exa Z h' la sS ∧ Fld Z h' la sS "value" "[B" (.ref lb) ∧ Fld Z h' la sS "coder" "B" (.int (0 : Int32)) ∧ Ary Z h' lb .byte [] ∧ h.size ≤ o ∧ Exa Z h' o sS ∧ Fld Z h' o sS "value" "[B" (.ref lb) ∧ Fld Z h' o sS "coder" "B" (.int (0 : Int32))) := by
  refine Jvm.Wv.MeetsV.intro (plainFor_of_name pn_com_example_ltl_to_omega_ltltoomega_hoa_TokenIsPinLaw) (L0 := #[vi 0, vi p, vi q]) (fun m => by first | (simp [entryFrame, mkF, argsToLocals, Value.category]; done) | rfl) ?_
  intro m G K0
  have K : Jvm.Wv.Cx l ({ frames := 3, cells := 2, slots := 4, locals := 43 } : Room) Z n0 _ sW "str" method_3_code 3 (some (.object sS)) m (some la) h G := K0
  have hw5 := hw _ (List.mem_of_getElem? (i := 5) rfl)
  have hw6 := hw _ (List.mem_of_getElem? (i := 6) rfl)
  have hw7 := hw _ (List.mem_of_getElem? (i := 7) rfl)
  have hw8 := hw _ (List.mem_of_getElem? (i := 8) rfl)
  have hw9 := hw _ (List.mem_of_getElem? (i := 9) rfl)
  have hw10 := hw _ (List.mem_of_getElem? (i := 10) rfl)
  have hw11 := hw _ (List.mem_of_getElem? (i := 11) rfl)
  have hw21 := hw _ (List.mem_of_getElem? (i := 21) rfl)
  have hw22 := hw _ (List.mem_of_getElem? (i := 22) rfl)
  refine K.iloadN d1_0 (pc' := 1) rfl rfl ?_
  refine K.if_ne d1_1 (pc1 := 4) rfl (by decide) (pc2 := 15) (by decide) (a := 0) rfl (fun c1 => ?_) (fun c1 => ?_)
  · exfalso; omega
  · refine K.newo d1_4 (pc' := 7) rfl hw5 hw6 hw7 (by decide) (by decide) (fun h_2 o_1 g_o_1 E_3 x_o_1 D_o_1 => ?_)
    have ge_o_1 : n0 ≤ o_1 := g_o_1 ▸ Z0
    have sb_o_1 : h.size ≤ o_1 := g_o_1 ▸ (Keep.refl h []).1
    have kp_4 : Keep h h_2 [] := (Keep.refl h []).ext E_3
    have f_5 : Fld Z h_2 o_1 sS "value" "[B" .null := D_o_1 (Or.inr hw21) (ty := (.array .byte)) (by decide)
    have f_6 : Fld Z h_2 o_1 sS "coder" "B" (.int (0 : Int32)) := D_o_1 (Or.inr hw22) (ty := .byte) (by decide)
    refine K.dup d1_7 (pc' := 8) rfl rfl ?_
    refine K.iconst d1_8 (pc' := 9) rfl (z := 0) rfl ?_
    refine K.newa d1_9 (pc' := 11) rfl hw8 (k := 0) (cap := 0) rfl (by decide) (by decide) (by decide) (by decide) (ad := "[C") (by decide) (fun h_8 a_7 g_a_7 E_9 A_10 x_a_7 => ?_)
    have sz_11 : n0 ≤ h_2.size := Nat.le_trans Z0 E_3.1
    have ge_a_7 : n0 ≤ a_7 := g_a_7 ▸ sz_11
    have sb_a_7 : h.size ≤ a_7 := g_a_7 ▸ kp_4.1
    have kp_12 : Keep h h_8 [] := kp_4.ext E_9
    have A_13 : Ary Z h_8 a_7 .char [] := A_10
    have f_14 : Exa Z h_8 o_1 sS := (x_o_1.ext E_9)
    have f_15 : Fld Z h_8 o_1 sS "value" "[B" .null := (f_5.ext E_9)
    have f_16 : Fld Z h_8 o_1 sS "coder" "B" (.int (0 : Int32)) := (f_6.ext E_9)
    have f_17 : Exa Z h_8 la sS := ((P2.ext E_3).ext E_9)
    have f_18 : Fld Z h_8 la sS "value" "[B" (.ref lb) := ((P3.ext E_3).ext E_9)
    have f_19 : Fld Z h_8 la sS "coder" "B" (.int (0 : Int32)) := ((P4.ext E_3).ext E_9)
    have f_20 : Ary Z h_8 lb .byte [] := ((P5.ext E_3).ext E_9)
    have ne_21 : la ≠ o_1 := (Nat.ne_of_lt (Nat.lt_of_lt_of_le P2.lt (Nat.le_trans (Nat.le_refl _) (Nat.le_of_eq g_o_1.symm))))
    have ne_22 : lb ≠ o_1 := (Nat.ne_of_lt (Nat.lt_of_lt_of_le P5.lt (Nat.le_trans (Nat.le_refl _) (Nat.le_of_eq g_o_1.symm))))
    refine K.callcV (argsL := [(.ref a_7)]) (rest := [(.ref o_1)]) d1_11 (pc' := 14) rfl rfl (c_inA0h l Z a0 hw n0 h_8 (a := o_1) (b := a_7) (la := la) (lb := lb) f_14 ge_o_1 f_15 f_16 f_17 f_18 f_19 f_20 ne_21 ne_22 A_13) hw9 hw10 hw7 hw11 (by decide) pd_4 rfl rfl (W := 1) (by simp [Value.category]) (by decide) (by decide) (by decide) (by decide) (fun lv_26 G K v_25 h_23 q_24 => ?_)
    obtain ⟨rfl, K_28, rfl, f_29, f_30, f_31, f_32, f_33, f_34⟩ := q_24
    have kp_35 : Keep h h_23 [] := kp_12.trans K_28 (allS (Or.inr sb_o_1) all0)
    show G h_23 2 4 (mkF m 14 #[vi 0, vi p, vi q] [(.ref o_1)])
    have f_36 : Exa Z h_23 o_1 sS := (f_14.keep K_28)
    exact K.reta d1_14 rfl rfl rfl (by decide) (by decide) ⟨o_1, rfl, kp_35, rfl, f_29, f_30, f_31, f_32, sb_o_1, f_36, f_33, f_34⟩
theorem d5_0 : decode method_2_code 0 = .ok (.iload_n 0, 1) := by decide +kernel
theorem d5_1 : decode method_2_code 1 = .ok (.ifCond .ne 7, 3) := by decide +kernel
theorem d5_8 : decode method_2_code 8 = .ok (.iload_n 0, 1) := by decide +kernel
theorem d5_9 : decode method_2_code 9 = .ok (.iconst 1, 1) := by decide +kernel
theorem d5_10 : decode method_2_code 10 = .ok (.if_icmp .ne 7, 3) := by decide +kernel
theorem d5_17 : decode method_2_code 17 = .ok (.iload_n 0, 1) := by decide +kernel
theorem d5_18 : decode method_2_code 18 = .ok (.iconst 2, 1) := by decide +kernel
theorem d5_19 : decode method_2_code 19 = .ok (.if_icmp .ne 7, 3) := by decide +kernel
theorem d5_26 : decode method_2_code 26 = .ok (.iload_n 0, 1) := by decide +kernel
theorem d5_27 : decode method_2_code 27 = .ok (.iconst 3, 1) := by decide +kernel
theorem d5_28 : decode method_2_code 28 = .ok (.if_icmp .ne 7, 3) := by decide +kernel
theorem d5_35 : decode method_2_code 35 = .ok (.iload_n 0, 1) := by decide +kernel
theorem d5_36 : decode method_2_code 36 = .ok (.iconst 4, 1) := by decide +kernel
theorem d5_37 : decode method_2_code 37 = .ok (.if_icmp .ne 7, 3) := by decide +kernel
theorem d5_44 : decode method_2_code 44 = .ok (.iload_n 0, 1) := by decide +kernel
theorem d5_45 : decode method_2_code 45 = .ok (.iconst 5, 1) := by decide +kernel
theorem d5_46 : decode method_2_code 46 = .ok (.if_icmp .ne 7, 3) := by decide +kernel
theorem d5_53 : decode method_2_code 53 = .ok (.iload_n 0, 1) := by decide +kernel
theorem d5_54 : decode method_2_code 54 = .ok (.bipush 6, 2) := by decide +kernel
theorem d5_56 : decode method_2_code 56 = .ok (.if_icmp .ne 7, 3) := by decide +kernel
theorem d5_63 : decode method_2_code 63 = .ok (.iload_n 0, 1) := by decide +kernel
theorem d5_64 : decode method_2_code 64 = .ok (.bipush 7, 2) := by decide +kernel
theorem d5_66 : decode method_2_code 66 = .ok (.if_icmp .ne 7, 3) := by decide +kernel
theorem d5_73 : decode method_2_code 73 = .ok (.iload_n 0, 1) := by decide +kernel
theorem d5_74 : decode method_2_code 74 = .ok (.bipush 8, 2) := by decide +kernel
theorem d5_76 : decode method_2_code 76 = .ok (.if_icmp .ne 7, 3) := by decide +kernel
theorem d5_83 : decode method_2_code 83 = .ok (.getstatic 37, 3) := by decide +kernel
theorem d5_86 : decode method_2_code 86 = .ok (.areturn, 1) := by decide +kernel
theorem d5_79 : decode method_2_code 79 = .ok (.getstatic 34, 3) := by decide +kernel
theorem d5_82 : decode method_2_code 82 = .ok (.areturn, 1) := by decide +kernel
theorem d5_69 : decode method_2_code 69 = .ok (.getstatic 31, 3) := by decide +kernel
theorem d5_72 : decode method_2_code 72 = .ok (.areturn, 1) := by decide +kernel
theorem d5_59 : decode method_2_code 59 = .ok (.getstatic 28, 3) := by decide +kernel
theorem d5_62 : decode method_2_code 62 = .ok (.areturn, 1) := by decide +kernel
theorem d5_49 : decode method_2_code 49 = .ok (.getstatic 25, 3) := by decide +kernel
theorem d5_52 : decode method_2_code 52 = .ok (.areturn, 1) := by decide +kernel
theorem d5_40 : decode method_2_code 40 = .ok (.getstatic 22, 3) := by decide +kernel
theorem d5_43 : decode method_2_code 43 = .ok (.areturn, 1) := by decide +kernel
theorem d5_31 : decode method_2_code 31 = .ok (.getstatic 19, 3) := by decide +kernel
theorem d5_34 : decode method_2_code 34 = .ok (.areturn, 1) := by decide +kernel
theorem d5_22 : decode method_2_code 22 = .ok (.getstatic 16, 3) := by decide +kernel
theorem d5_25 : decode method_2_code 25 = .ok (.areturn, 1) := by decide +kernel
theorem d5_13 : decode method_2_code 13 = .ok (.getstatic 13, 3) := by decide +kernel
theorem d5_16 : decode method_2_code 16 = .ok (.areturn, 1) := by decide +kernel
theorem d5_4 : decode method_2_code 4 = .ok (.getstatic 7, 3) := by decide +kernel
theorem d5_7 : decode method_2_code 7 = .ok (.areturn, 1) := by decide +kernel
set_option maxRecDepth 65536 in
set_option maxHeartbeats 40000000 in
theorem c_kind (l : Launch) (Z : State) (a0 : Array Value) (hw : ∀ d ∈ tables_1, d.before a0 Z = true) (n0 : Nat) (h : Heap) (i : Int32) (kf : Nat → Addr) (P1 : Old Z n0 h) (P2 : Sta Z Z.heap sK "HEADER" dK (.ref (kf 0))) (P3 : Sta Z Z.heap sK "IDENTIFIER" dK (.ref (kf 1))) (P4 : Sta Z Z.heap sK "INTEGER" dK (.ref (kf 2))) (P5 : Sta Z Z.heap sK "STRING" dK (.ref (kf 3))) (P6 : Sta Z Z.heap sK "ALIAS" dK (.ref (kf 4))) (P7 : Sta Z Z.heap sK "SYMBOL" dK (.ref (kf 5))) (P8 : Sta Z Z.heap sK "BODY" dK (.ref (kf 6))) (P9 : Sta Z Z.heap sK "END" dK (.ref (kf 7))) (P10 : Sta Z Z.heap sK "ABORT" dK (.ref (kf 8))) (P11 : Sta Z Z.heap sK "END_OF_FILE" dK (.ref (kf 9))) (hi : 0 ≤ i.toInt ∧ i.toInt ≤ 9) : MeetsW l Z n0 (⟨sW, "kind", "(I)Lcom/example/ltl_to_omega/ltltoomega/hoa/HoaLexer$Kind;"⟩ : MethodName) method_2_code 1 (some (.object sK)) ({ frames := 0, cells := 0, slots := 0, locals := 0 } : Room) #[(.int i)] h (fun v h' => v = some (.ref (kf i.toInt.toNat)) ∧ h = h') := by
  refine MeetsW.intro (plainFor_of_name pn_com_example_ltl_to_omega_ltltoomega_hoa_TokenIsPinLaw) (L0 := #[vi i]) (fun m => by first | (simp [entryFrame, mkF, argsToLocals, Value.category]; done) | rfl) ?_
  intro m G K0
  have K : Cx l ({ frames := 0, cells := 0, slots := 0, locals := 0 } : Room) Z n0 _ sW "kind" method_2_code 1 (some (.object sK)) m G := K0
  have hw33 := hw _ (List.mem_of_getElem? (i := 33) rfl)
  have hw51 := hw _ (List.mem_of_getElem? (i := 51) rfl)
  have hw69 := hw _ (List.mem_of_getElem? (i := 69) rfl)
  have hw81 := hw _ (List.mem_of_getElem? (i := 81) rfl)
  have hw83 := hw _ (List.mem_of_getElem? (i := 83) rfl)
  have hw85 := hw _ (List.mem_of_getElem? (i := 85) rfl)
  have hw87 := hw _ (List.mem_of_getElem? (i := 87) rfl)
  have hw89 := hw _ (List.mem_of_getElem? (i := 89) rfl)
  have hw91 := hw _ (List.mem_of_getElem? (i := 91) rfl)
  have hw93 := hw _ (List.mem_of_getElem? (i := 93) rfl)
  refine K.iloadN d5_0 (pc' := 1) rfl rfl ?_
  refine K.if_ne d5_1 (pc1 := 4) rfl (by decide) (pc2 := 8) (by decide) (a := i.toInt) rfl (fun c1 => ?_) (fun c1 => ?_)
  · refine K.iloadN d5_8 (pc' := 9) rfl rfl ?_
    refine K.iconst d5_9 (pc' := 10) rfl (z := 1) rfl ?_
    refine K.icmp_ne d5_10 (pc1 := 13) rfl (by decide) (pc2 := 17) (by decide) (a := i.toInt) (b := 1) rfl rfl (fun c10 => ?_) (fun c10 => ?_)
    · refine K.iloadN d5_17 (pc' := 18) rfl rfl ?_
      refine K.iconst d5_18 (pc' := 19) rfl (z := 2) rfl ?_
      refine K.icmp_ne d5_19 (pc1 := 22) rfl (by decide) (pc2 := 26) (by decide) (a := i.toInt) (b := 2) rfl rfl (fun c19 => ?_) (fun c19 => ?_)
      · refine K.iloadN d5_26 (pc' := 27) rfl rfl ?_
        refine K.iconst d5_27 (pc' := 28) rfl (z := 3) rfl ?_
        refine K.icmp_ne d5_28 (pc1 := 31) rfl (by decide) (pc2 := 35) (by decide) (a := i.toInt) (b := 3) rfl rfl (fun c28 => ?_) (fun c28 => ?_)
        · refine K.iloadN d5_35 (pc' := 36) rfl rfl ?_
          refine K.iconst d5_36 (pc' := 37) rfl (z := 4) rfl ?_
          refine K.icmp_ne d5_37 (pc1 := 40) rfl (by decide) (pc2 := 44) (by decide) (a := i.toInt) (b := 4) rfl rfl (fun c37 => ?_) (fun c37 => ?_)
          · refine K.iloadN d5_44 (pc' := 45) rfl rfl ?_
            refine K.iconst d5_45 (pc' := 46) rfl (z := 5) rfl ?_
            refine K.icmp_ne d5_46 (pc1 := 49) rfl (by decide) (pc2 := 53) (by decide) (a := i.toInt) (b := 5) rfl rfl (fun c46 => ?_) (fun c46 => ?_)
            · refine K.iloadN d5_53 (pc' := 54) rfl rfl ?_
              refine K.bipush d5_54 (pc' := 56) rfl (z := 6) rfl ?_
              refine K.icmp_ne d5_56 (pc1 := 59) rfl (by decide) (pc2 := 63) (by decide) (a := i.toInt) (b := 6) rfl rfl (fun c56 => ?_) (fun c56 => ?_)
              · refine K.iloadN d5_63 (pc' := 64) rfl rfl ?_
                refine K.bipush d5_64 (pc' := 66) rfl (z := 7) rfl ?_
                refine K.icmp_ne d5_66 (pc1 := 69) rfl (by decide) (pc2 := 73) (by decide) (a := i.toInt) (b := 7) rfl rfl (fun c66 => ?_) (fun c66 => ?_)
                · refine K.iloadN d5_73 (pc' := 74) rfl rfl ?_
                  refine K.bipush d5_74 (pc' := 76) rfl (z := 8) rfl ?_
                  refine K.icmp_ne d5_76 (pc1 := 79) rfl (by decide) (pc2 := 83) (by decide) (a := i.toInt) (b := 8) rfl rfl (fun c76 => ?_) (fun c76 => ?_)
                  · refine K.gets d5_83 (pc' := 86) rfl (host := "") (Or.inl hw83) Via.refl (P11.ext P1.2) ?_
                    exact K.reta d5_86 rfl rfl rfl (by decide) (by decide) ⟨by rw [show i.toInt.toNat = 9 from by omega], rfl⟩
                  · refine K.gets d5_79 (pc' := 82) rfl (host := "") (Or.inl hw81) Via.refl (P10.ext P1.2) ?_
                    exact K.reta d5_82 rfl rfl rfl (by decide) (by decide) ⟨by rw [show i.toInt.toNat = 8 from by omega], rfl⟩
                · refine K.gets d5_69 (pc' := 72) rfl (host := "") (Or.inl hw89) Via.refl (P9.ext P1.2) ?_
                  exact K.reta d5_72 rfl rfl rfl (by decide) (by decide) ⟨by rw [show i.toInt.toNat = 7 from by omega], rfl⟩
              · refine K.gets d5_59 (pc' := 62) rfl (host := "") (Or.inl hw93) Via.refl (P8.ext P1.2) ?_
                exact K.reta d5_62 rfl rfl rfl (by decide) (by decide) ⟨by rw [show i.toInt.toNat = 6 from by omega], rfl⟩
            · refine K.gets d5_49 (pc' := 52) rfl (host := "") (Or.inl hw85) Via.refl (P7.ext P1.2) ?_
              exact K.reta d5_52 rfl rfl rfl (by decide) (by decide) ⟨by rw [show i.toInt.toNat = 5 from by omega], rfl⟩
          · refine K.gets d5_40 (pc' := 43) rfl (host := "") (Or.inl hw69) Via.refl (P6.ext P1.2) ?_
            exact K.reta d5_43 rfl rfl rfl (by decide) (by decide) ⟨by rw [show i.toInt.toNat = 4 from by omega], rfl⟩
        · refine K.gets d5_31 (pc' := 34) rfl (host := "") (Or.inl hw51) Via.refl (P5.ext P1.2) ?_
          exact K.reta d5_34 rfl rfl rfl (by decide) (by decide) ⟨by rw [show i.toInt.toNat = 3 from by omega], rfl⟩
      · refine K.gets d5_22 (pc' := 25) rfl (host := "") (Or.inl hw87) Via.refl (P4.ext P1.2) ?_
        exact K.reta d5_25 rfl rfl rfl (by decide) (by decide) ⟨by rw [show i.toInt.toNat = 2 from by omega], rfl⟩
    · refine K.gets d5_13 (pc' := 16) rfl (host := "") (Or.inl hw91) Via.refl (P3.ext P1.2) ?_
      exact K.reta d5_16 rfl rfl rfl (by decide) (by decide) ⟨by rw [show i.toInt.toNat = 1 from by omega], rfl⟩
  · refine K.gets d5_4 (pc' := 7) rfl (host := "") (Or.inl hw33) Via.refl (P2.ext P1.2) ?_
    exact K.reta d5_7 rfl rfl rfl (by decide) (by decide) ⟨by rw [show i.toInt.toNat = 0 from by omega], rfl⟩
theorem d7_0 : decode jdk_30_method_1_code 0 = .ok (.aload_n 0, 1) := by decide +kernel
theorem d7_1 : decode jdk_30_method_1_code 1 = .ok (.invokespecial 1, 3) := by decide +kernel
theorem d7_4 : decode jdk_30_method_1_code 4 = .ok (.return_, 1) := by decide +kernel
theorem pn_java_lang_Record : plainName "java/lang/Record" = true := by first | (simp [plainName, overriddenIn]; done) | decide +kernel
set_option maxRecDepth 65536 in
set_option maxHeartbeats 40000000 in
theorem c_rec (l : Launch) (Z : State) (a0 : Array Value) (hw : ∀ d ∈ tables_1, d.before a0 Z = true) (n0 : Nat) (h : Heap) (a : Addr)  : MeetsW l Z n0 (⟨"java/lang/Record", "<init>", "()V"⟩ : MethodName) jdk_30_method_1_code 1 none ({ frames := 1, cells := 0, slots := 0, locals := 12 } : Room) #[(.ref a)] h (fun v h' => v = none ∧ h = h') := by
  refine MeetsW.intro (plainFor_of_name pn_java_lang_Record) (L0 := #[vr a]) (fun m => by first | (simp [entryFrame, mkF, argsToLocals, Value.category]; done) | rfl) ?_
  intro m G K0
  have K : Cx l ({ frames := 1, cells := 0, slots := 0, locals := 12 } : Room) Z n0 _ "java/lang/Record" "<init>" jdk_30_method_1_code 1 none m G := K0
  have hw17 := hw _ (List.mem_of_getElem? (i := 17) rfl)
  have hw18 := hw _ (List.mem_of_getElem? (i := 18) rfl)
  have hw44 := hw _ (List.mem_of_getElem? (i := 44) rfl)
  refine K.aloadN d7_0 (pc' := 1) rfl rfl rfl ?_
  refine K.init0 d7_1 (pc' := 4) rfl hw44 hw17 hw18 rfl (by decide) (W := 0) (by simp [Value.category]) (by decide) ?_
  exact K.ret0 d7_4 (by decide) (by decide) ⟨rfl, rfl⟩
theorem d6_0 : decode prog_64_method_1_code 0 = .ok (.aload_n 0, 1) := by decide +kernel
theorem d6_1 : decode prog_64_method_1_code 1 = .ok (.invokespecial 3, 3) := by decide +kernel
theorem pd_5 : parseMethodDescriptor "()V" = some ⟨[], none⟩ := by decide +kernel
theorem d6_4 : decode prog_64_method_1_code 4 = .ok (.aload_n 0, 1) := by decide +kernel
theorem d6_5 : decode prog_64_method_1_code 5 = .ok (.aload_n 1, 1) := by decide +kernel
theorem d6_6 : decode prog_64_method_1_code 6 = .ok (.putfield 9, 3) := by decide +kernel
theorem d6_9 : decode prog_64_method_1_code 9 = .ok (.aload_n 0, 1) := by decide +kernel
theorem d6_10 : decode prog_64_method_1_code 10 = .ok (.aload_n 2, 1) := by decide +kernel
theorem d6_11 : decode prog_64_method_1_code 11 = .ok (.putfield 15, 3) := by decide +kernel
theorem d6_14 : decode prog_64_method_1_code 14 = .ok (.aload_n 0, 1) := by decide +kernel
theorem d6_15 : decode prog_64_method_1_code 15 = .ok (.iload_n 3, 1) := by decide +kernel
theorem d6_16 : decode prog_64_method_1_code 16 = .ok (.putfield 19, 3) := by decide +kernel
theorem d6_19 : decode prog_64_method_1_code 19 = .ok (.return_, 1) := by decide +kernel
theorem pn_com_example_ltl_to_omega_ltltoomega_hoa_HoaLexer_Token : plainName sT = true := by first | (simp [plainName, overriddenIn]; done) | decide +kernel
set_option maxRecDepth 65536 in
set_option maxHeartbeats 40000000 in
theorem c_tok (l : Launch) (Z : State) (a0 : Array Value) (hw : ∀ d ∈ tables_1, d.before a0 Z = true) (n0 : Nat) (h : Heap) (a : Addr) (ka : Addr) (s1 : Addr) (ix : Int32) (P1 : Exa Z h a sT) (P2 : n0 ≤ a) (P3 : Fld Z h a sT "kind" dK .null) (P4 : Fld Z h a sT "text" "Ljava/lang/String;" .null) (P5 : Fld Z h a sT "index" "I" (.int (0 : Int32))) : MeetsW l Z n0 (⟨sT, "<init>", "(Lcom/example/ltl_to_omega/ltltoomega/hoa/HoaLexer$Kind;Ljava/lang/String;I)V"⟩ : MethodName) prog_64_method_1_code 4 none ({ frames := 2, cells := 0, slots := 0, locals := 24 } : Room) #[(.ref a), (.ref ka), (.ref s1), (.int ix)] h (fun v h' => v = none ∧ Keep h h' [a] ∧ Fld Z h' a sT "kind" dK (.ref ka) ∧ Fld Z h' a sT "text" "Ljava/lang/String;" (.ref s1)) := by
  refine MeetsW.intro (plainFor_of_name pn_com_example_ltl_to_omega_ltltoomega_hoa_HoaLexer_Token) (L0 := #[vr a, vr ka, vr s1, vi ix]) (fun m => by first | (simp [entryFrame, mkF, argsToLocals, Value.category]; done) | rfl) ?_
  intro m G K0
  have K : Cx l ({ frames := 2, cells := 0, slots := 0, locals := 24 } : Room) Z n0 _ sT "<init>" prog_64_method_1_code 4 none m G := K0
  have hw28 := hw _ (List.mem_of_getElem? (i := 28) rfl)
  have hw39 := hw _ (List.mem_of_getElem? (i := 39) rfl)
  have hw40 := hw _ (List.mem_of_getElem? (i := 40) rfl)
  have hw42 := hw _ (List.mem_of_getElem? (i := 42) rfl)
  have hw43 := hw _ (List.mem_of_getElem? (i := 43) rfl)
  have hw45 := hw _ (List.mem_of_getElem? (i := 45) rfl)
  have hw46 := hw _ (List.mem_of_getElem? (i := 46) rfl)
  have hw47 := hw _ (List.mem_of_getElem? (i := 47) rfl)
  have hw48 := hw _ (List.mem_of_getElem? (i := 48) rfl)
  have hw49 := hw _ (List.mem_of_getElem? (i := 49) rfl)
  have hw50 := hw _ (List.mem_of_getElem? (i := 50) rfl)
  refine K.aloadN d6_0 (pc' := 1) rfl rfl rfl ?_
  refine K.callc (argsL := []) (rest := []) d6_1 (pc' := 4) rfl rfl (c_rec l Z a0 hw n0 h (a := a) ) hw39 hw40 hw42 hw43 (by decide) pd_5 rfl rfl (W := 0) (by simp [Value.category]) (by decide) (by decide) (by decide) (by decide) (fun v_3 h_1 q_2 => ?_)
  obtain ⟨rfl, rfl⟩ := q_2
  show G h 0 0 (mkF m 4 #[vr a, vr ka, vr s1, vi ix] [])
  refine K.aloadN d6_4 (pc' := 5) rfl rfl rfl ?_
  refine K.aloadN d6_5 (pc' := 6) rfl rfl rfl ?_
  refine K.putf d6_6 (pc' := 9) rfl (host := "") (Or.inl hw45) Via.refl P3 P1 (Or.inr ⟨hw46, rfl, rfl⟩) hw28 (ty := (.object sK)) (by decide) rfl rfl P2 (fun h_5 W_6 => ?_)
  have f_7 : Fld Z h_5 a sT "kind" dK (.ref ka) := P3.same W_6
  have f_8 : Fld Z h_5 a sT "text" "Ljava/lang/String;" .null := P4.other W_6 (Or.inr (slot_ne (Or.inr hw48) (Or.inr hw46) (by decide) (t := (.object sS)) (t' := (.object sK)) (by decide) (by decide)))
  have f_9 : Fld Z h_5 a sT "index" "I" (.int (0 : Int32)) := P5.other W_6 (Or.inr (slot_ne (Or.inr hw50) (Or.inr hw46) (by decide) (t := .int) (t' := (.object sK)) (by decide) (by decide)))
  have kp_10 : Keep h h_5 [a] := (Keep.refl h [a]).wr W_6 (Or.inl (by simp))
  refine K.aloadN d6_9 (pc' := 10) rfl rfl rfl ?_
  refine K.aloadN d6_10 (pc' := 11) rfl rfl rfl ?_
  have f_11 : Exa Z h_5 a sT := (P1.wr W_6)
  refine K.putf d6_11 (pc' := 14) rfl (host := "") (Or.inl hw47) Via.refl f_8 f_11 (Or.inr ⟨hw48, rfl, rfl⟩) hw28 (ty := (.object sS)) (by decide) rfl rfl P2 (fun h_12 W_13 => ?_)
  have f_14 : Fld Z h_12 a sT "kind" dK (.ref ka) := f_7.other W_13 (Or.inr (slot_ne (Or.inr hw46) (Or.inr hw48) (by decide) (t := (.object sK)) (t' := (.object sS)) (by decide) (by decide)))
  have f_15 : Fld Z h_12 a sT "text" "Ljava/lang/String;" (.ref s1) := f_8.same W_13
  have f_16 : Fld Z h_12 a sT "index" "I" (.int (0 : Int32)) := f_9.other W_13 (Or.inr (slot_ne (Or.inr hw50) (Or.inr hw48) (by decide) (t := .int) (t' := (.object sS)) (by decide) (by decide)))
  have kp_17 : Keep h h_12 [a] := kp_10.wr W_13 (Or.inl (by simp))
  refine K.aloadN d6_14 (pc' := 15) rfl rfl rfl ?_
  refine K.iloadN d6_15 (pc' := 16) rfl rfl ?_
  have f_18 : Exa Z h_12 a sT := (f_11.wr W_13)
  refine K.putf d6_16 (pc' := 19) rfl (host := "") (Or.inl hw49) Via.refl f_16 f_18 (Or.inr ⟨hw50, rfl, rfl⟩) hw28 (ty := .int) (by decide) rfl rfl P2 (fun h_19 W_20 => ?_)
  have f_21 : Fld Z h_19 a sT "kind" dK (.ref ka) := f_14.other W_20 (Or.inr (slot_ne (Or.inr hw46) (Or.inr hw50) (by decide) (t := (.object sK)) (t' := .int) (by decide) (by decide)))
  have f_22 : Fld Z h_19 a sT "text" "Ljava/lang/String;" (.ref s1) := f_15.other W_20 (Or.inr (slot_ne (Or.inr hw48) (Or.inr hw50) (by decide) (t := (.object sS)) (t' := .int) (by decide) (by decide)))
  have f_23 : Fld Z h_19 a sT "index" "I" (.int ix) := f_16.same W_20
  have kp_24 : Keep h h_19 [a] := kp_17.wr W_20 (Or.inl (by simp))
  exact K.ret0 d6_19 (by decide) (by decide) ⟨rfl, kp_24, f_21, f_22⟩
theorem d13_0 : decode jdk_43_method_13_code 0 = .ok (.aload_n 0, 1) := by decide +kernel
theorem d13_1 : decode jdk_43_method_13_code 1 = .ok (.arraylength, 1) := by decide +kernel
theorem d13_2 : decode jdk_43_method_13_code 2 = .ok (.aload_n 1, 1) := by decide +kernel
theorem d13_3 : decode jdk_43_method_13_code 3 = .ok (.arraylength, 1) := by decide +kernel
theorem d13_4 : decode jdk_43_method_13_code 4 = .ok (.if_icmp .ne 30, 3) := by decide +kernel
theorem d13_34 : decode jdk_43_method_13_code 34 = .ok (.iconst 0, 1) := by decide +kernel
theorem d13_35 : decode jdk_43_method_13_code 35 = .ok (.ireturn, 1) := by decide +kernel
theorem pn_java_lang_StringLatin1 : plainName "java/lang/StringLatin1" = true := by first | (simp [plainName, overriddenIn]; done) | decide +kernel
set_option maxRecDepth 65536 in
set_option maxHeartbeats 40000000 in
theorem c_leN (l : Launch) (Z : State) (a0 : Array Value) (hw : ∀ d ∈ tables_1, d.before a0 Z = true) (n0 : Nat) (h : Heap) (d : Addr) (e : Addr) (vs : List Value) (ws : List Value) (P1 : Ary Z h d .byte vs) (P2 : Ary Z h e .byte ws) (hne : vs.length ≠ ws.length) : MeetsW l Z n0 (⟨"java/lang/StringLatin1", "equals", "([B[B)Z"⟩ : MethodName) jdk_43_method_13_code 3 (some .boolean) ({ frames := 0, cells := 0, slots := 0, locals := 0 } : Room) #[(.ref d), (.ref e)] h (fun v h' => v = some (.int (b2 (False))) ∧ h = h') := by
  refine MeetsW.intro (plainFor_of_name pn_java_lang_StringLatin1) (L0 := #[vr d, vr e, .unset]) (fun m => by first | (simp [entryFrame, mkF, argsToLocals, Value.category]; done) | rfl) ?_
  intro m G K0
  have K : Cx l ({ frames := 0, cells := 0, slots := 0, locals := 0 } : Room) Z n0 _ "java/lang/StringLatin1" "equals" jdk_43_method_13_code 3 (some .boolean) m G := K0
  refine K.aloadN d13_0 (pc' := 1) rfl rfl rfl ?_
  refine K.alen d13_1 (pc' := 2) rfl P1 (fun z1 e_z1 => ?_)
  refine K.aloadN d13_2 (pc' := 3) rfl rfl rfl ?_
  refine K.alen d13_3 (pc' := 4) rfl P2 (fun z3 e_z3 => ?_)
  refine K.icmp_ne d13_4 (pc1 := 7) rfl (by decide) (pc2 := 34) (by decide) (a := z1.toInt) (b := z3.toInt) rfl rfl (fun c4 => ?_) (fun c4 => ?_)
  · refine K.iconst d13_34 (pc' := 35) rfl (z := 0) rfl ?_
    exact K.retz d13_35 (Or.inl rfl) (by decide) (by decide) ⟨by rw [b2_f (by simp)], rfl⟩
  · exfalso; omega
theorem d12_0 : decode jdk_42_method_66_code 0 = .ok (.aload_n 0, 1) := by decide +kernel
theorem d12_1 : decode jdk_42_method_66_code 1 = .ok (.aload_n 1, 1) := by decide +kernel
theorem d12_2 : decode jdk_42_method_66_code 2 = .ok (.if_acmp .ne 5, 3) := by decide +kernel
theorem d12_7 : decode jdk_42_method_66_code 7 = .ok (.aload_n 1, 1) := by decide +kernel
theorem d12_8 : decode jdk_42_method_66_code 8 = .ok (.instanceof 10, 3) := by decide +kernel
theorem d12_11 : decode jdk_42_method_66_code 11 = .ok (.ifCond .eq 43, 3) := by decide +kernel
theorem d12_14 : decode jdk_42_method_66_code 14 = .ok (.aload_n 1, 1) := by decide +kernel
theorem d12_15 : decode jdk_42_method_66_code 15 = .ok (.checkcast 10, 3) := by decide +kernel
theorem d12_18 : decode jdk_42_method_66_code 18 = .ok (.astore_n 2, 1) := by decide +kernel
theorem d12_19 : decode jdk_42_method_66_code 19 = .ok (.getstatic 38, 3) := by decide +kernel
theorem d12_22 : decode jdk_42_method_66_code 22 = .ok (.ifCond .eq 14, 3) := by decide +kernel
theorem d12_25 : decode jdk_42_method_66_code 25 = .ok (.aload_n 0, 1) := by decide +kernel
theorem d12_26 : decode jdk_42_method_66_code 26 = .ok (.getfield 15, 3) := by decide +kernel
theorem d12_29 : decode jdk_42_method_66_code 29 = .ok (.aload_n 2, 1) := by decide +kernel
theorem d12_30 : decode jdk_42_method_66_code 30 = .ok (.getfield 15, 3) := by decide +kernel
theorem d12_33 : decode jdk_42_method_66_code 33 = .ok (.if_icmp .ne 21, 3) := by decide +kernel
theorem d12_36 : decode jdk_42_method_66_code 36 = .ok (.aload_n 0, 1) := by decide +kernel
theorem d12_37 : decode jdk_42_method_66_code 37 = .ok (.getfield 9, 3) := by decide +kernel
theorem d12_40 : decode jdk_42_method_66_code 40 = .ok (.aload_n 2, 1) := by decide +kernel
theorem d12_41 : decode jdk_42_method_66_code 41 = .ok (.getfield 9, 3) := by decide +kernel
theorem d12_44 : decode jdk_42_method_66_code 44 = .ok (.invokestatic 541, 3) := by decide +kernel
theorem pd_6 : parseMethodDescriptor "([B[B)Z" = some ⟨[(.array .byte), (.array .byte)], some .boolean⟩ := by decide +kernel
theorem d12_47 : decode jdk_42_method_66_code 47 = .ok (.ifCond .eq 7, 3) := by decide +kernel
theorem d12_54 : decode jdk_42_method_66_code 54 = .ok (.iconst 0, 1) := by decide +kernel
theorem d12_55 : decode jdk_42_method_66_code 55 = .ok (.ireturn, 1) := by decide +kernel
theorem d12_50 : decode jdk_42_method_66_code 50 = .ok (.iconst 1, 1) := by decide +kernel
theorem d12_51 : decode jdk_42_method_66_code 51 = .ok (.goto 4, 3) := by decide +kernel
set_option maxRecDepth 65536 in
set_option maxHeartbeats 40000000 in
theorem c_seN (l : Launch) (Z : State) (a0 : Array Value) (hw : ∀ d ∈ tables_1, d.before a0 Z = true) (n0 : Nat) (h : Heap) (cs : Int32) (s1 : Addr) (s2 : Addr) (d : Addr) (e : Addr) (vs : List Value) (ws : List Value) (P1 : Old Z n0 h) (P2 : Sta Z Z.heap sS "COMPACT_STRINGS" "Z" (.int cs)) (hcs : cs.toInt ≠ 0) (P4 : Exa Z h s1 sS) (P5 : Exa Z h s2 sS) (P6 : s1 ≠ s2) (P7 : Fld Z h s1 sS "coder" "B" (.int (0 : Int32))) (P8 : Fld Z h s1 sS "value" "[B" (.ref d)) (P9 : Fld Z h s2 sS "coder" "B" (.int (0 : Int32))) (P10 : Fld Z h s2 sS "value" "[B" (.ref e)) (P11 : Ary Z h d .byte vs) (P12 : Ary Z h e .byte ws) (hne : vs.length ≠ ws.length) : MeetsW l Z n0 (⟨sS, "equals", "(Ljava/lang/Object;)Z"⟩ : MethodName) jdk_42_method_66_code 3 (some .boolean) ({ frames := 1, cells := 0, slots := 0, locals := 14 } : Room) #[(.ref s1), (.ref s2)] h (fun v h' => v = some (.int (b2 (False))) ∧ h = h') := by
  refine MeetsW.intro (plainFor_of_name pn_java_lang_String) (L0 := #[vr s1, vr s2, .unset]) (fun m => by first | (simp [entryFrame, mkF, argsToLocals, Value.category]; done) | rfl) ?_
  intro m G K0
  have K : Cx l ({ frames := 1, cells := 0, slots := 0, locals := 14 } : Room) Z n0 _ sS "equals" jdk_42_method_66_code 3 (some .boolean) m G := K0
  have hw25 := hw _ (List.mem_of_getElem? (i := 25) rfl)
  have hw26 := hw _ (List.mem_of_getElem? (i := 26) rfl)
  have hw58 := hw _ (List.mem_of_getElem? (i := 58) rfl)
  have hw76 := hw _ (List.mem_of_getElem? (i := 76) rfl)
  have hw77 := hw _ (List.mem_of_getElem? (i := 77) rfl)
  have hw78 := hw _ (List.mem_of_getElem? (i := 78) rfl)
  have hw79 := hw _ (List.mem_of_getElem? (i := 79) rfl)
  have hw80 := hw _ (List.mem_of_getElem? (i := 80) rfl)
  refine K.aloadN d12_0 (pc' := 1) rfl rfl rfl ?_
  refine K.aloadN d12_1 (pc' := 2) rfl rfl rfl ?_
  refine K.acmpNe d12_2 (pc1 := 5) rfl (by decide) (pc2 := 7) (by decide) (fun c2 => ?_) (fun c2 => ?_)
  · refine K.aloadN d12_7 (pc' := 8) rfl rfl rfl ?_
    refine K.inst d12_8 (pc' := 11) rfl hw76 (Ins.self P5) ?_
    refine K.if_eq d12_11 (pc1 := 14) rfl (by decide) (pc2 := 54) (by decide) (a := 1) rfl (fun c11 => ?_) (fun c11 => ?_)
    · exfalso; omega
    · refine K.aloadN d12_14 (pc' := 15) rfl rfl rfl ?_
      refine K.ccast d12_15 (pc' := 18) rfl hw76 (Ins.self P5) ?_
      refine K.astoreN d12_18 (pc' := 19) rfl rfl (L' := #[vr s1, vr s2, vr s2]) rfl ?_
      refine K.gets d12_19 (pc' := 22) rfl (host := "") (Or.inl hw58) Via.refl (P2.ext P1.2) ?_
      refine K.if_eq d12_22 (pc1 := 25) rfl (by decide) (pc2 := 36) (by decide) (a := cs.toInt) rfl (fun c22 => ?_) (fun c22 => ?_)
      · exfalso; exact hcs c22
      · refine K.aloadN d12_25 (pc' := 26) rfl rfl rfl ?_
        refine K.getf d12_26 (pc' := 29) rfl (host := "") (Or.inl hw26) Via.refl P7 ?_
        refine K.aloadN d12_29 (pc' := 30) rfl rfl rfl ?_
        refine K.getf d12_30 (pc' := 33) rfl (host := "") (Or.inl hw26) Via.refl P9 ?_
        refine K.icmp_ne d12_33 (pc1 := 36) rfl (by decide) (pc2 := 54) (by decide) (a := 0) (b := 0) rfl rfl (fun c33 => ?_) (fun c33 => ?_)
        · exfalso; omega
        · refine K.aloadN d12_36 (pc' := 37) rfl rfl rfl ?_
          refine K.getf d12_37 (pc' := 40) rfl (host := "") (Or.inl hw25) Via.refl P8 ?_
          refine K.aloadN d12_40 (pc' := 41) rfl rfl rfl ?_
          refine K.getf d12_41 (pc' := 44) rfl (host := "") (Or.inl hw25) Via.refl P10 ?_
          refine K.calls (argsL := [(.ref d), (.ref e)]) (rest := []) d12_44 (pc' := 47) rfl (c_leN l Z a0 hw n0 h (d := d) (e := e) (vs := vs) (ws := ws) P11 P12 hne) hw77 hw78 hw79 hw80 (by decide) pd_6 rfl rfl (W := 0) (by simp [Value.category]) (by decide) (by decide) (by decide) (by decide) (fun v_3 h_1 q_2 => ?_)
          obtain ⟨rfl, rfl⟩ := q_2
          show G h 0 0 (mkF m 47 #[vr s1, vr s2, vr s2] [(.int (b2 (False)))])
          refine K.ifeqB d12_47 (pc1 := 50) rfl (by decide) (pc2 := 54) (by decide) (fun c47 => ?_) (fun c47 => ?_)
          · refine K.iconst d12_54 (pc' := 55) rfl (z := 0) rfl ?_
            exact K.retz d12_55 (Or.inl rfl) (by decide) (by decide) ⟨by rw [b2_f (by first | exact c47 | omega | simp_all)], rfl⟩
          · refine K.iconst d12_50 (pc' := 51) rfl (z := 1) rfl ?_
            refine K.goto d12_51 (by decide) (pc' := 55) (by decide) ?_
            exact K.retz d12_55 (Or.inr rfl) (by decide) (by decide) ⟨by rw [b2_t (by first | exact c47 | omega | simp_all)], rfl⟩
  · exfalso; exact P6 c2
theorem d8_0 : decode prog_64_method_2_code 0 = .ok (.aload_n 0, 1) := by decide +kernel
theorem d8_1 : decode prog_64_method_2_code 1 = .ok (.getfield 9, 3) := by decide +kernel
theorem d8_4 : decode prog_64_method_2_code 4 = .ok (.aload_n 1, 1) := by decide +kernel
theorem d8_5 : decode prog_64_method_2_code 5 = .ok (.if_acmp .ne 18, 3) := by decide +kernel
theorem d8_23 : decode prog_64_method_2_code 23 = .ok (.iconst 0, 1) := by decide +kernel
theorem d8_24 : decode prog_64_method_2_code 24 = .ok (.ireturn, 1) := by decide +kernel
theorem d8_8 : decode prog_64_method_2_code 8 = .ok (.aload_n 0, 1) := by decide +kernel
theorem d8_9 : decode prog_64_method_2_code 9 = .ok (.getfield 15, 3) := by decide +kernel
theorem d8_12 : decode prog_64_method_2_code 12 = .ok (.aload_n 2, 1) := by decide +kernel
theorem d8_13 : decode prog_64_method_2_code 13 = .ok (.invokevirtual 23, 3) := by decide +kernel
theorem pd_7 : parseMethodDescriptor "(Ljava/lang/Object;)Z" = some ⟨[(.object "java/lang/Object")], some .boolean⟩ := by decide +kernel
theorem d8_16 : decode prog_64_method_2_code 16 = .ok (.ifCond .eq 7, 3) := by decide +kernel
theorem d8_19 : decode prog_64_method_2_code 19 = .ok (.iconst 1, 1) := by decide +kernel
theorem d8_20 : decode prog_64_method_2_code 20 = .ok (.goto 4, 3) := by decide +kernel
set_option maxRecDepth 65536 in
set_option maxHeartbeats 40000000 in
theorem c_isN (l : Launch) (Z : State) (a0 : Array Value) (hw : ∀ d ∈ tables_1, d.before a0 Z = true) (n0 : Nat) (h : Heap) (a : Addr) (ka : Addr) (kb : Addr) (cs : Int32) (s1 : Addr) (s2 : Addr) (d : Addr) (e : Addr) (vs : List Value) (ws : List Value) (P1 : Exa Z h a sT) (P2 : Fld Z h a sT "kind" dK (.ref ka)) (P3 : Fld Z h a sT "text" "Ljava/lang/String;" (.ref s1)) (P4 : Old Z n0 h) (P5 : Sta Z Z.heap sS "COMPACT_STRINGS" "Z" (.int cs)) (hcs : cs.toInt ≠ 0) (P7 : Exa Z h s1 sS) (P8 : Exa Z h s2 sS) (P9 : s1 ≠ s2) (P10 : Fld Z h s1 sS "coder" "B" (.int (0 : Int32))) (P11 : Fld Z h s1 sS "value" "[B" (.ref d)) (P12 : Fld Z h s2 sS "coder" "B" (.int (0 : Int32))) (P13 : Fld Z h s2 sS "value" "[B" (.ref e)) (P14 : Ary Z h d .byte vs) (P15 : Ary Z h e .byte ws) (hne : vs.length ≠ ws.length) : MeetsW l Z n0 (⟨sT, "is", "(Lcom/example/ltl_to_omega/ltltoomega/hoa/HoaLexer$Kind;Ljava/lang/String;)Z"⟩ : MethodName) prog_64_method_2_code 3 (some .boolean) ({ frames := 2, cells := 0, slots := 0, locals := 28 } : Room) #[(.ref a), (.ref kb), (.ref s2)] h (fun v h' => v = some (.int (b2 (ka = kb ∧ (False)))) ∧ h = h') := by
  refine MeetsW.intro (plainFor_of_name pn_com_example_ltl_to_omega_ltltoomega_hoa_HoaLexer_Token) (L0 := #[vr a, vr kb, vr s2]) (fun m => by first | (simp [entryFrame, mkF, argsToLocals, Value.category]; done) | rfl) ?_
  intro m G K0
  have K : Cx l ({ frames := 2, cells := 0, slots := 0, locals := 28 } : Room) Z n0 _ sT "is" prog_64_method_2_code 3 (some .boolean) m G := K0
  have hw7 := hw _ (List.mem_of_getElem? (i := 7) rfl)
  have hw45 := hw _ (List.mem_of_getElem? (i := 45) rfl)
  have hw47 := hw _ (List.mem_of_getElem? (i := 47) rfl)
  have hw71 := hw _ (List.mem_of_getElem? (i := 71) rfl)
  have hw72 := hw _ (List.mem_of_getElem? (i := 72) rfl)
  have hw73 := hw _ (List.mem_of_getElem? (i := 73) rfl)
  have hw74 := hw _ (List.mem_of_getElem? (i := 74) rfl)
  have hw75 := hw _ (List.mem_of_getElem? (i := 75) rfl)
  refine K.aloadN d8_0 (pc' := 1) rfl rfl rfl ?_
  refine K.getf d8_1 (pc' := 4) rfl (host := "") (Or.inl hw45) Via.refl P2 ?_
  refine K.aloadN d8_4 (pc' := 5) rfl rfl rfl ?_
  refine K.acmpNe d8_5 (pc1 := 8) rfl (by decide) (pc2 := 23) (by decide) (fun c5 => ?_) (fun c5 => ?_)
  · refine K.iconst d8_23 (pc' := 24) rfl (z := 0) rfl ?_
    exact K.retz d8_24 (Or.inl rfl) (by decide) (by decide) ⟨by rw [b2_f (by first | exact ⟨c5, c16⟩ | exact fun q => c16 q.2 | exact fun q => c5 q.1)], rfl⟩
  · refine K.aloadN d8_8 (pc' := 9) rfl rfl rfl ?_
    refine K.getf d8_9 (pc' := 12) rfl (host := "") (Or.inl hw47) Via.refl P3 ?_
    refine K.aloadN d8_12 (pc' := 13) rfl rfl rfl ?_
    refine K.callv (z := (⟨sS, "equals", "(Ljava/lang/Object;)Z"⟩ : MethodName)) (argsL := [(.ref s2)]) (rest := []) d8_13 (pc' := 16) rfl (c_seN l Z a0 hw n0 h (cs := cs) (s1 := s1) (s2 := s2) (d := d) (e := e) (vs := vs) (ws := ws) P4 P5 hcs P7 P8 P9 P10 P11 P12 P13 P14 P15 hne) P7 hw71 hw72 (nf_sel hw74 rfl) hw74 hw73 hw7 hw75 (by decide) pd_7 rfl rfl (W := 0) (by simp [Value.category]) (by decide) (by decide) (by decide) (by decide) (fun v_3 h_1 q_2 => ?_)
    obtain ⟨rfl, rfl⟩ := q_2
    show G h 0 0 (mkF m 16 #[vr a, vr kb, vr s2] [(.int (b2 (False)))])
    refine K.ifeqB d8_16 (pc1 := 19) rfl (by decide) (pc2 := 23) (by decide) (fun c16 => ?_) (fun c16 => ?_)
    · refine K.iconst d8_23 (pc' := 24) rfl (z := 0) rfl ?_
      exact K.retz d8_24 (Or.inl rfl) (by decide) (by decide) ⟨by rw [b2_f (by first | exact ⟨c5, c16⟩ | exact fun q => c16 q.2 | exact fun q => c5 q.1)], rfl⟩
    · refine K.iconst d8_19 (pc' := 20) rfl (z := 1) rfl ?_
      refine K.goto d8_20 (by decide) (pc' := 24) (by decide) ?_
      exact K.retz d8_24 (Or.inr rfl) (by decide) (by decide) ⟨by rw [b2_t (by first | exact ⟨c5, c16⟩ | exact fun q => c16 q.2 | exact fun q => c5 q.1)], rfl⟩
theorem d13_7 : decode jdk_43_method_13_code 7 = .ok (.iconst 0, 1) := by decide +kernel
theorem d13_8 : decode jdk_43_method_13_code 8 = .ok (.istore_n 2, 1) := by decide +kernel
theorem d13_9 : decode jdk_43_method_13_code 9 = .ok (.iload_n 2, 1) := by decide +kernel
theorem d13_10 : decode jdk_43_method_13_code 10 = .ok (.aload_n 0, 1) := by decide +kernel
theorem d13_11 : decode jdk_43_method_13_code 11 = .ok (.arraylength, 1) := by decide +kernel
theorem d13_12 : decode jdk_43_method_13_code 12 = .ok (.if_icmp .ge 20, 3) := by decide +kernel
theorem d13_32 : decode jdk_43_method_13_code 32 = .ok (.iconst 1, 1) := by decide +kernel
theorem d13_33 : decode jdk_43_method_13_code 33 = .ok (.ireturn, 1) := by decide +kernel
set_option maxRecDepth 65536 in
set_option maxHeartbeats 40000000 in
theorem c_le0 (l : Launch) (Z : State) (a0 : Array Value) (hw : ∀ d ∈ tables_1, d.before a0 Z = true) (n0 : Nat) (h : Heap) (d : Addr) (e : Addr) (P1 : Ary Z h d .byte []) (P2 : Ary Z h e .byte []) : MeetsW l Z n0 (⟨"java/lang/StringLatin1", "equals", "([B[B)Z"⟩ : MethodName) jdk_43_method_13_code 3 (some .boolean) ({ frames := 0, cells := 0, slots := 0, locals := 0 } : Room) #[(.ref d), (.ref e)] h (fun v h' => v = some (.int (b2 (True))) ∧ h = h') := by
  refine MeetsW.intro (plainFor_of_name pn_java_lang_StringLatin1) (L0 := #[vr d, vr e, .unset]) (fun m => by first | (simp [entryFrame, mkF, argsToLocals, Value.category]; done) | rfl) ?_
  intro m G K0
  have K : Cx l ({ frames := 0, cells := 0, slots := 0, locals := 0 } : Room) Z n0 _ "java/lang/StringLatin1" "equals" jdk_43_method_13_code 3 (some .boolean) m G := K0
  refine K.aloadN d13_0 (pc' := 1) rfl rfl rfl ?_
  refine K.alen d13_1 (pc' := 2) rfl P1 (fun z1 e_z1 => ?_)
  have t_z1 : z1.toInt = 0 := e_z1
  refine K.aloadN d13_2 (pc' := 3) rfl rfl rfl ?_
  refine K.alen d13_3 (pc' := 4) rfl P2 (fun z3 e_z3 => ?_)
  have t_z3 : z3.toInt = 0 := e_z3
  refine K.icmp_ne d13_4 (pc1 := 7) rfl (by decide) (pc2 := 34) (by decide) (a := z1.toInt) (b := z3.toInt) rfl rfl (fun c4 => ?_) (fun c4 => ?_)
  · exfalso; omega
  · refine K.iconst d13_7 (pc' := 8) rfl (z := 0) rfl ?_
    refine K.istoreN d13_8 (pc' := 9) rfl (L' := #[vr d, vr e, vi 0]) rfl ?_
    refine K.iloadN d13_9 (pc' := 10) rfl rfl ?_
    refine K.aloadN d13_10 (pc' := 11) rfl rfl rfl ?_
    refine K.alen d13_11 (pc' := 12) rfl P1 (fun z11 e_z11 => ?_)
    have t_z11 : z11.toInt = 0 := e_z11
    refine K.icmp_ge d13_12 (pc1 := 15) rfl (by decide) (pc2 := 32) (by decide) (a := 0) (b := z11.toInt) rfl rfl (fun c12 => ?_) (fun c12 => ?_)
    · refine K.iconst d13_32 (pc' := 33) rfl (z := 1) rfl ?_
      exact K.retz d13_33 (Or.inr rfl) (by decide) (by decide) ⟨by rw [b2_t (by first | omega | simp)], rfl⟩
    · exfalso; (have o0 : (0 : Int32).toInt = 0 := rfl; have o1 : (1 : Int32).toInt = 1 := rfl; have o2 : (2 : Int32).toInt = 2 := rfl; omega)
set_option maxRecDepth 65536 in
set_option maxHeartbeats 40000000 in
theorem c_se0 (l : Launch) (Z : State) (a0 : Array Value) (hw : ∀ d ∈ tables_1, d.before a0 Z = true) (n0 : Nat) (h : Heap) (cs : Int32) (s1 : Addr) (s2 : Addr) (d : Addr) (e : Addr) (P1 : Old Z n0 h) (P2 : Sta Z Z.heap sS "COMPACT_STRINGS" "Z" (.int cs)) (hcs : cs.toInt ≠ 0) (P4 : Exa Z h s1 sS) (P5 : Exa Z h s2 sS) (P6 : s1 ≠ s2) (P7 : Fld Z h s1 sS "coder" "B" (.int (0 : Int32))) (P8 : Fld Z h s1 sS "value" "[B" (.ref d)) (P9 : Fld Z h s2 sS "coder" "B" (.int (0 : Int32))) (P10 : Fld Z h s2 sS "value" "[B" (.ref e)) (P11 : Ary Z h d .byte []) (P12 : Ary Z h e .byte []) : MeetsW l Z n0 (⟨sS, "equals", "(Ljava/lang/Object;)Z"⟩ : MethodName) jdk_42_method_66_code 3 (some .boolean) ({ frames := 1, cells := 0, slots := 0, locals := 14 } : Room) #[(.ref s1), (.ref s2)] h (fun v h' => v = some (.int (b2 (True))) ∧ h = h') := by
  refine MeetsW.intro (plainFor_of_name pn_java_lang_String) (L0 := #[vr s1, vr s2, .unset]) (fun m => by first | (simp [entryFrame, mkF, argsToLocals, Value.category]; done) | rfl) ?_
  intro m G K0
  have K : Cx l ({ frames := 1, cells := 0, slots := 0, locals := 14 } : Room) Z n0 _ sS "equals" jdk_42_method_66_code 3 (some .boolean) m G := K0
  have hw25 := hw _ (List.mem_of_getElem? (i := 25) rfl)
  have hw26 := hw _ (List.mem_of_getElem? (i := 26) rfl)
  have hw58 := hw _ (List.mem_of_getElem? (i := 58) rfl)
  have hw76 := hw _ (List.mem_of_getElem? (i := 76) rfl)
  have hw77 := hw _ (List.mem_of_getElem? (i := 77) rfl)
  have hw78 := hw _ (List.mem_of_getElem? (i := 78) rfl)
  have hw79 := hw _ (List.mem_of_getElem? (i := 79) rfl)
  have hw80 := hw _ (List.mem_of_getElem? (i := 80) rfl)
  refine K.aloadN d12_0 (pc' := 1) rfl rfl rfl ?_
  refine K.aloadN d12_1 (pc' := 2) rfl rfl rfl ?_
  refine K.acmpNe d12_2 (pc1 := 5) rfl (by decide) (pc2 := 7) (by decide) (fun c2 => ?_) (fun c2 => ?_)
  · refine K.aloadN d12_7 (pc' := 8) rfl rfl rfl ?_
    refine K.inst d12_8 (pc' := 11) rfl hw76 (Ins.self P5) ?_
    refine K.if_eq d12_11 (pc1 := 14) rfl (by decide) (pc2 := 54) (by decide) (a := 1) rfl (fun c11 => ?_) (fun c11 => ?_)
    · exfalso; omega
    · refine K.aloadN d12_14 (pc' := 15) rfl rfl rfl ?_
      refine K.ccast d12_15 (pc' := 18) rfl hw76 (Ins.self P5) ?_
      refine K.astoreN d12_18 (pc' := 19) rfl rfl (L' := #[vr s1, vr s2, vr s2]) rfl ?_
      refine K.gets d12_19 (pc' := 22) rfl (host := "") (Or.inl hw58) Via.refl (P2.ext P1.2) ?_
      refine K.if_eq d12_22 (pc1 := 25) rfl (by decide) (pc2 := 36) (by decide) (a := cs.toInt) rfl (fun c22 => ?_) (fun c22 => ?_)
      · exfalso; exact hcs c22
      · refine K.aloadN d12_25 (pc' := 26) rfl rfl rfl ?_
        refine K.getf d12_26 (pc' := 29) rfl (host := "") (Or.inl hw26) Via.refl P7 ?_
        refine K.aloadN d12_29 (pc' := 30) rfl rfl rfl ?_
        refine K.getf d12_30 (pc' := 33) rfl (host := "") (Or.inl hw26) Via.refl P9 ?_
        refine K.icmp_ne d12_33 (pc1 := 36) rfl (by decide) (pc2 := 54) (by decide) (a := 0) (b := 0) rfl rfl (fun c33 => ?_) (fun c33 => ?_)
        · exfalso; omega
        · refine K.aloadN d12_36 (pc' := 37) rfl rfl rfl ?_
          refine K.getf d12_37 (pc' := 40) rfl (host := "") (Or.inl hw25) Via.refl P8 ?_
          refine K.aloadN d12_40 (pc' := 41) rfl rfl rfl ?_
          refine K.getf d12_41 (pc' := 44) rfl (host := "") (Or.inl hw25) Via.refl P10 ?_
          refine K.calls (argsL := [(.ref d), (.ref e)]) (rest := []) d12_44 (pc' := 47) rfl (c_le0 l Z a0 hw n0 h (d := d) (e := e) P11 P12) hw77 hw78 hw79 hw80 (by decide) pd_6 rfl rfl (W := 0) (by simp [Value.category]) (by decide) (by decide) (by decide) (by decide) (fun v_3 h_1 q_2 => ?_)
          obtain ⟨rfl, rfl⟩ := q_2
          show G h 0 0 (mkF m 47 #[vr s1, vr s2, vr s2] [(.int (b2 (True)))])
          refine K.ifeqB d12_47 (pc1 := 50) rfl (by decide) (pc2 := 54) (by decide) (fun c47 => ?_) (fun c47 => ?_)
          · refine K.iconst d12_54 (pc' := 55) rfl (z := 0) rfl ?_
            exact K.retz d12_55 (Or.inl rfl) (by decide) (by decide) ⟨by rw [b2_f (by first | exact c47 | omega | simp_all)], rfl⟩
          · refine K.iconst d12_50 (pc' := 51) rfl (z := 1) rfl ?_
            refine K.goto d12_51 (by decide) (pc' := 55) (by decide) ?_
            exact K.retz d12_55 (Or.inr rfl) (by decide) (by decide) ⟨by rw [b2_t (by first | exact c47 | omega | simp_all)], rfl⟩
  · exfalso; exact P6 c2
set_option maxRecDepth 65536 in
set_option maxHeartbeats 40000000 in
theorem c_is0 (l : Launch) (Z : State) (a0 : Array Value) (hw : ∀ d ∈ tables_1, d.before a0 Z = true) (n0 : Nat) (h : Heap) (a : Addr) (ka : Addr) (kb : Addr) (cs : Int32) (s1 : Addr) (s2 : Addr) (d : Addr) (e : Addr) (P1 : Exa Z h a sT) (P2 : Fld Z h a sT "kind" dK (.ref ka)) (P3 : Fld Z h a sT "text" "Ljava/lang/String;" (.ref s1)) (P4 : Old Z n0 h) (P5 : Sta Z Z.heap sS "COMPACT_STRINGS" "Z" (.int cs)) (hcs : cs.toInt ≠ 0) (P7 : Exa Z h s1 sS) (P8 : Exa Z h s2 sS) (P9 : s1 ≠ s2) (P10 : Fld Z h s1 sS "coder" "B" (.int (0 : Int32))) (P11 : Fld Z h s1 sS "value" "[B" (.ref d)) (P12 : Fld Z h s2 sS "coder" "B" (.int (0 : Int32))) (P13 : Fld Z h s2 sS "value" "[B" (.ref e)) (P14 : Ary Z h d .byte []) (P15 : Ary Z h e .byte []) : MeetsW l Z n0 (⟨sT, "is", "(Lcom/example/ltl_to_omega/ltltoomega/hoa/HoaLexer$Kind;Ljava/lang/String;)Z"⟩ : MethodName) prog_64_method_2_code 3 (some .boolean) ({ frames := 2, cells := 0, slots := 0, locals := 28 } : Room) #[(.ref a), (.ref kb), (.ref s2)] h (fun v h' => v = some (.int (b2 (ka = kb ∧ (True)))) ∧ h = h') := by
  refine MeetsW.intro (plainFor_of_name pn_com_example_ltl_to_omega_ltltoomega_hoa_HoaLexer_Token) (L0 := #[vr a, vr kb, vr s2]) (fun m => by first | (simp [entryFrame, mkF, argsToLocals, Value.category]; done) | rfl) ?_
  intro m G K0
  have K : Cx l ({ frames := 2, cells := 0, slots := 0, locals := 28 } : Room) Z n0 _ sT "is" prog_64_method_2_code 3 (some .boolean) m G := K0
  have hw7 := hw _ (List.mem_of_getElem? (i := 7) rfl)
  have hw45 := hw _ (List.mem_of_getElem? (i := 45) rfl)
  have hw47 := hw _ (List.mem_of_getElem? (i := 47) rfl)
  have hw71 := hw _ (List.mem_of_getElem? (i := 71) rfl)
  have hw72 := hw _ (List.mem_of_getElem? (i := 72) rfl)
  have hw73 := hw _ (List.mem_of_getElem? (i := 73) rfl)
  have hw74 := hw _ (List.mem_of_getElem? (i := 74) rfl)
  have hw75 := hw _ (List.mem_of_getElem? (i := 75) rfl)
  refine K.aloadN d8_0 (pc' := 1) rfl rfl rfl ?_
  refine K.getf d8_1 (pc' := 4) rfl (host := "") (Or.inl hw45) Via.refl P2 ?_
  refine K.aloadN d8_4 (pc' := 5) rfl rfl rfl ?_
  refine K.acmpNe d8_5 (pc1 := 8) rfl (by decide) (pc2 := 23) (by decide) (fun c5 => ?_) (fun c5 => ?_)
  · refine K.iconst d8_23 (pc' := 24) rfl (z := 0) rfl ?_
    exact K.retz d8_24 (Or.inl rfl) (by decide) (by decide) ⟨by rw [b2_f (by first | exact ⟨c5, c16⟩ | exact fun q => c16 q.2 | exact fun q => c5 q.1)], rfl⟩
  · refine K.aloadN d8_8 (pc' := 9) rfl rfl rfl ?_
    refine K.getf d8_9 (pc' := 12) rfl (host := "") (Or.inl hw47) Via.refl P3 ?_
    refine K.aloadN d8_12 (pc' := 13) rfl rfl rfl ?_
    refine K.callv (z := (⟨sS, "equals", "(Ljava/lang/Object;)Z"⟩ : MethodName)) (argsL := [(.ref s2)]) (rest := []) d8_13 (pc' := 16) rfl (c_se0 l Z a0 hw n0 h (cs := cs) (s1 := s1) (s2 := s2) (d := d) (e := e) P4 P5 hcs P7 P8 P9 P10 P11 P12 P13 P14 P15) P7 hw71 hw72 (nf_sel hw74 rfl) hw74 hw73 hw7 hw75 (by decide) pd_7 rfl rfl (W := 0) (by simp [Value.category]) (by decide) (by decide) (by decide) (by decide) (fun v_3 h_1 q_2 => ?_)
    obtain ⟨rfl, rfl⟩ := q_2
    show G h 0 0 (mkF m 16 #[vr a, vr kb, vr s2] [(.int (b2 (True)))])
    refine K.ifeqB d8_16 (pc1 := 19) rfl (by decide) (pc2 := 23) (by decide) (fun c16 => ?_) (fun c16 => ?_)
    · refine K.iconst d8_23 (pc' := 24) rfl (z := 0) rfl ?_
      exact K.retz d8_24 (Or.inl rfl) (by decide) (by decide) ⟨by rw [b2_f (by first | exact ⟨c5, c16⟩ | exact fun q => c16 q.2 | exact fun q => c5 q.1)], rfl⟩
    · refine K.iconst d8_19 (pc' := 20) rfl (z := 1) rfl ?_
      refine K.goto d8_20 (by decide) (pc' := 24) (by decide) ?_
      exact K.retz d8_24 (Or.inr rfl) (by decide) (by decide) ⟨by rw [b2_t (by first | exact ⟨c5, c16⟩ | exact fun q => c16 q.2 | exact fun q => c5 q.1)], rfl⟩
theorem d13_15 : decode jdk_43_method_13_code 15 = .ok (.aload_n 0, 1) := by decide +kernel
theorem d13_16 : decode jdk_43_method_13_code 16 = .ok (.iload_n 2, 1) := by decide +kernel
theorem d13_17 : decode jdk_43_method_13_code 17 = .ok (.baload, 1) := by decide +kernel
theorem d13_18 : decode jdk_43_method_13_code 18 = .ok (.aload_n 1, 1) := by decide +kernel
theorem d13_19 : decode jdk_43_method_13_code 19 = .ok (.iload_n 2, 1) := by decide +kernel
theorem d13_20 : decode jdk_43_method_13_code 20 = .ok (.baload, 1) := by decide +kernel
theorem d13_21 : decode jdk_43_method_13_code 21 = .ok (.if_icmp .eq 5, 3) := by decide +kernel
theorem d13_26 : decode jdk_43_method_13_code 26 = .ok (.iinc 2 1, 3) := by decide +kernel
theorem d13_29 : decode jdk_43_method_13_code 29 = .ok (.goto (-20), 3) := by decide +kernel
theorem d13_24 : decode jdk_43_method_13_code 24 = .ok (.iconst 0, 1) := by decide +kernel
theorem d13_25 : decode jdk_43_method_13_code 25 = .ok (.ireturn, 1) := by decide +kernel
set_option maxRecDepth 65536 in
set_option maxHeartbeats 40000000 in
theorem c_le1 (l : Launch) (Z : State) (a0 : Array Value) (hw : ∀ d ∈ tables_1, d.before a0 Z = true) (n0 : Nat) (h : Heap) (d : Addr) (e : Addr) (x0 : Int32) (y0 : Int32) (P1 : Ary Z h d .byte [(.int x0)]) (P2 : Ary Z h e .byte [(.int y0)]) : MeetsW l Z n0 (⟨"java/lang/StringLatin1", "equals", "([B[B)Z"⟩ : MethodName) jdk_43_method_13_code 3 (some .boolean) ({ frames := 0, cells := 0, slots := 0, locals := 0 } : Room) #[(.ref d), (.ref e)] h (fun v h' => v = some (.int (b2 (x0.toInt = y0.toInt))) ∧ h = h') := by
  refine MeetsW.intro (plainFor_of_name pn_java_lang_StringLatin1) (L0 := #[vr d, vr e, .unset]) (fun m => by first | (simp [entryFrame, mkF, argsToLocals, Value.category]; done) | rfl) ?_
  intro m G K0
  have K : Cx l ({ frames := 0, cells := 0, slots := 0, locals := 0 } : Room) Z n0 _ "java/lang/StringLatin1" "equals" jdk_43_method_13_code 3 (some .boolean) m G := K0
  refine K.aloadN d13_0 (pc' := 1) rfl rfl rfl ?_
  refine K.alen d13_1 (pc' := 2) rfl P1 (fun z1 e_z1 => ?_)
  have t_z1 : z1.toInt = 1 := e_z1
  refine K.aloadN d13_2 (pc' := 3) rfl rfl rfl ?_
  refine K.alen d13_3 (pc' := 4) rfl P2 (fun z3 e_z3 => ?_)
  have t_z3 : z3.toInt = 1 := e_z3
  refine K.icmp_ne d13_4 (pc1 := 7) rfl (by decide) (pc2 := 34) (by decide) (a := z1.toInt) (b := z3.toInt) rfl rfl (fun c4 => ?_) (fun c4 => ?_)
  · exfalso; omega
  · refine K.iconst d13_7 (pc' := 8) rfl (z := 0) rfl ?_
    refine K.istoreN d13_8 (pc' := 9) rfl (L' := #[vr d, vr e, vi 0]) rfl ?_
    refine K.iloadN d13_9 (pc' := 10) rfl rfl ?_
    refine K.aloadN d13_10 (pc' := 11) rfl rfl rfl ?_
    refine K.alen d13_11 (pc' := 12) rfl P1 (fun z11 e_z11 => ?_)
    have t_z11 : z11.toInt = 1 := e_z11
    refine K.icmp_ge d13_12 (pc1 := 15) rfl (by decide) (pc2 := 32) (by decide) (a := 0) (b := z11.toInt) rfl rfl (fun c12 => ?_) (fun c12 => ?_)
    · exfalso; (have o0 : (0 : Int32).toInt = 0 := rfl; have o1 : (1 : Int32).toInt = 1 := rfl; have o2 : (2 : Int32).toInt = 2 := rfl; omega)
    · refine K.aloadN d13_15 (pc' := 16) rfl rfl rfl ?_
      refine K.iloadN d13_16 (pc' := 17) rfl rfl ?_
      refine K.bald d13_17 (pc' := 18) rfl P1 (i := 0) rfl rfl ?_
      refine K.aloadN d13_18 (pc' := 19) rfl rfl rfl ?_
      refine K.iloadN d13_19 (pc' := 20) rfl rfl ?_
      refine K.bald d13_20 (pc' := 21) rfl P2 (i := 0) rfl rfl ?_
      refine K.icmp_eq d13_21 (pc1 := 24) rfl (by decide) (pc2 := 26) (by decide) (a := x0.toInt) (b := y0.toInt) rfl rfl (fun c21 => ?_) (fun c21 => ?_)
      · refine K.iinc d13_26 (pc' := 29) rfl rfl (z := (1 : Int32)) rfl (L' := #[vr d, vr e, vi 1]) rfl ?_
        refine K.goto d13_29 (by decide) (pc' := 9) (by decide) ?_
        refine K.iloadN d13_9 (pc' := 10) rfl rfl ?_
        refine K.aloadN d13_10 (pc' := 11) rfl rfl rfl ?_
        refine K.alen d13_11 (pc' := 12) rfl P1 (fun z11_1 e_z11_1 => ?_)
        have t_z11_1 : z11_1.toInt = 1 := e_z11_1
        refine K.icmp_ge d13_12 (pc1 := 15) rfl (by decide) (pc2 := 32) (by decide) (a := 1) (b := z11_1.toInt) rfl rfl (fun c12_1 => ?_) (fun c12_1 => ?_)
        · refine K.iconst d13_32 (pc' := 33) rfl (z := 1) rfl ?_
          exact K.retz d13_33 (Or.inr rfl) (by decide) (by decide) ⟨by rw [b2_t (by first | omega | simp)], rfl⟩
        · exfalso; (have o0 : (0 : Int32).toInt = 0 := rfl; have o1 : (1 : Int32).toInt = 1 := rfl; have o2 : (2 : Int32).toInt = 2 := rfl; omega)
      · refine K.iconst d13_24 (pc' := 25) rfl (z := 0) rfl ?_
        exact K.retz d13_25 (Or.inl rfl) (by decide) (by decide) ⟨by rw [b2_f (by first | omega | simp)], rfl⟩
set_option maxRecDepth 65536 in
set_option maxHeartbeats 40000000 in
theorem c_se1 (l : Launch) (Z : State) (a0 : Array Value) (hw : ∀ d ∈ tables_1, d.before a0 Z = true) (n0 : Nat) (h : Heap) (cs : Int32) (s1 : Addr) (s2 : Addr) (d : Addr) (e : Addr) (x0 : Int32) (y0 : Int32) (P1 : Old Z n0 h) (P2 : Sta Z Z.heap sS "COMPACT_STRINGS" "Z" (.int cs)) (hcs : cs.toInt ≠ 0) (P4 : Exa Z h s1 sS) (P5 : Exa Z h s2 sS) (P6 : s1 ≠ s2) (P7 : Fld Z h s1 sS "coder" "B" (.int (0 : Int32))) (P8 : Fld Z h s1 sS "value" "[B" (.ref d)) (P9 : Fld Z h s2 sS "coder" "B" (.int (0 : Int32))) (P10 : Fld Z h s2 sS "value" "[B" (.ref e)) (P11 : Ary Z h d .byte [(.int x0)]) (P12 : Ary Z h e .byte [(.int y0)]) : MeetsW l Z n0 (⟨sS, "equals", "(Ljava/lang/Object;)Z"⟩ : MethodName) jdk_42_method_66_code 3 (some .boolean) ({ frames := 1, cells := 0, slots := 0, locals := 14 } : Room) #[(.ref s1), (.ref s2)] h (fun v h' => v = some (.int (b2 (x0.toInt = y0.toInt))) ∧ h = h') := by
  refine MeetsW.intro (plainFor_of_name pn_java_lang_String) (L0 := #[vr s1, vr s2, .unset]) (fun m => by first | (simp [entryFrame, mkF, argsToLocals, Value.category]; done) | rfl) ?_
  intro m G K0
  have K : Cx l ({ frames := 1, cells := 0, slots := 0, locals := 14 } : Room) Z n0 _ sS "equals" jdk_42_method_66_code 3 (some .boolean) m G := K0
  have hw25 := hw _ (List.mem_of_getElem? (i := 25) rfl)
  have hw26 := hw _ (List.mem_of_getElem? (i := 26) rfl)
  have hw58 := hw _ (List.mem_of_getElem? (i := 58) rfl)
  have hw76 := hw _ (List.mem_of_getElem? (i := 76) rfl)
  have hw77 := hw _ (List.mem_of_getElem? (i := 77) rfl)
  have hw78 := hw _ (List.mem_of_getElem? (i := 78) rfl)
  have hw79 := hw _ (List.mem_of_getElem? (i := 79) rfl)
  have hw80 := hw _ (List.mem_of_getElem? (i := 80) rfl)
  refine K.aloadN d12_0 (pc' := 1) rfl rfl rfl ?_
  refine K.aloadN d12_1 (pc' := 2) rfl rfl rfl ?_
  refine K.acmpNe d12_2 (pc1 := 5) rfl (by decide) (pc2 := 7) (by decide) (fun c2 => ?_) (fun c2 => ?_)
  · refine K.aloadN d12_7 (pc' := 8) rfl rfl rfl ?_
    refine K.inst d12_8 (pc' := 11) rfl hw76 (Ins.self P5) ?_
    refine K.if_eq d12_11 (pc1 := 14) rfl (by decide) (pc2 := 54) (by decide) (a := 1) rfl (fun c11 => ?_) (fun c11 => ?_)
    · exfalso; omega
    · refine K.aloadN d12_14 (pc' := 15) rfl rfl rfl ?_
      refine K.ccast d12_15 (pc' := 18) rfl hw76 (Ins.self P5) ?_
      refine K.astoreN d12_18 (pc' := 19) rfl rfl (L' := #[vr s1, vr s2, vr s2]) rfl ?_
      refine K.gets d12_19 (pc' := 22) rfl (host := "") (Or.inl hw58) Via.refl (P2.ext P1.2) ?_
      refine K.if_eq d12_22 (pc1 := 25) rfl (by decide) (pc2 := 36) (by decide) (a := cs.toInt) rfl (fun c22 => ?_) (fun c22 => ?_)
      · exfalso; exact hcs c22
      · refine K.aloadN d12_25 (pc' := 26) rfl rfl rfl ?_
        refine K.getf d12_26 (pc' := 29) rfl (host := "") (Or.inl hw26) Via.refl P7 ?_
        refine K.aloadN d12_29 (pc' := 30) rfl rfl rfl ?_
        refine K.getf d12_30 (pc' := 33) rfl (host := "") (Or.inl hw26) Via.refl P9 ?_
        refine K.icmp_ne d12_33 (pc1 := 36) rfl (by decide) (pc2 := 54) (by decide) (a := 0) (b := 0) rfl rfl (fun c33 => ?_) (fun c33 => ?_)
        · exfalso; omega
        · refine K.aloadN d12_36 (pc' := 37) rfl rfl rfl ?_
          refine K.getf d12_37 (pc' := 40) rfl (host := "") (Or.inl hw25) Via.refl P8 ?_
          refine K.aloadN d12_40 (pc' := 41) rfl rfl rfl ?_
          refine K.getf d12_41 (pc' := 44) rfl (host := "") (Or.inl hw25) Via.refl P10 ?_
          refine K.calls (argsL := [(.ref d), (.ref e)]) (rest := []) d12_44 (pc' := 47) rfl (c_le1 l Z a0 hw n0 h (d := d) (e := e) (x0 := x0) (y0 := y0) P11 P12) hw77 hw78 hw79 hw80 (by decide) pd_6 rfl rfl (W := 0) (by simp [Value.category]) (by decide) (by decide) (by decide) (by decide) (fun v_3 h_1 q_2 => ?_)
          obtain ⟨rfl, rfl⟩ := q_2
          show G h 0 0 (mkF m 47 #[vr s1, vr s2, vr s2] [(.int (b2 (x0.toInt = y0.toInt)))])
          refine K.ifeqB d12_47 (pc1 := 50) rfl (by decide) (pc2 := 54) (by decide) (fun c47 => ?_) (fun c47 => ?_)
          · refine K.iconst d12_54 (pc' := 55) rfl (z := 0) rfl ?_
            exact K.retz d12_55 (Or.inl rfl) (by decide) (by decide) ⟨by rw [b2_f (by first | exact c47 | omega | simp_all)], rfl⟩
          · refine K.iconst d12_50 (pc' := 51) rfl (z := 1) rfl ?_
            refine K.goto d12_51 (by decide) (pc' := 55) (by decide) ?_
            exact K.retz d12_55 (Or.inr rfl) (by decide) (by decide) ⟨by rw [b2_t (by first | exact c47 | omega | simp_all)], rfl⟩
  · exfalso; exact P6 c2
set_option maxRecDepth 65536 in
set_option maxHeartbeats 40000000 in
theorem c_is1 (l : Launch) (Z : State) (a0 : Array Value) (hw : ∀ d ∈ tables_1, d.before a0 Z = true) (n0 : Nat) (h : Heap) (a : Addr) (ka : Addr) (kb : Addr) (cs : Int32) (s1 : Addr) (s2 : Addr) (d : Addr) (e : Addr) (x0 : Int32) (y0 : Int32) (P1 : Exa Z h a sT) (P2 : Fld Z h a sT "kind" dK (.ref ka)) (P3 : Fld Z h a sT "text" "Ljava/lang/String;" (.ref s1)) (P4 : Old Z n0 h) (P5 : Sta Z Z.heap sS "COMPACT_STRINGS" "Z" (.int cs)) (hcs : cs.toInt ≠ 0) (P7 : Exa Z h s1 sS) (P8 : Exa Z h s2 sS) (P9 : s1 ≠ s2) (P10 : Fld Z h s1 sS "coder" "B" (.int (0 : Int32))) (P11 : Fld Z h s1 sS "value" "[B" (.ref d)) (P12 : Fld Z h s2 sS "coder" "B" (.int (0 : Int32))) (P13 : Fld Z h s2 sS "value" "[B" (.ref e)) (P14 : Ary Z h d .byte [(.int x0)]) (P15 : Ary Z h e .byte [(.int y0)]) : MeetsW l Z n0 (⟨sT, "is", "(Lcom/example/ltl_to_omega/ltltoomega/hoa/HoaLexer$Kind;Ljava/lang/String;)Z"⟩ : MethodName) prog_64_method_2_code 3 (some .boolean) ({ frames := 2, cells := 0, slots := 0, locals := 28 } : Room) #[(.ref a), (.ref kb), (.ref s2)] h (fun v h' => v = some (.int (b2 (ka = kb ∧ (x0.toInt = y0.toInt)))) ∧ h = h') := by
  refine MeetsW.intro (plainFor_of_name pn_com_example_ltl_to_omega_ltltoomega_hoa_HoaLexer_Token) (L0 := #[vr a, vr kb, vr s2]) (fun m => by first | (simp [entryFrame, mkF, argsToLocals, Value.category]; done) | rfl) ?_
  intro m G K0
  have K : Cx l ({ frames := 2, cells := 0, slots := 0, locals := 28 } : Room) Z n0 _ sT "is" prog_64_method_2_code 3 (some .boolean) m G := K0
  have hw7 := hw _ (List.mem_of_getElem? (i := 7) rfl)
  have hw45 := hw _ (List.mem_of_getElem? (i := 45) rfl)
  have hw47 := hw _ (List.mem_of_getElem? (i := 47) rfl)
  have hw71 := hw _ (List.mem_of_getElem? (i := 71) rfl)
  have hw72 := hw _ (List.mem_of_getElem? (i := 72) rfl)
  have hw73 := hw _ (List.mem_of_getElem? (i := 73) rfl)
  have hw74 := hw _ (List.mem_of_getElem? (i := 74) rfl)
  have hw75 := hw _ (List.mem_of_getElem? (i := 75) rfl)
  refine K.aloadN d8_0 (pc' := 1) rfl rfl rfl ?_
  refine K.getf d8_1 (pc' := 4) rfl (host := "") (Or.inl hw45) Via.refl P2 ?_
  refine K.aloadN d8_4 (pc' := 5) rfl rfl rfl ?_
  refine K.acmpNe d8_5 (pc1 := 8) rfl (by decide) (pc2 := 23) (by decide) (fun c5 => ?_) (fun c5 => ?_)
  · refine K.iconst d8_23 (pc' := 24) rfl (z := 0) rfl ?_
    exact K.retz d8_24 (Or.inl rfl) (by decide) (by decide) ⟨by rw [b2_f (by first | exact ⟨c5, c16⟩ | exact fun q => c16 q.2 | exact fun q => c5 q.1)], rfl⟩
  · refine K.aloadN d8_8 (pc' := 9) rfl rfl rfl ?_
    refine K.getf d8_9 (pc' := 12) rfl (host := "") (Or.inl hw47) Via.refl P3 ?_
    refine K.aloadN d8_12 (pc' := 13) rfl rfl rfl ?_
    refine K.callv (z := (⟨sS, "equals", "(Ljava/lang/Object;)Z"⟩ : MethodName)) (argsL := [(.ref s2)]) (rest := []) d8_13 (pc' := 16) rfl (c_se1 l Z a0 hw n0 h (cs := cs) (s1 := s1) (s2 := s2) (d := d) (e := e) (x0 := x0) (y0 := y0) P4 P5 hcs P7 P8 P9 P10 P11 P12 P13 P14 P15) P7 hw71 hw72 (nf_sel hw74 rfl) hw74 hw73 hw7 hw75 (by decide) pd_7 rfl rfl (W := 0) (by simp [Value.category]) (by decide) (by decide) (by decide) (by decide) (fun v_3 h_1 q_2 => ?_)
    obtain ⟨rfl, rfl⟩ := q_2
    show G h 0 0 (mkF m 16 #[vr a, vr kb, vr s2] [(.int (b2 (x0.toInt = y0.toInt)))])
    refine K.ifeqB d8_16 (pc1 := 19) rfl (by decide) (pc2 := 23) (by decide) (fun c16 => ?_) (fun c16 => ?_)
    · refine K.iconst d8_23 (pc' := 24) rfl (z := 0) rfl ?_
      exact K.retz d8_24 (Or.inl rfl) (by decide) (by decide) ⟨by rw [b2_f (by first | exact ⟨c5, c16⟩ | exact fun q => c16 q.2 | exact fun q => c5 q.1)], rfl⟩
    · refine K.iconst d8_19 (pc' := 20) rfl (z := 1) rfl ?_
      refine K.goto d8_20 (by decide) (pc' := 24) (by decide) ?_
      exact K.retz d8_24 (Or.inr rfl) (by decide) (by decide) ⟨by rw [b2_t (by first | exact ⟨c5, c16⟩ | exact fun q => c16 q.2 | exact fun q => c5 q.1)], rfl⟩
set_option maxRecDepth 65536 in
set_option maxHeartbeats 40000000 in
theorem c_le2 (l : Launch) (Z : State) (a0 : Array Value) (hw : ∀ d ∈ tables_1, d.before a0 Z = true) (n0 : Nat) (h : Heap) (d : Addr) (e : Addr) (x0 : Int32) (x1 : Int32) (y0 : Int32) (y1 : Int32) (P1 : Ary Z h d .byte [(.int x0), (.int x1)]) (P2 : Ary Z h e .byte [(.int y0), (.int y1)]) : MeetsW l Z n0 (⟨"java/lang/StringLatin1", "equals", "([B[B)Z"⟩ : MethodName) jdk_43_method_13_code 3 (some .boolean) ({ frames := 0, cells := 0, slots := 0, locals := 0 } : Room) #[(.ref d), (.ref e)] h (fun v h' => v = some (.int (b2 (x0.toInt = y0.toInt ∧ x1.toInt = y1.toInt))) ∧ h = h') := by
  refine MeetsW.intro (plainFor_of_name pn_java_lang_StringLatin1) (L0 := #[vr d, vr e, .unset]) (fun m => by first | (simp [entryFrame, mkF, argsToLocals, Value.category]; done) | rfl) ?_
  intro m G K0
  have K : Cx l ({ frames := 0, cells := 0, slots := 0, locals := 0 } : Room) Z n0 _ "java/lang/StringLatin1" "equals" jdk_43_method_13_code 3 (some .boolean) m G := K0
  refine K.aloadN d13_0 (pc' := 1) rfl rfl rfl ?_
  refine K.alen d13_1 (pc' := 2) rfl P1 (fun z1 e_z1 => ?_)
  have t_z1 : z1.toInt = 2 := e_z1
  refine K.aloadN d13_2 (pc' := 3) rfl rfl rfl ?_
  refine K.alen d13_3 (pc' := 4) rfl P2 (fun z3 e_z3 => ?_)
  have t_z3 : z3.toInt = 2 := e_z3
  refine K.icmp_ne d13_4 (pc1 := 7) rfl (by decide) (pc2 := 34) (by decide) (a := z1.toInt) (b := z3.toInt) rfl rfl (fun c4 => ?_) (fun c4 => ?_)
  · exfalso; omega
  · refine K.iconst d13_7 (pc' := 8) rfl (z := 0) rfl ?_
    refine K.istoreN d13_8 (pc' := 9) rfl (L' := #[vr d, vr e, vi 0]) rfl ?_
    refine K.iloadN d13_9 (pc' := 10) rfl rfl ?_
    refine K.aloadN d13_10 (pc' := 11) rfl rfl rfl ?_
    refine K.alen d13_11 (pc' := 12) rfl P1 (fun z11 e_z11 => ?_)
    have t_z11 : z11.toInt = 2 := e_z11
    refine K.icmp_ge d13_12 (pc1 := 15) rfl (by decide) (pc2 := 32) (by decide) (a := 0) (b := z11.toInt) rfl rfl (fun c12 => ?_) (fun c12 => ?_)
    · exfalso; (have o0 : (0 : Int32).toInt = 0 := rfl; have o1 : (1 : Int32).toInt = 1 := rfl; have o2 : (2 : Int32).toInt = 2 := rfl; omega)
    · refine K.aloadN d13_15 (pc' := 16) rfl rfl rfl ?_
      refine K.iloadN d13_16 (pc' := 17) rfl rfl ?_
      refine K.bald d13_17 (pc' := 18) rfl P1 (i := 0) rfl rfl ?_
      refine K.aloadN d13_18 (pc' := 19) rfl rfl rfl ?_
      refine K.iloadN d13_19 (pc' := 20) rfl rfl ?_
      refine K.bald d13_20 (pc' := 21) rfl P2 (i := 0) rfl rfl ?_
      refine K.icmp_eq d13_21 (pc1 := 24) rfl (by decide) (pc2 := 26) (by decide) (a := x0.toInt) (b := y0.toInt) rfl rfl (fun c21 => ?_) (fun c21 => ?_)
      · refine K.iinc d13_26 (pc' := 29) rfl rfl (z := (1 : Int32)) rfl (L' := #[vr d, vr e, vi 1]) rfl ?_
        refine K.goto d13_29 (by decide) (pc' := 9) (by decide) ?_
        refine K.iloadN d13_9 (pc' := 10) rfl rfl ?_
        refine K.aloadN d13_10 (pc' := 11) rfl rfl rfl ?_
        refine K.alen d13_11 (pc' := 12) rfl P1 (fun z11_1 e_z11_1 => ?_)
        have t_z11_1 : z11_1.toInt = 2 := e_z11_1
        refine K.icmp_ge d13_12 (pc1 := 15) rfl (by decide) (pc2 := 32) (by decide) (a := 1) (b := z11_1.toInt) rfl rfl (fun c12_1 => ?_) (fun c12_1 => ?_)
        · exfalso; (have o0 : (0 : Int32).toInt = 0 := rfl; have o1 : (1 : Int32).toInt = 1 := rfl; have o2 : (2 : Int32).toInt = 2 := rfl; omega)
        · refine K.aloadN d13_15 (pc' := 16) rfl rfl rfl ?_
          refine K.iloadN d13_16 (pc' := 17) rfl rfl ?_
          refine K.bald d13_17 (pc' := 18) rfl P1 (i := 1) rfl rfl ?_
          refine K.aloadN d13_18 (pc' := 19) rfl rfl rfl ?_
          refine K.iloadN d13_19 (pc' := 20) rfl rfl ?_
          refine K.bald d13_20 (pc' := 21) rfl P2 (i := 1) rfl rfl ?_
          refine K.icmp_eq d13_21 (pc1 := 24) rfl (by decide) (pc2 := 26) (by decide) (a := x1.toInt) (b := y1.toInt) rfl rfl (fun c21_1 => ?_) (fun c21_1 => ?_)
          · refine K.iinc d13_26 (pc' := 29) rfl rfl (z := (2 : Int32)) rfl (L' := #[vr d, vr e, vi 2]) rfl ?_
            refine K.goto d13_29 (by decide) (pc' := 9) (by decide) ?_
            refine K.iloadN d13_9 (pc' := 10) rfl rfl ?_
            refine K.aloadN d13_10 (pc' := 11) rfl rfl rfl ?_
            refine K.alen d13_11 (pc' := 12) rfl P1 (fun z11_2 e_z11_2 => ?_)
            have t_z11_2 : z11_2.toInt = 2 := e_z11_2
            refine K.icmp_ge d13_12 (pc1 := 15) rfl (by decide) (pc2 := 32) (by decide) (a := 2) (b := z11_2.toInt) rfl rfl (fun c12_2 => ?_) (fun c12_2 => ?_)
            · refine K.iconst d13_32 (pc' := 33) rfl (z := 1) rfl ?_
              exact K.retz d13_33 (Or.inr rfl) (by decide) (by decide) ⟨by rw [b2_t (by first | omega | simp)], rfl⟩
            · exfalso; (have o0 : (0 : Int32).toInt = 0 := rfl; have o1 : (1 : Int32).toInt = 1 := rfl; have o2 : (2 : Int32).toInt = 2 := rfl; omega)
          · refine K.iconst d13_24 (pc' := 25) rfl (z := 0) rfl ?_
            exact K.retz d13_25 (Or.inl rfl) (by decide) (by decide) ⟨by rw [b2_f (by first | omega | simp)], rfl⟩
      · refine K.iconst d13_24 (pc' := 25) rfl (z := 0) rfl ?_
        exact K.retz d13_25 (Or.inl rfl) (by decide) (by decide) ⟨by rw [b2_f (by first | omega | simp)], rfl⟩
set_option maxRecDepth 65536 in
set_option maxHeartbeats 40000000 in
theorem c_se2 (l : Launch) (Z : State) (a0 : Array Value) (hw : ∀ d ∈ tables_1, d.before a0 Z = true) (n0 : Nat) (h : Heap) (cs : Int32) (s1 : Addr) (s2 : Addr) (d : Addr) (e : Addr) (x0 : Int32) (x1 : Int32) (y0 : Int32) (y1 : Int32) (P1 : Old Z n0 h) (P2 : Sta Z Z.heap sS "COMPACT_STRINGS" "Z" (.int cs)) (hcs : cs.toInt ≠ 0) (P4 : Exa Z h s1 sS) (P5 : Exa Z h s2 sS) (P6 : s1 ≠ s2) (P7 : Fld Z h s1 sS "coder" "B" (.int (0 : Int32))) (P8 : Fld Z h s1 sS "value" "[B" (.ref d)) (P9 : Fld Z h s2 sS "coder" "B" (.int (0 : Int32))) (P10 : Fld Z h s2 sS "value" "[B" (.ref e)) (P11 : Ary Z h d .byte [(.int x0), (.int x1)]) (P12 : Ary Z h e .byte [(.int y0), (.int y1)]) : MeetsW l Z n0 (⟨sS, "equals", "(Ljava/lang/Object;)Z"⟩ : MethodName) jdk_42_method_66_code 3 (some .boolean) ({ frames := 1, cells := 0, slots := 0, locals := 14 } : Room) #[(.ref s1), (.ref s2)] h (fun v h' => v = some (.int (b2 (x0.toInt = y0.toInt ∧ x1.toInt = y1.toInt))) ∧ h = h') := by
  refine MeetsW.intro (plainFor_of_name pn_java_lang_String) (L0 := #[vr s1, vr s2, .unset]) (fun m => by first | (simp [entryFrame, mkF, argsToLocals, Value.category]; done) | rfl) ?_
  intro m G K0
  have K : Cx l ({ frames := 1, cells := 0, slots := 0, locals := 14 } : Room) Z n0 _ sS "equals" jdk_42_method_66_code 3 (some .boolean) m G := K0
  have hw25 := hw _ (List.mem_of_getElem? (i := 25) rfl)
  have hw26 := hw _ (List.mem_of_getElem? (i := 26) rfl)
  have hw58 := hw _ (List.mem_of_getElem? (i := 58) rfl)
  have hw76 := hw _ (List.mem_of_getElem? (i := 76) rfl)
  have hw77 := hw _ (List.mem_of_getElem? (i := 77) rfl)
  have hw78 := hw _ (List.mem_of_getElem? (i := 78) rfl)
  have hw79 := hw _ (List.mem_of_getElem? (i := 79) rfl)
  have hw80 := hw _ (List.mem_of_getElem? (i := 80) rfl)
  refine K.aloadN d12_0 (pc' := 1) rfl rfl rfl ?_
  refine K.aloadN d12_1 (pc' := 2) rfl rfl rfl ?_
  refine K.acmpNe d12_2 (pc1 := 5) rfl (by decide) (pc2 := 7) (by decide) (fun c2 => ?_) (fun c2 => ?_)
  · refine K.aloadN d12_7 (pc' := 8) rfl rfl rfl ?_
    refine K.inst d12_8 (pc' := 11) rfl hw76 (Ins.self P5) ?_
    refine K.if_eq d12_11 (pc1 := 14) rfl (by decide) (pc2 := 54) (by decide) (a := 1) rfl (fun c11 => ?_) (fun c11 => ?_)
    · exfalso; omega
    · refine K.aloadN d12_14 (pc' := 15) rfl rfl rfl ?_
      refine K.ccast d12_15 (pc' := 18) rfl hw76 (Ins.self P5) ?_
      refine K.astoreN d12_18 (pc' := 19) rfl rfl (L' := #[vr s1, vr s2, vr s2]) rfl ?_
      refine K.gets d12_19 (pc' := 22) rfl (host := "") (Or.inl hw58) Via.refl (P2.ext P1.2) ?_
      refine K.if_eq d12_22 (pc1 := 25) rfl (by decide) (pc2 := 36) (by decide) (a := cs.toInt) rfl (fun c22 => ?_) (fun c22 => ?_)
      · exfalso; exact hcs c22
      · refine K.aloadN d12_25 (pc' := 26) rfl rfl rfl ?_
        refine K.getf d12_26 (pc' := 29) rfl (host := "") (Or.inl hw26) Via.refl P7 ?_
        refine K.aloadN d12_29 (pc' := 30) rfl rfl rfl ?_
        refine K.getf d12_30 (pc' := 33) rfl (host := "") (Or.inl hw26) Via.refl P9 ?_
        refine K.icmp_ne d12_33 (pc1 := 36) rfl (by decide) (pc2 := 54) (by decide) (a := 0) (b := 0) rfl rfl (fun c33 => ?_) (fun c33 => ?_)
        · exfalso; omega
        · refine K.aloadN d12_36 (pc' := 37) rfl rfl rfl ?_
          refine K.getf d12_37 (pc' := 40) rfl (host := "") (Or.inl hw25) Via.refl P8 ?_
          refine K.aloadN d12_40 (pc' := 41) rfl rfl rfl ?_
          refine K.getf d12_41 (pc' := 44) rfl (host := "") (Or.inl hw25) Via.refl P10 ?_
          refine K.calls (argsL := [(.ref d), (.ref e)]) (rest := []) d12_44 (pc' := 47) rfl (c_le2 l Z a0 hw n0 h (d := d) (e := e) (x0 := x0) (x1 := x1) (y0 := y0) (y1 := y1) P11 P12) hw77 hw78 hw79 hw80 (by decide) pd_6 rfl rfl (W := 0) (by simp [Value.category]) (by decide) (by decide) (by decide) (by decide) (fun v_3 h_1 q_2 => ?_)
          obtain ⟨rfl, rfl⟩ := q_2
          show G h 0 0 (mkF m 47 #[vr s1, vr s2, vr s2] [(.int (b2 (x0.toInt = y0.toInt ∧ x1.toInt = y1.toInt)))])
          refine K.ifeqB d12_47 (pc1 := 50) rfl (by decide) (pc2 := 54) (by decide) (fun c47 => ?_) (fun c47 => ?_)
          · refine K.iconst d12_54 (pc' := 55) rfl (z := 0) rfl ?_
            exact K.retz d12_55 (Or.inl rfl) (by decide) (by decide) ⟨by rw [b2_f (by first | exact c47 | omega | simp_all)], rfl⟩
          · refine K.iconst d12_50 (pc' := 51) rfl (z := 1) rfl ?_
            refine K.goto d12_51 (by decide) (pc' := 55) (by decide) ?_
            exact K.retz d12_55 (Or.inr rfl) (by decide) (by decide) ⟨by rw [b2_t (by first | exact c47 | omega | simp_all)], rfl⟩
  · exfalso; exact P6 c2
set_option maxRecDepth 65536 in
set_option maxHeartbeats 40000000 in
theorem c_is2 (l : Launch) (Z : State) (a0 : Array Value) (hw : ∀ d ∈ tables_1, d.before a0 Z = true) (n0 : Nat) (h : Heap) (a : Addr) (ka : Addr) (kb : Addr) (cs : Int32) (s1 : Addr) (s2 : Addr) (d : Addr) (e : Addr) (x0 : Int32) (x1 : Int32) (y0 : Int32) (y1 : Int32) (P1 : Exa Z h a sT) (P2 : Fld Z h a sT "kind" dK (.ref ka)) (P3 : Fld Z h a sT "text" "Ljava/lang/String;" (.ref s1)) (P4 : Old Z n0 h) (P5 : Sta Z Z.heap sS "COMPACT_STRINGS" "Z" (.int cs)) (hcs : cs.toInt ≠ 0) (P7 : Exa Z h s1 sS) (P8 : Exa Z h s2 sS) (P9 : s1 ≠ s2) (P10 : Fld Z h s1 sS "coder" "B" (.int (0 : Int32))) (P11 : Fld Z h s1 sS "value" "[B" (.ref d)) (P12 : Fld Z h s2 sS "coder" "B" (.int (0 : Int32))) (P13 : Fld Z h s2 sS "value" "[B" (.ref e)) (P14 : Ary Z h d .byte [(.int x0), (.int x1)]) (P15 : Ary Z h e .byte [(.int y0), (.int y1)]) : MeetsW l Z n0 (⟨sT, "is", "(Lcom/example/ltl_to_omega/ltltoomega/hoa/HoaLexer$Kind;Ljava/lang/String;)Z"⟩ : MethodName) prog_64_method_2_code 3 (some .boolean) ({ frames := 2, cells := 0, slots := 0, locals := 28 } : Room) #[(.ref a), (.ref kb), (.ref s2)] h (fun v h' => v = some (.int (b2 (ka = kb ∧ (x0.toInt = y0.toInt ∧ x1.toInt = y1.toInt)))) ∧ h = h') := by
  refine MeetsW.intro (plainFor_of_name pn_com_example_ltl_to_omega_ltltoomega_hoa_HoaLexer_Token) (L0 := #[vr a, vr kb, vr s2]) (fun m => by first | (simp [entryFrame, mkF, argsToLocals, Value.category]; done) | rfl) ?_
  intro m G K0
  have K : Cx l ({ frames := 2, cells := 0, slots := 0, locals := 28 } : Room) Z n0 _ sT "is" prog_64_method_2_code 3 (some .boolean) m G := K0
  have hw7 := hw _ (List.mem_of_getElem? (i := 7) rfl)
  have hw45 := hw _ (List.mem_of_getElem? (i := 45) rfl)
  have hw47 := hw _ (List.mem_of_getElem? (i := 47) rfl)
  have hw71 := hw _ (List.mem_of_getElem? (i := 71) rfl)
  have hw72 := hw _ (List.mem_of_getElem? (i := 72) rfl)
  have hw73 := hw _ (List.mem_of_getElem? (i := 73) rfl)
  have hw74 := hw _ (List.mem_of_getElem? (i := 74) rfl)
  have hw75 := hw _ (List.mem_of_getElem? (i := 75) rfl)
  refine K.aloadN d8_0 (pc' := 1) rfl rfl rfl ?_
  refine K.getf d8_1 (pc' := 4) rfl (host := "") (Or.inl hw45) Via.refl P2 ?_
  refine K.aloadN d8_4 (pc' := 5) rfl rfl rfl ?_
  refine K.acmpNe d8_5 (pc1 := 8) rfl (by decide) (pc2 := 23) (by decide) (fun c5 => ?_) (fun c5 => ?_)
  · refine K.iconst d8_23 (pc' := 24) rfl (z := 0) rfl ?_
    exact K.retz d8_24 (Or.inl rfl) (by decide) (by decide) ⟨by rw [b2_f (by first | exact ⟨c5, c16⟩ | exact fun q => c16 q.2 | exact fun q => c5 q.1)], rfl⟩
  · refine K.aloadN d8_8 (pc' := 9) rfl rfl rfl ?_
    refine K.getf d8_9 (pc' := 12) rfl (host := "") (Or.inl hw47) Via.refl P3 ?_
    refine K.aloadN d8_12 (pc' := 13) rfl rfl rfl ?_
    refine K.callv (z := (⟨sS, "equals", "(Ljava/lang/Object;)Z"⟩ : MethodName)) (argsL := [(.ref s2)]) (rest := []) d8_13 (pc' := 16) rfl (c_se2 l Z a0 hw n0 h (cs := cs) (s1 := s1) (s2 := s2) (d := d) (e := e) (x0 := x0) (x1 := x1) (y0 := y0) (y1 := y1) P4 P5 hcs P7 P8 P9 P10 P11 P12 P13 P14 P15) P7 hw71 hw72 (nf_sel hw74 rfl) hw74 hw73 hw7 hw75 (by decide) pd_7 rfl rfl (W := 0) (by simp [Value.category]) (by decide) (by decide) (by decide) (by decide) (fun v_3 h_1 q_2 => ?_)
    obtain ⟨rfl, rfl⟩ := q_2
    show G h 0 0 (mkF m 16 #[vr a, vr kb, vr s2] [(.int (b2 (x0.toInt = y0.toInt ∧ x1.toInt = y1.toInt)))])
    refine K.ifeqB d8_16 (pc1 := 19) rfl (by decide) (pc2 := 23) (by decide) (fun c16 => ?_) (fun c16 => ?_)
    · refine K.iconst d8_23 (pc' := 24) rfl (z := 0) rfl ?_
      exact K.retz d8_24 (Or.inl rfl) (by decide) (by decide) ⟨by rw [b2_f (by first | exact ⟨c5, c16⟩ | exact fun q => c16 q.2 | exact fun q => c5 q.1)], rfl⟩
    · refine K.iconst d8_19 (pc' := 20) rfl (z := 1) rfl ?_
      refine K.goto d8_20 (by decide) (pc' := 24) (by decide) ?_
      exact K.retz d8_24 (Or.inr rfl) (by decide) (by decide) ⟨by rw [b2_t (by first | exact ⟨c5, c16⟩ | exact fun q => c16 q.2 | exact fun q => c5 q.1)], rfl⟩
theorem kin {kf : Nat → Addr} (hinj : ∀ i j, i < 10 → j < 10 → kf i = kf j → i = j) {s t : Int32} (hs : 0 ≤ s.toInt ∧ s.toInt ≤ 9) (ht : 0 ≤ t.toInt ∧ t.toInt ≤ 9) : kf s.toInt.toNat = kf t.toInt.toNat ↔ s.toInt = t.toInt := by
  constructor
  · intro q
    have := hinj _ _ (by omega) (by omega) q
    omega
  · intro q; rw [q]
theorem bin {s t : Int32} (hs : 0 ≤ s.toInt ∧ s.toInt ≤ 255) (ht : 0 ≤ t.toInt ∧ t.toInt ≤ 255) : s.toInt8.toInt32.toInt = t.toInt8.toInt32.toInt ↔ s.toInt = t.toInt := by
  have q1 := c_i2b s
  have q2 := c_i2b t
  omega
theorem iff0 {kf : Nat → Addr} (hinj : ∀ i j, i < 10 → j < 10 → kf i = kf j → i = j) {s t : Int32} (hs : 0 ≤ s.toInt ∧ s.toInt ≤ 9) (ht : 0 ≤ t.toInt ∧ t.toInt ≤ 9) : (kf s.toInt.toNat = kf t.toInt.toNat ∧ True) ↔ s.toInt = t.toInt := by rw [and_true]; exact kin hinj hs ht
theorem iff1 {kf : Nat → Addr} (hinj : ∀ i j, i < 10 → j < 10 → kf i = kf j → i = j) {s t : Int32} (hs : 0 ≤ s.toInt ∧ s.toInt ≤ 9) (ht : 0 ≤ t.toInt ∧ t.toInt ≤ 9) {c0 e0 : Int32} (g : 0 ≤ c0.toInt ∧ c0.toInt ≤ 255) (g' : 0 ≤ e0.toInt ∧ e0.toInt ≤ 255) : (kf s.toInt.toNat = kf t.toInt.toNat ∧ c0.toInt8.toInt32.toInt = e0.toInt8.toInt32.toInt) ↔ (s.toInt = t.toInt ∧ c0.toInt = e0.toInt) := and_congr (kin hinj hs ht) (bin g g')
theorem iff2 {kf : Nat → Addr} (hinj : ∀ i j, i < 10 → j < 10 → kf i = kf j → i = j) {s t : Int32} (hs : 0 ≤ s.toInt ∧ s.toInt ≤ 9) (ht : 0 ≤ t.toInt ∧ t.toInt ≤ 9) {c0 e0 c1 e1 : Int32} (g : 0 ≤ c0.toInt ∧ c0.toInt ≤ 255) (g' : 0 ≤ e0.toInt ∧ e0.toInt ≤ 255) (f : 0 ≤ c1.toInt ∧ c1.toInt ≤ 255) (f' : 0 ≤ e1.toInt ∧ e1.toInt ≤ 255) : (kf s.toInt.toNat = kf t.toInt.toNat ∧ (c0.toInt8.toInt32.toInt = e0.toInt8.toInt32.toInt ∧ c1.toInt8.toInt32.toInt = e1.toInt8.toInt32.toInt)) ↔ (s.toInt = t.toInt ∧ c0.toInt = e0.toInt ∧ c1.toInt = e1.toInt) := and_congr (kin hinj hs ht) (and_congr (bin g g') (bin f f'))
theorem not_zero {args : Array Value} {s : State} {t : Term} {cs : Int32} (e : t.eval args s none [] s = some (.int cs)) (r : (Cond.not (Cond.eq t (Term.int 0))).value args s none s [] = some true) : cs.toInt ≠ 0 := by
  intro q
  have q0 : cs = 0 := Int32.toInt_inj.mp (by rw [q]; rfl)
  subst q0
  simp [Cond.value, Term.eval, e] at r
theorem st_ord {args : Array Value} {s : State} {t : Term} {k : Addr} {z : Int32} (e : t.eval args s none [] s = some (.ref k)) (h : (Cond.eq (Term.field t "java/lang/Enum" "ordinal" "I") (Term.int z)).value args s none s [] = some true) : s.fieldOf? k "java/lang/Enum" "ordinal" "I" = some (.int z) := by
  have q := eqv_i (y := z) (Term.int_eval _) h
  simpa [Term.eval, e] using q
theorem st_start {args : Array Value} {s : State} (hw : ∀ d ∈ tables_1, d.before args s = true) (hrest : rest_1_c.before args s = true) (hn : narrow_1.value args s none s [] = some true) :
    ∃ (cs : Int32) (kf : Nat → Addr), cs.toInt ≠ 0 ∧ Jvm.Lit.compactW.before args s = true ∧ (∀ i j, i < 10 → j < 10 → kf i = kf j → i = j) ∧ Sta s s.heap sS "COMPACT_STRINGS" "Z" (.int cs) ∧ Sta s s.heap sK "HEADER" dK (.ref (kf 0)) ∧ Sta s s.heap sK "IDENTIFIER" dK (.ref (kf 1)) ∧ Sta s s.heap sK "INTEGER" dK (.ref (kf 2)) ∧ Sta s s.heap sK "STRING" dK (.ref (kf 3)) ∧ Sta s s.heap sK "ALIAS" dK (.ref (kf 4)) ∧ Sta s s.heap sK "SYMBOL" dK (.ref (kf 5)) ∧ Sta s s.heap sK "BODY" dK (.ref (kf 6)) ∧ Sta s s.heap sK "END" dK (.ref (kf 7)) ∧ Sta s s.heap sK "ABORT" dK (.ref (kf 8)) ∧ Sta s s.heap sK "END_OF_FILE" dK (.ref (kf 9)) := by
  obtain ⟨r1, q1⟩ := and_e (Cond.before_iff.mp hrest)
  obtain ⟨r2, q2⟩ := and_e q1
  obtain ⟨r3, -⟩ := and_e q2
  obtain ⟨cs, ecs⟩ := is_v r2
  have hcs : cs.toInt ≠ 0 := not_zero ecs r3
  obtain ⟨x0, n0⟩ := and_e hn
  obtain ⟨x3, n1⟩ := and_e n0
  obtain ⟨o0, n2⟩ := and_e n1
  obtain ⟨o3, n3⟩ := and_e n2
  obtain ⟨x4, n4⟩ := and_e n3
  obtain ⟨o4, n5⟩ := and_e n4
  obtain ⟨x8, n6⟩ := and_e n5
  obtain ⟨x9, n7⟩ := and_e n6
  obtain ⟨o8, n8⟩ := and_e n7
  obtain ⟨o9, n9⟩ := and_e n8
  obtain ⟨x5, n10⟩ := and_e n9
  obtain ⟨x2, n11⟩ := and_e n10
  obtain ⟨o2, n12⟩ := and_e n11
  obtain ⟨o5, n13⟩ := and_e n12
  obtain ⟨x7, n14⟩ := and_e n13
  obtain ⟨o7, n15⟩ := and_e n14
  obtain ⟨x1, n16⟩ := and_e n15
  obtain ⟨o1, n17⟩ := and_e n16
  obtain ⟨x6, n18⟩ := and_e n17
  have o6 := n18
  obtain ⟨k0, e0⟩ := exa_v x0
  have f0 := st_ord e0 o0
  obtain ⟨k1, e1⟩ := exa_v x1
  have f1 := st_ord e1 o1
  obtain ⟨k2, e2⟩ := exa_v x2
  have f2 := st_ord e2 o2
  obtain ⟨k3, e3⟩ := exa_v x3
  have f3 := st_ord e3 o3
  obtain ⟨k4, e4⟩ := exa_v x4
  have f4 := st_ord e4 o4
  obtain ⟨k5, e5⟩ := exa_v x5
  have f5 := st_ord e5 o5
  obtain ⟨k6, e6⟩ := exa_v x6
  have f6 := st_ord e6 o6
  obtain ⟨k7, e7⟩ := exa_v x7
  have f7 := st_ord e7 o7
  obtain ⟨k8, e8⟩ := exa_v x8
  have f8 := st_ord e8 o8
  obtain ⟨k9, e9⟩ := exa_v x9
  have f9 := st_ord e9 o9
  have hf : ∀ i, i < 10 → s.fieldOf? ([k0, k1, k2, k3, k4, k5, k6, k7, k8, k9].getD i 0) "java/lang/Enum" "ordinal" "I" = some (.int (Int32.ofNat i)) := by
    intro i hi
    have c : i = 0 ∨ i = 1 ∨ i = 2 ∨ i = 3 ∨ i = 4 ∨ i = 5 ∨ i = 6 ∨ i = 7 ∨ i = 8 ∨ i = 9 := by omega
    rcases c with rfl | rfl | rfl | rfl | rfl | rfl | rfl | rfl | rfl | rfl
    · exact f0
    · exact f1
    · exact f2
    · exact f3
    · exact f4
    · exact f5
    · exact f6
    · exact f7
    · exact f8
    · exact f9
  have hd : ∀ a b : Fin 10, Int32.ofNat a.val = Int32.ofNat b.val → a = b := by decide
  refine ⟨cs, fun i => [k0, k1, k2, k3, k4, k5, k6, k7, k8, k9].getD i 0, hcs, Cond.before_iff.mpr r3, ?_, Sta.start ecs (Or.inl (Cond.before_iff.mpr r1)), Sta.start e0 (Or.inr ⟨hw _ (List.mem_of_getElem? (i := 34) rfl), hw _ (List.mem_of_getElem? (i := 35) rfl)⟩), Sta.start e1 (Or.inr ⟨hw _ (List.mem_of_getElem? (i := 34) rfl), hw _ (List.mem_of_getElem? (i := 92) rfl)⟩), Sta.start e2 (Or.inr ⟨hw _ (List.mem_of_getElem? (i := 34) rfl), hw _ (List.mem_of_getElem? (i := 88) rfl)⟩), Sta.start e3 (Or.inr ⟨hw _ (List.mem_of_getElem? (i := 34) rfl), hw _ (List.mem_of_getElem? (i := 52) rfl)⟩), Sta.start e4 (Or.inr ⟨hw _ (List.mem_of_getElem? (i := 34) rfl), hw _ (List.mem_of_getElem? (i := 70) rfl)⟩), Sta.start e5 (Or.inr ⟨hw _ (List.mem_of_getElem? (i := 34) rfl), hw _ (List.mem_of_getElem? (i := 86) rfl)⟩), Sta.start e6 (Or.inr ⟨hw _ (List.mem_of_getElem? (i := 34) rfl), hw _ (List.mem_of_getElem? (i := 94) rfl)⟩), Sta.start e7 (Or.inr ⟨hw _ (List.mem_of_getElem? (i := 34) rfl), hw _ (List.mem_of_getElem? (i := 90) rfl)⟩), Sta.start e8 (Or.inr ⟨hw _ (List.mem_of_getElem? (i := 34) rfl), hw _ (List.mem_of_getElem? (i := 82) rfl)⟩), Sta.start e9 (Or.inr ⟨hw _ (List.mem_of_getElem? (i := 34) rfl), hw _ (List.mem_of_getElem? (i := 84) rfl)⟩)⟩
  intro i j hi hj q
  have g1 := hf i hi
  rw [show [k0, k1, k2, k3, k4, k5, k6, k7, k8, k9].getD i 0 = [k0, k1, k2, k3, k4, k5, k6, k7, k8, k9].getD j 0 from q, hf j hj] at g1
  have g2 : Int32.ofNat j = Int32.ofNat i := by
    have := Option.some.inj g1
    simpa using this
  have g3 := hd ⟨j, hj⟩ ⟨i, hi⟩ g2
  exact (congrArg Fin.val g3).symm
theorem pd_8 : parseMethodDescriptor "(ICC)Ljava/lang/String;" = some ⟨[.int, .char, .char], some (.object sS)⟩ := by decide +kernel
theorem pd_9 : parseMethodDescriptor "(I)Lcom/example/ltl_to_omega/ltltoomega/hoa/HoaLexer$Kind;" = some ⟨[.int], some (.object sK)⟩ := by decide +kernel
theorem pd_10 : parseMethodDescriptor "(Lcom/example/ltl_to_omega/ltltoomega/hoa/HoaLexer$Kind;Ljava/lang/String;I)V" = some ⟨[(.object sK), (.object sS), .int], none⟩ := by decide +kernel
theorem pd_11 : parseMethodDescriptor "(Lcom/example/ltl_to_omega/ltltoomega/hoa/HoaLexer$Kind;Ljava/lang/String;)Z" = some ⟨[(.object sK), (.object sS)], some .boolean⟩ := by decide +kernel
set_option maxRecDepth 65536 in
set_option maxHeartbeats 40000000 in
theorem c_law (l : Launch) (Z : State) (a0 : Array Value) (hw : ∀ d ∈ tables_1, d.before a0 Z = true) (n0 : Nat) (h : Heap) (k1 : Int32) (k2 : Int32) (a : Int32) (b : Int32) (sh : Int32) (ix : Int32) (cs : Int32) (kf : Nat → Addr) (Z0 : n0 ≤ h.size) (P2 : Old Z n0 h) (P3 : Sta Z Z.heap sS "COMPACT_STRINGS" "Z" (.int cs)) (hcs : cs.toInt ≠ 0) (P5 : Sta Z Z.heap sK "HEADER" dK (.ref (kf 0))) (P6 : Sta Z Z.heap sK "IDENTIFIER" dK (.ref (kf 1))) (P7 : Sta Z Z.heap sK "INTEGER" dK (.ref (kf 2))) (P8 : Sta Z Z.heap sK "STRING" dK (.ref (kf 3))) (P9 : Sta Z Z.heap sK "ALIAS" dK (.ref (kf 4))) (P10 : Sta Z Z.heap sK "SYMBOL" dK (.ref (kf 5))) (P11 : Sta Z Z.heap sK "BODY" dK (.ref (kf 6))) (P12 : Sta Z Z.heap sK "END" dK (.ref (kf 7))) (P13 : Sta Z Z.heap sK "ABORT" dK (.ref (kf 8))) (P14 : Sta Z Z.heap sK "END_OF_FILE" dK (.ref (kf 9))) (hh : Jvm.Lit.constHeld Z sS 7) (hcw : Jvm.Lit.compactW.before a0 Z = true) (hinj : ∀ i j, i < 10 → j < 10 → kf i = kf j → i = j) : Jvm.Wv.MeetsV l Z n0 x code maxLocals ret room_1 #[(.int k1), (.int k2), (.int a), (.int b), (.int sh), (.int ix)] h none (fun v h' lv' => v = some (.int 1)) := by
  refine Jvm.Wv.MeetsV.intro (plainFor_of_name pn_com_example_ltl_to_omega_ltltoomega_hoa_TokenIsPinLaw) (L0 := #[vi k1, vi k2, vi a, vi b, vi sh, vi ix, .unset, .unset, .unset, .unset, .unset, .unset, .unset, .unset, .unset, .unset, .unset, .unset, .unset]) (fun m => by first | (simp [entryFrame, mkF, argsToLocals, Value.category, maxLocals]; done) | rfl) ?_
  intro m G K0
  have K : Jvm.Wv.Cx l room_1 Z n0 _ sW "law" code 19 (some .boolean) m none h G := K0
  have hw0 := hw _ (List.mem_of_getElem? (i := 0) rfl)
  have hw1 := hw _ (List.mem_of_getElem? (i := 1) rfl)
  have hw2 := hw _ (List.mem_of_getElem? (i := 2) rfl)
  have hw3 := hw _ (List.mem_of_getElem? (i := 3) rfl)
  have hw4 := hw _ (List.mem_of_getElem? (i := 4) rfl)
  have hw27 := hw _ (List.mem_of_getElem? (i := 27) rfl)
  have hw28 := hw _ (List.mem_of_getElem? (i := 28) rfl)
  have hw29 := hw _ (List.mem_of_getElem? (i := 29) rfl)
  have hw30 := hw _ (List.mem_of_getElem? (i := 30) rfl)
  have hw31 := hw _ (List.mem_of_getElem? (i := 31) rfl)
  have hw32 := hw _ (List.mem_of_getElem? (i := 32) rfl)
  have hw36 := hw _ (List.mem_of_getElem? (i := 36) rfl)
  have hw37 := hw _ (List.mem_of_getElem? (i := 37) rfl)
  have hw38 := hw _ (List.mem_of_getElem? (i := 38) rfl)
  have hw46 := hw _ (List.mem_of_getElem? (i := 46) rfl)
  have hw48 := hw _ (List.mem_of_getElem? (i := 48) rfl)
  have hw50 := hw _ (List.mem_of_getElem? (i := 50) rfl)
  have hw53 := hw _ (List.mem_of_getElem? (i := 53) rfl)
  have hw54 := hw _ (List.mem_of_getElem? (i := 54) rfl)
  have hw55 := hw _ (List.mem_of_getElem? (i := 55) rfl)
  have hw56 := hw _ (List.mem_of_getElem? (i := 56) rfl)
  have hw57 := hw _ (List.mem_of_getElem? (i := 57) rfl)
  refine K.iloadN at_0 (pc' := 1) rfl rfl ?_
  refine K.ldcI at_1 (pc' := 3) rfl hw0 ?_
  obtain ⟨m0, e_m0⟩ : ∃ z, k1 &&& (2147483647 : Int32) = z := ⟨_, rfl⟩
  have r_m0 : m0.toInt = k1.toInt % 2147483648 := by have q := c_mask k1 (2147483647 : Int32) 31 (by decide) (by decide); rw [e_m0] at q; exact q
  have t_m0 : 0 ≤ m0.toInt := by omega
  clear r_m0
  refine K.iand at_3 (pc' := 4) rfl e_m0 ?_
  refine K.bipush at_4 (pc' := 6) rfl (z := 10) rfl ?_
  obtain ⟨kt, e_kt⟩ : ∃ z, m0 % (10 : Int32) = z := ⟨_, rfl⟩
  have r_kt : (0 ≤ m0.toInt → kt.toInt = m0.toInt % 10) ∧ (m0.toInt < 0 → kt.toInt = -((-m0.toInt) % 10)) := by have q := c_irem m0 (10 : Int32) 10 rfl; rw [e_kt] at q; exact q
  have t_kt : 0 ≤ kt.toInt ∧ kt.toInt ≤ 9 := by omega
  clear r_kt
  have h_kt := t_kt
  refine K.irem at_6 (pc' := 7) rfl (by decide) e_kt ?_
  refine K.istore at_7 (pc' := 9) rfl (L' := #[vi k1, vi k2, vi a, vi b, vi sh, vi ix, vi kt, .unset, .unset, .unset, .unset, .unset, .unset, .unset, .unset, .unset, .unset, .unset, .unset]) rfl ?_
  have J30 : ∀ (ke : Int32), (0 ≤ ke.toInt ∧ ke.toInt ≤ 9) → G h 0 0 (mkF m 30 #[vi k1, vi k2, vi a, vi b, vi sh, vi ix, vi kt, .unset, .unset, .unset, .unset, .unset, .unset, .unset, .unset, .unset, .unset, .unset, .unset] [(.int ke)]) := by
    intro ke h_ke
    refine K.istore at_30 (pc' := 32) rfl (L' := #[vi k1, vi k2, vi a, vi b, vi sh, vi ix, vi kt, vi ke, .unset, .unset, .unset, .unset, .unset, .unset, .unset, .unset, .unset, .unset, .unset]) rfl ?_
    refine K.iload at_32 (pc' := 34) rfl rfl ?_
    refine K.iconst at_34 (pc' := 35) rfl (z := 3) rfl ?_
    obtain ⟨w0, e_w0⟩ : ∃ z, sh &&& (3 : Int32) = z := ⟨_, rfl⟩
    have r_w0 : w0.toInt = sh.toInt % 4 := by have q := c_mask sh (3 : Int32) 2 (by decide) (by decide); rw [e_w0] at q; exact q
    have t_w0 : 0 ≤ w0.toInt := by omega
    clear r_w0
    refine K.iand at_35 (pc' := 36) rfl e_w0 ?_
    refine K.iconst at_36 (pc' := 37) rfl (z := 3) rfl ?_
    obtain ⟨lt, e_lt⟩ : ∃ z, w0 % (3 : Int32) = z := ⟨_, rfl⟩
    have r_lt : (0 ≤ w0.toInt → lt.toInt = w0.toInt % 3) ∧ (w0.toInt < 0 → lt.toInt = -((-w0.toInt) % 3)) := by have q := c_irem w0 (3 : Int32) 3 rfl; rw [e_lt] at q; exact q
    have t_lt : 0 ≤ lt.toInt ∧ lt.toInt ≤ 2 := by omega
    clear r_lt
    refine K.irem at_37 (pc' := 38) rfl (by decide) e_lt ?_
    refine K.istore at_38 (pc' := 40) rfl (L' := #[vi k1, vi k2, vi a, vi b, vi sh, vi ix, vi kt, vi ke, vi lt, .unset, .unset, .unset, .unset, .unset, .unset, .unset, .unset, .unset, .unset]) rfl ?_
    refine K.iload at_40 (pc' := 42) rfl rfl ?_
    refine K.iconst at_42 (pc' := 43) rfl (z := 2) rfl ?_
    obtain ⟨z43, e_z43⟩ : ∃ z, (sh.toUInt32 >>> ((2 : Int32) &&& 31).toUInt32).toInt32 = z := ⟨_, rfl⟩
    have r_z43 : z43.toInt = (sh.toInt % 4294967296) / 4 := by have q := c_iushr sh (2 : Int32) 2 (by decide) (by decide); rw [e_z43] at q; exact q
    refine K.iushr at_43 (pc' := 44) rfl e_z43 ?_
    refine K.iconst at_44 (pc' := 45) rfl (z := 3) rfl ?_
    obtain ⟨w1, e_w1⟩ : ∃ z, z43 &&& (3 : Int32) = z := ⟨_, rfl⟩
    have r_w1 : w1.toInt = z43.toInt % 4 := by have q := c_mask z43 (3 : Int32) 2 (by decide) (by decide); rw [e_w1] at q; exact q
    have t_w1 : 0 ≤ w1.toInt := by omega
    clear r_w1
    refine K.iand at_45 (pc' := 46) rfl e_w1 ?_
    refine K.iconst at_46 (pc' := 47) rfl (z := 3) rfl ?_
    obtain ⟨le, e_le⟩ : ∃ z, w1 % (3 : Int32) = z := ⟨_, rfl⟩
    have r_le : (0 ≤ w1.toInt → le.toInt = w1.toInt % 3) ∧ (w1.toInt < 0 → le.toInt = -((-w1.toInt) % 3)) := by have q := c_irem w1 (3 : Int32) 3 rfl; rw [e_le] at q; exact q
    have t_le : 0 ≤ le.toInt ∧ le.toInt ≤ 2 := by omega
    clear r_le
    refine K.irem at_47 (pc' := 48) rfl (by decide) e_le ?_
    refine K.istore at_48 (pc' := 50) rfl (L' := #[vi k1, vi k2, vi a, vi b, vi sh, vi ix, vi kt, vi ke, vi lt, vi le, .unset, .unset, .unset, .unset, .unset, .unset, .unset, .unset, .unset]) rfl ?_
    refine K.iloadN at_50 (pc' := 51) rfl rfl ?_
    refine K.sipush at_51 (pc' := 54) rfl (z := 255) rfl ?_
    obtain ⟨u0, e_u0⟩ : ∃ z, a &&& (255 : Int32) = z := ⟨_, rfl⟩
    have r_u0 : u0.toInt = a.toInt % 256 := by have q := c_mask a (255 : Int32) 8 (by decide) (by decide); rw [e_u0] at q; exact q
    have t_u0 : 0 ≤ u0.toInt ∧ u0.toInt ≤ 255 := by omega
    clear r_u0
    refine K.iand at_54 (pc' := 55) rfl e_u0 ?_
    obtain ⟨c0, e_c0⟩ : ∃ z, u0.toUInt32.toUInt16.toUInt32.toInt32 = z := ⟨_, rfl⟩
    have r_c0 : (c0.toInt - u0.toInt) % 65536 = 0 ∧ 0 ≤ c0.toInt ∧ c0.toInt < 65536 := by have q := c_i2c u0; rw [e_c0] at q; exact q
    have t_c0 : 0 ≤ c0.toInt ∧ c0.toInt ≤ 255 := by omega
    clear r_c0
    refine K.i2c at_55 (pc' := 56) rfl e_c0 ?_
    refine K.istore at_56 (pc' := 58) rfl (L' := #[vi k1, vi k2, vi a, vi b, vi sh, vi ix, vi kt, vi ke, vi lt, vi le, vi c0, .unset, .unset, .unset, .unset, .unset, .unset, .unset, .unset]) rfl ?_
    refine K.iloadN at_58 (pc' := 59) rfl rfl ?_
    refine K.bipush at_59 (pc' := 61) rfl (z := 8) rfl ?_
    obtain ⟨z61, e_z61⟩ : ∃ z, (a.toUInt32 >>> ((8 : Int32) &&& 31).toUInt32).toInt32 = z := ⟨_, rfl⟩
    have r_z61 : z61.toInt = (a.toInt % 4294967296) / 256 := by have q := c_iushr a (8 : Int32) 8 (by decide) (by decide); rw [e_z61] at q; exact q
    refine K.iushr at_61 (pc' := 62) rfl e_z61 ?_
    refine K.sipush at_62 (pc' := 65) rfl (z := 255) rfl ?_
    obtain ⟨u1, e_u1⟩ : ∃ z, z61 &&& (255 : Int32) = z := ⟨_, rfl⟩
    have r_u1 : u1.toInt = z61.toInt % 256 := by have q := c_mask z61 (255 : Int32) 8 (by decide) (by decide); rw [e_u1] at q; exact q
    have t_u1 : 0 ≤ u1.toInt ∧ u1.toInt ≤ 255 := by omega
    clear r_u1
    refine K.iand at_65 (pc' := 66) rfl e_u1 ?_
    obtain ⟨c1, e_c1⟩ : ∃ z, u1.toUInt32.toUInt16.toUInt32.toInt32 = z := ⟨_, rfl⟩
    have r_c1 : (c1.toInt - u1.toInt) % 65536 = 0 ∧ 0 ≤ c1.toInt ∧ c1.toInt < 65536 := by have q := c_i2c u1; rw [e_c1] at q; exact q
    have t_c1 : 0 ≤ c1.toInt ∧ c1.toInt ≤ 255 := by omega
    clear r_c1
    refine K.i2c at_66 (pc' := 67) rfl e_c1 ?_
    refine K.istore at_67 (pc' := 69) rfl (L' := #[vi k1, vi k2, vi a, vi b, vi sh, vi ix, vi kt, vi ke, vi lt, vi le, vi c0, vi c1, .unset, .unset, .unset, .unset, .unset, .unset, .unset]) rfl ?_
    have J83 : ∀ (cp : Int32), (True) → G h 0 0 (mkF m 83 #[vi k1, vi k2, vi a, vi b, vi sh, vi ix, vi kt, vi ke, vi lt, vi le, vi c0, vi c1, .unset, .unset, .unset, .unset, .unset, .unset, .unset] [(.int cp)]) := by
      intro cp hj83
      refine K.istore at_83 (pc' := 85) rfl (L' := #[vi k1, vi k2, vi a, vi b, vi sh, vi ix, vi kt, vi ke, vi lt, vi le, vi c0, vi c1, vi cp, .unset, .unset, .unset, .unset, .unset, .unset]) rfl ?_
      have J101 : ∀ (e0 : Int32), (0 ≤ e0.toInt ∧ e0.toInt ≤ 255) → G h 0 0 (mkF m 101 #[vi k1, vi k2, vi a, vi b, vi sh, vi ix, vi kt, vi ke, vi lt, vi le, vi c0, vi c1, vi cp, .unset, .unset, .unset, .unset, .unset, .unset] [(.int e0)]) := by
        intro e0 t_e0
        refine K.istore at_101 (pc' := 103) rfl (L' := #[vi k1, vi k2, vi a, vi b, vi sh, vi ix, vi kt, vi ke, vi lt, vi le, vi c0, vi c1, vi cp, vi e0, .unset, .unset, .unset, .unset, .unset]) rfl ?_
        have J122 : ∀ (e1 : Int32), (0 ≤ e1.toInt ∧ e1.toInt ≤ 255) → G h 0 0 (mkF m 122 #[vi k1, vi k2, vi a, vi b, vi sh, vi ix, vi kt, vi ke, vi lt, vi le, vi c0, vi c1, vi cp, vi e0, .unset, .unset, .unset, .unset, .unset] [(.int e1)]) := by
          intro e1 t_e1
          refine K.istore at_122 (pc' := 124) rfl (L' := #[vi k1, vi k2, vi a, vi b, vi sh, vi ix, vi kt, vi ke, vi lt, vi le, vi c0, vi c1, vi cp, vi e0, vi e1, .unset, .unset, .unset, .unset]) rfl ?_
          have cs_lt : lt = 0 ∨ lt = 1 ∨ lt = 2 := by
            have q : lt.toInt = 0 ∨ lt.toInt = 1 ∨ lt.toInt = 2 := by omega
            rcases q with q | q | q
            · exact Or.inl (eqI q)
            · exact Or.inr (Or.inl (eqI q))
            · exact Or.inr (Or.inr (eqI q))
          rcases cs_lt with rfl | rfl | rfl
          · have cs_le : le = 0 ∨ le = 1 ∨ le = 2 := by
              have q : le.toInt = 0 ∨ le.toInt = 1 ∨ le.toInt = 2 := by omega
              rcases q with q | q | q
              · exact Or.inl (eqI q)
              · exact Or.inr (Or.inl (eqI q))
              · exact Or.inr (Or.inr (eqI q))
            rcases cs_le with rfl | rfl | rfl
            · refine K.iload at_124 (pc' := 126) rfl rfl ?_
              refine K.iload at_126 (pc' := 128) rfl rfl ?_
              refine K.iload at_128 (pc' := 130) rfl rfl ?_
              refine K.callsV (argsL := [(.int (0 : Int32)), (.int c0), (.int c1)]) (rest := []) at_130 (pc' := 133) rfl (c_str0c l Z a0 hw n0 h (p := c0) (q := c1) Z0 P2 hh hcw) hw1 hw2 hw3 hw4 (by decide) pd_8 rfl rfl (W := 0) (by simp [Value.category]) (by decide) (by decide) (by decide) (by decide) (fun lv_4 G K v_3 h_1 q_2 => ?_)
              obtain ⟨s1, la_5, lb_6, rfl, K_7, rfl, f_8, f_9, f_10, f_11, f_12, f_13, f_14, f_15⟩ := q_2
              show G h_1 4 8 (mkF m 133 #[vi k1, vi k2, vi a, vi b, vi sh, vi ix, vi kt, vi ke, vi 0, vi 0, vi c0, vi c1, vi cp, vi e0, vi e1, .unset, .unset, .unset, .unset] [(.ref s1)])
              refine K.astore at_133 (pc' := 135) rfl rfl (L' := #[vi k1, vi k2, vi a, vi b, vi sh, vi ix, vi kt, vi ke, vi 0, vi 0, vi c0, vi c1, vi cp, vi e0, vi e1, vr s1, .unset, .unset, .unset]) rfl ?_
              refine K.iload at_135 (pc' := 137) rfl rfl ?_
              refine K.iload at_137 (pc' := 139) rfl rfl ?_
              refine K.iload at_139 (pc' := 141) rfl rfl ?_
              have sz_16 : n0 ≤ h_1.size := Nat.le_trans Z0 K_7.1
              refine K.callsV (argsL := [(.int (0 : Int32)), (.int e0), (.int e1)]) (rest := []) at_141 (pc' := 144) rfl (c_str0h l Z a0 hw n0 h_1 (p := e0) (q := e1) (la := la_5) (lb := lb_6) sz_16 f_8 f_9 f_10 f_11) hw1 hw2 hw3 hw4 (by decide) pd_8 rfl rfl (W := 0) (by simp [Value.category]) (by decide) (by decide) (by decide) (by decide) (fun lv_20 G K v_19 h_17 q_18 => ?_)
              obtain ⟨s2, rfl, K_21, rfl, f_22, f_23, f_24, f_25, f_26, f_27, f_28, f_29⟩ := q_18
              show G h_17 6 12 (mkF m 144 #[vi k1, vi k2, vi a, vi b, vi sh, vi ix, vi kt, vi ke, vi 0, vi 0, vi c0, vi c1, vi cp, vi e0, vi e1, vr s1, .unset, .unset, .unset] [(.ref s2)])
              refine K.astore at_144 (pc' := 146) rfl rfl (L' := #[vi k1, vi k2, vi a, vi b, vi sh, vi ix, vi kt, vi ke, vi 0, vi 0, vi c0, vi c1, vi cp, vi e0, vi e1, vr s1, vr s2, .unset, .unset]) rfl ?_
              refine K.newo at_146 (pc' := 149) rfl hw27 hw28 hw29 (by decide) (by decide) (fun h_31 o_30 g_o_30 E_32 x_o_30 D_o_30 => ?_)
              have sz_33 : n0 ≤ h_17.size := Nat.le_trans sz_16 K_21.1
              have ge_o_30 : n0 ≤ o_30 := g_o_30 ▸ sz_33
              have f_34 : Fld Z h_31 o_30 sT "kind" dK .null := D_o_30 (Or.inr hw46) (ty := (.object sK)) (by decide)
              have f_35 : Fld Z h_31 o_30 sT "text" "Ljava/lang/String;" .null := D_o_30 (Or.inr hw48) (ty := (.object sS)) (by decide)
              have f_36 : Fld Z h_31 o_30 sT "index" "I" (.int (0 : Int32)) := D_o_30 (Or.inr hw50) (ty := .int) (by decide)
              refine K.dup at_149 (pc' := 150) rfl rfl ?_
              refine K.iload at_150 (pc' := 152) rfl rfl ?_
              have f_37 : Old Z n0 h_31 := (((P2.keep K_7 all0).keep K_21 all0).ext E_32)
              refine K.calls (argsL := [(.int kt)]) (rest := [(.ref o_30), (.ref o_30)]) at_152 (pc' := 155) rfl (c_kind l Z a0 hw n0 h_31 (i := kt) (kf := kf) f_37 P5 P6 P7 P8 P9 P10 P11 P12 P13 P14 h_kt) hw30 hw31 hw3 hw32 (by decide) pd_9 rfl rfl (W := 2) (by simp [Value.category]) (by decide) (by decide) (by decide) (by decide) (fun v_40 h_38 q_39 => ?_)
              obtain ⟨rfl, rfl⟩ := q_39
              show G h_31 7 15 (mkF m 155 #[vi k1, vi k2, vi a, vi b, vi sh, vi ix, vi kt, vi ke, vi 0, vi 0, vi c0, vi c1, vi cp, vi e0, vi e1, vr s1, vr s2, .unset, .unset] [(.ref (kf kt.toInt.toNat)), (.ref o_30), (.ref o_30)])
              refine K.aload at_155 (pc' := 157) rfl rfl rfl ?_
              refine K.iload at_157 (pc' := 159) rfl rfl ?_
              refine K.callc (argsL := [(.ref (kf kt.toInt.toNat)), (.ref s1), (.int ix)]) (rest := [(.ref o_30)]) at_159 (pc' := 162) rfl rfl (c_tok l Z a0 hw n0 h_31 (a := o_30) (ka := (kf kt.toInt.toNat)) (s1 := s1) (ix := ix) x_o_30 ge_o_30 f_34 f_35 f_36) hw36 hw37 hw29 hw38 (by decide) pd_10 rfl rfl (W := 1) (by simp [Value.category]) (by decide) (by decide) (by decide) (by decide) (fun v_44 h_42 q_43 => ?_)
              obtain ⟨rfl, K_46, f_47, f_48⟩ := q_43
              show G h_42 7 15 (mkF m 162 #[vi k1, vi k2, vi a, vi b, vi sh, vi ix, vi kt, vi ke, vi 0, vi 0, vi c0, vi c1, vi cp, vi e0, vi e1, vr s1, vr s2, .unset, .unset] [(.ref o_30)])
              refine K.astore at_162 (pc' := 164) rfl rfl (L' := #[vi k1, vi k2, vi a, vi b, vi sh, vi ix, vi kt, vi ke, vi 0, vi 0, vi c0, vi c1, vi cp, vi e0, vi e1, vr s1, vr s2, vr o_30, .unset]) rfl ?_
              have J209 : ∀ jb : Int32, jb = b2 (kt.toInt = ke.toInt) → G h_42 7 15 (mkF m 209 #[vi k1, vi k2, vi a, vi b, vi sh, vi ix, vi kt, vi ke, vi 0, vi 0, vi c0, vi c1, vi cp, vi e0, vi e1, vr s1, vr s2, vr o_30, .unset] [(.int jb)]) := by
                intro jb hjb; subst hjb
                refine K.istore at_209 (pc' := 211) rfl (L' := #[vi k1, vi k2, vi a, vi b, vi sh, vi ix, vi kt, vi ke, vi 0, vi 0, vi c0, vi c1, vi cp, vi e0, vi e1, vr s1, vr s2, vr o_30, .val (.int (b2 (kt.toInt = ke.toInt)))]) rfl ?_
                refine K.aload at_211 (pc' := 213) rfl rfl rfl ?_
                refine K.iload at_213 (pc' := 215) rfl rfl ?_
                have f_49 : Old Z n0 h_42 := (f_37.keep K_46 (allS ge_o_30 all0))
                refine K.calls (argsL := [(.int ke)]) (rest := [(.ref o_30)]) at_215 (pc' := 218) rfl (c_kind l Z a0 hw n0 h_42 (i := ke) (kf := kf) f_49 P5 P6 P7 P8 P9 P10 P11 P12 P13 P14 h_ke) hw30 hw31 hw3 hw32 (by decide) pd_9 rfl rfl (W := 1) (by simp [Value.category]) (by decide) (by decide) (by decide) (by decide) (fun v_52 h_50 q_51 => ?_)
                obtain ⟨rfl, rfl⟩ := q_51
                show G h_42 7 15 (mkF m 218 #[vi k1, vi k2, vi a, vi b, vi sh, vi ix, vi kt, vi ke, vi 0, vi 0, vi c0, vi c1, vi cp, vi e0, vi e1, vr s1, vr s2, vr o_30, .val (.int (b2 (kt.toInt = ke.toInt)))] [(.ref (kf ke.toInt.toNat)), (.ref o_30)])
                refine K.aload at_218 (pc' := 220) rfl rfl rfl ?_
                have f_54 : Exa Z h_42 o_30 sT := (x_o_30.keep K_46)
                have ne_55 : s1 ≠ o_30 := (Nat.ne_of_lt (Nat.lt_of_lt_of_le f_13.lt (Nat.le_trans K_21.1 (Nat.le_of_eq g_o_30.symm))))
                have f_56 : Fld Z h_42 s1 sS "value" "[B" (.ref lb_6) := (((f_14.keep K_21 nin0).ext E_32).keep K_46 (ninS ne_55 nin0))
                have ne_57 : s2 ≠ o_30 := (Nat.ne_of_lt (Nat.lt_of_lt_of_le f_27.lt (Nat.le_trans (Nat.le_refl _) (Nat.le_of_eq g_o_30.symm))))
                have f_58 : Fld Z h_42 s2 sS "value" "[B" (.ref lb_6) := ((f_28.ext E_32).keep K_46 (ninS ne_57 nin0))
                have f_59 : Exa Z h_42 s1 sS := (((f_13.keep K_21).ext E_32).keep K_46)
                have f_60 : Exa Z h_42 s2 sS := ((f_27.ext E_32).keep K_46)
                have ne_61 : s1 ≠ s2 := (Nat.ne_of_lt (Nat.lt_of_lt_of_le f_13.lt (Nat.le_trans (Nat.le_refl _) f_26)))
                have f_62 : Fld Z h_42 s1 sS "coder" "B" (.int (0 : Int32)) := (((f_15.keep K_21 nin0).ext E_32).keep K_46 (ninS ne_55 nin0))
                have f_63 : Fld Z h_42 s2 sS "coder" "B" (.int (0 : Int32)) := ((f_29.ext E_32).keep K_46 (ninS ne_57 nin0))
                have ne_64 : lb_6 ≠ o_30 := (Nat.ne_of_lt (Nat.lt_of_lt_of_le f_11.lt (Nat.le_trans K_21.1 (Nat.le_of_eq g_o_30.symm))))
                have f_65 : Ary Z h_42 lb_6 .byte [] := ((f_25.ext E_32).keep K_46 (ninS ne_64 nin0))
                refine K.callv (z := (⟨sT, "is", "(Lcom/example/ltl_to_omega/ltltoomega/hoa/HoaLexer$Kind;Ljava/lang/String;)Z"⟩ : MethodName)) (argsL := [(.ref (kf ke.toInt.toNat)), (.ref s2)]) (rest := []) at_220 (pc' := 223) rfl (c_is0 l Z a0 hw n0 h_42 (a := o_30) (ka := (kf kt.toInt.toNat)) (kb := (kf ke.toInt.toNat)) (cs := cs) (s1 := s1) (s2 := s2) (d := lb_6) (e := lb_6) f_54 f_47 f_48 f_49 P3 hcs f_59 f_60 ne_61 f_62 f_56 f_63 f_58 f_65 f_65) f_54 hw53 hw54 (nf_sel hw56 rfl) hw56 hw55 hw29 hw57 (by decide) pd_11 rfl rfl (W := 0) (by simp [Value.category]) (by decide) (by decide) (by decide) (by decide) (fun v_68 h_66 q_67 => ?_)
                obtain ⟨rfl, rfl⟩ := q_67
                show G h_42 7 15 (mkF m 223 #[vi k1, vi k2, vi a, vi b, vi sh, vi ix, vi kt, vi ke, vi 0, vi 0, vi c0, vi c1, vi cp, vi e0, vi e1, vr s1, vr s2, vr o_30, .val (.int (b2 (kt.toInt = ke.toInt)))] [(.int (b2 ((kf kt.toInt.toNat) = (kf ke.toInt.toNat) ∧ (True))))])
                refine K.iload at_223 (pc' := 225) rfl rfl ?_
                refine K.icmpneB at_225 (pc1 := 228) rfl (by decide) (pc2 := 232) (by decide) (fun c225 => ?_) (fun c225 => ?_)
                · exfalso; exact c225 (iff0 hinj h_kt h_ke)
                · refine K.iconst at_228 (pc' := 229) rfl (z := 1) rfl ?_
                  refine K.goto at_229 (by decide) (pc' := 233) (by decide) ?_
                  exact K.retz at_233 (Or.inr rfl) (by decide) (by decide) rfl
              refine K.iload at_164 (pc' := 166) rfl rfl ?_
              refine K.iload at_166 (pc' := 168) rfl rfl ?_
              refine K.icmp_ne at_168 (pc1 := 171) rfl (by decide) (pc2 := 208) (by decide) (a := kt.toInt) (b := ke.toInt) rfl rfl (fun c168 => ?_) (fun c168 => ?_)
              · refine K.iconst at_208 (pc' := 209) rfl (z := 0) rfl ?_
                exact J209 _ (b2_f (by first | omega | simp)).symm
              · refine K.iload at_171 (pc' := 173) rfl rfl ?_
                refine K.iload at_173 (pc' := 175) rfl rfl ?_
                refine K.icmp_ne at_175 (pc1 := 178) rfl (by decide) (pc2 := 208) (by decide) (a := 0) (b := 0) rfl rfl (fun c175 => ?_) (fun c175 => ?_)
                · exfalso; omega
                · refine K.iload at_178 (pc' := 180) rfl rfl ?_
                  refine K.iconst at_180 (pc' := 181) rfl (z := 1) rfl ?_
                  refine K.icmp_lt at_181 (pc1 := 184) rfl (by decide) (pc2 := 191) (by decide) (a := 0) (b := 1) rfl rfl (fun c181 => ?_) (fun c181 => ?_)
                  · refine K.iload at_191 (pc' := 193) rfl rfl ?_
                    refine K.iconst at_193 (pc' := 194) rfl (z := 2) rfl ?_
                    refine K.icmp_lt at_194 (pc1 := 197) rfl (by decide) (pc2 := 204) (by decide) (a := 0) (b := 2) rfl rfl (fun c194 => ?_) (fun c194 => ?_)
                    · refine K.iconst at_204 (pc' := 205) rfl (z := 1) rfl ?_
                      refine K.goto at_205 (by decide) (pc' := 209) (by decide) ?_
                      exact J209 _ (b2_t (by first | omega | simp)).symm
                    · exfalso; omega
                  · exfalso; omega
            · refine K.iload at_124 (pc' := 126) rfl rfl ?_
              refine K.iload at_126 (pc' := 128) rfl rfl ?_
              refine K.iload at_128 (pc' := 130) rfl rfl ?_
              refine K.callsV (argsL := [(.int (0 : Int32)), (.int c0), (.int c1)]) (rest := []) at_130 (pc' := 133) rfl (c_str0c l Z a0 hw n0 h (p := c0) (q := c1) Z0 P2 hh hcw) hw1 hw2 hw3 hw4 (by decide) pd_8 rfl rfl (W := 0) (by simp [Value.category]) (by decide) (by decide) (by decide) (by decide) (fun lv_73 G K v_72 h_70 q_71 => ?_)
              obtain ⟨s1, la_74, lb_75, rfl, K_76, rfl, f_77, f_78, f_79, f_80, f_81, f_82, f_83, f_84⟩ := q_71
              show G h_70 4 8 (mkF m 133 #[vi k1, vi k2, vi a, vi b, vi sh, vi ix, vi kt, vi ke, vi 0, vi 1, vi c0, vi c1, vi cp, vi e0, vi e1, .unset, .unset, .unset, .unset] [(.ref s1)])
              refine K.astore at_133 (pc' := 135) rfl rfl (L' := #[vi k1, vi k2, vi a, vi b, vi sh, vi ix, vi kt, vi ke, vi 0, vi 1, vi c0, vi c1, vi cp, vi e0, vi e1, vr s1, .unset, .unset, .unset]) rfl ?_
              refine K.iload at_135 (pc' := 137) rfl rfl ?_
              refine K.iload at_137 (pc' := 139) rfl rfl ?_
              refine K.iload at_139 (pc' := 141) rfl rfl ?_
              have sz_85 : n0 ≤ h_70.size := Nat.le_trans Z0 K_76.1
              have f_86 : Old Z n0 h_70 := (P2.keep K_76 all0)
              refine K.calls (argsL := [(.int (1 : Int32)), (.int e0), (.int e1)]) (rest := []) at_141 (pc' := 144) rfl (c_str1 l Z a0 hw n0 h_70 (cs := cs) (p := e0) (q := e1) sz_85 f_86 P3 hcs (by omega)) hw1 hw2 hw3 hw4 (by decide) pd_8 rfl rfl (W := 0) (by simp [Value.category]) (by decide) (by decide) (by decide) (by decide) (fun v_89 h_87 q_88 => ?_)
              obtain ⟨s2, d_90, rfl, K_91, f_92, f_93, f_94, f_95, f_96, f_97⟩ := q_88
              show G h_87 7 14 (mkF m 144 #[vi k1, vi k2, vi a, vi b, vi sh, vi ix, vi kt, vi ke, vi 0, vi 1, vi c0, vi c1, vi cp, vi e0, vi e1, vr s1, .unset, .unset, .unset] [(.ref s2)])
              refine K.astore at_144 (pc' := 146) rfl rfl (L' := #[vi k1, vi k2, vi a, vi b, vi sh, vi ix, vi kt, vi ke, vi 0, vi 1, vi c0, vi c1, vi cp, vi e0, vi e1, vr s1, vr s2, .unset, .unset]) rfl ?_
              refine K.newo at_146 (pc' := 149) rfl hw27 hw28 hw29 (by decide) (by decide) (fun h_99 o_98 g_o_98 E_100 x_o_98 D_o_98 => ?_)
              have sz_101 : n0 ≤ h_87.size := Nat.le_trans sz_85 K_91.1
              have ge_o_98 : n0 ≤ o_98 := g_o_98 ▸ sz_101
              have f_102 : Fld Z h_99 o_98 sT "kind" dK .null := D_o_98 (Or.inr hw46) (ty := (.object sK)) (by decide)
              have f_103 : Fld Z h_99 o_98 sT "text" "Ljava/lang/String;" .null := D_o_98 (Or.inr hw48) (ty := (.object sS)) (by decide)
              have f_104 : Fld Z h_99 o_98 sT "index" "I" (.int (0 : Int32)) := D_o_98 (Or.inr hw50) (ty := .int) (by decide)
              refine K.dup at_149 (pc' := 150) rfl rfl ?_
              refine K.iload at_150 (pc' := 152) rfl rfl ?_
              have f_105 : Old Z n0 h_99 := ((f_86.keep K_91 all0).ext E_100)
              refine K.calls (argsL := [(.int kt)]) (rest := [(.ref o_98), (.ref o_98)]) at_152 (pc' := 155) rfl (c_kind l Z a0 hw n0 h_99 (i := kt) (kf := kf) f_105 P5 P6 P7 P8 P9 P10 P11 P12 P13 P14 h_kt) hw30 hw31 hw3 hw32 (by decide) pd_9 rfl rfl (W := 2) (by simp [Value.category]) (by decide) (by decide) (by decide) (by decide) (fun v_108 h_106 q_107 => ?_)
              obtain ⟨rfl, rfl⟩ := q_107
              show G h_99 8 17 (mkF m 155 #[vi k1, vi k2, vi a, vi b, vi sh, vi ix, vi kt, vi ke, vi 0, vi 1, vi c0, vi c1, vi cp, vi e0, vi e1, vr s1, vr s2, .unset, .unset] [(.ref (kf kt.toInt.toNat)), (.ref o_98), (.ref o_98)])
              refine K.aload at_155 (pc' := 157) rfl rfl rfl ?_
              refine K.iload at_157 (pc' := 159) rfl rfl ?_
              refine K.callc (argsL := [(.ref (kf kt.toInt.toNat)), (.ref s1), (.int ix)]) (rest := [(.ref o_98)]) at_159 (pc' := 162) rfl rfl (c_tok l Z a0 hw n0 h_99 (a := o_98) (ka := (kf kt.toInt.toNat)) (s1 := s1) (ix := ix) x_o_98 ge_o_98 f_102 f_103 f_104) hw36 hw37 hw29 hw38 (by decide) pd_10 rfl rfl (W := 1) (by simp [Value.category]) (by decide) (by decide) (by decide) (by decide) (fun v_112 h_110 q_111 => ?_)
              obtain ⟨rfl, K_114, f_115, f_116⟩ := q_111
              show G h_110 8 17 (mkF m 162 #[vi k1, vi k2, vi a, vi b, vi sh, vi ix, vi kt, vi ke, vi 0, vi 1, vi c0, vi c1, vi cp, vi e0, vi e1, vr s1, vr s2, .unset, .unset] [(.ref o_98)])
              refine K.astore at_162 (pc' := 164) rfl rfl (L' := #[vi k1, vi k2, vi a, vi b, vi sh, vi ix, vi kt, vi ke, vi 0, vi 1, vi c0, vi c1, vi cp, vi e0, vi e1, vr s1, vr s2, vr o_98, .unset]) rfl ?_
              have J209 : ∀ jb : Int32, jb = b2 (False) → G h_110 8 17 (mkF m 209 #[vi k1, vi k2, vi a, vi b, vi sh, vi ix, vi kt, vi ke, vi 0, vi 1, vi c0, vi c1, vi cp, vi e0, vi e1, vr s1, vr s2, vr o_98, .unset] [(.int jb)]) := by
                intro jb hjb; subst hjb
                refine K.istore at_209 (pc' := 211) rfl (L' := #[vi k1, vi k2, vi a, vi b, vi sh, vi ix, vi kt, vi ke, vi 0, vi 1, vi c0, vi c1, vi cp, vi e0, vi e1, vr s1, vr s2, vr o_98, .val (.int (b2 (False)))]) rfl ?_
                refine K.aload at_211 (pc' := 213) rfl rfl rfl ?_
                refine K.iload at_213 (pc' := 215) rfl rfl ?_
                have f_117 : Old Z n0 h_110 := (f_105.keep K_114 (allS ge_o_98 all0))
                refine K.calls (argsL := [(.int ke)]) (rest := [(.ref o_98)]) at_215 (pc' := 218) rfl (c_kind l Z a0 hw n0 h_110 (i := ke) (kf := kf) f_117 P5 P6 P7 P8 P9 P10 P11 P12 P13 P14 h_ke) hw30 hw31 hw3 hw32 (by decide) pd_9 rfl rfl (W := 1) (by simp [Value.category]) (by decide) (by decide) (by decide) (by decide) (fun v_120 h_118 q_119 => ?_)
                obtain ⟨rfl, rfl⟩ := q_119
                show G h_110 8 17 (mkF m 218 #[vi k1, vi k2, vi a, vi b, vi sh, vi ix, vi kt, vi ke, vi 0, vi 1, vi c0, vi c1, vi cp, vi e0, vi e1, vr s1, vr s2, vr o_98, .val (.int (b2 (False)))] [(.ref (kf ke.toInt.toNat)), (.ref o_98)])
                refine K.aload at_218 (pc' := 220) rfl rfl rfl ?_
                have f_122 : Exa Z h_110 o_98 sT := (x_o_98.keep K_114)
                have ne_123 : s1 ≠ o_98 := (Nat.ne_of_lt (Nat.lt_of_lt_of_le f_82.lt (Nat.le_trans K_91.1 (Nat.le_of_eq g_o_98.symm))))
                have f_124 : Fld Z h_110 s1 sS "value" "[B" (.ref lb_75) := (((f_83.keep K_91 nin0).ext E_100).keep K_114 (ninS ne_123 nin0))
                have ne_125 : s2 ≠ o_98 := (Nat.ne_of_lt (Nat.lt_of_lt_of_le f_94.lt (Nat.le_trans (Nat.le_refl _) (Nat.le_of_eq g_o_98.symm))))
                have f_126 : Fld Z h_110 s2 sS "value" "[B" (.ref d_90) := ((f_95.ext E_100).keep K_114 (ninS ne_125 nin0))
                have f_127 : Exa Z h_110 s1 sS := (((f_82.keep K_91).ext E_100).keep K_114)
                have f_128 : Exa Z h_110 s2 sS := ((f_94.ext E_100).keep K_114)
                have ne_129 : s1 ≠ s2 := (Nat.ne_of_lt (Nat.lt_of_lt_of_le f_82.lt (Nat.le_trans (Nat.le_refl _) f_92)))
                have f_130 : Fld Z h_110 s1 sS "coder" "B" (.int (0 : Int32)) := (((f_84.keep K_91 nin0).ext E_100).keep K_114 (ninS ne_123 nin0))
                have f_131 : Fld Z h_110 s2 sS "coder" "B" (.int (0 : Int32)) := ((f_96.ext E_100).keep K_114 (ninS ne_125 nin0))
                have ne_132 : lb_75 ≠ o_98 := (Nat.ne_of_lt (Nat.lt_of_lt_of_le f_80.lt (Nat.le_trans K_91.1 (Nat.le_of_eq g_o_98.symm))))
                have f_133 : Ary Z h_110 lb_75 .byte [] := (((f_80.keep K_91 nin0).ext E_100).keep K_114 (ninS ne_132 nin0))
                have ne_134 : d_90 ≠ o_98 := (Nat.ne_of_lt (Nat.lt_of_lt_of_le f_97.lt (Nat.le_trans (Nat.le_refl _) (Nat.le_of_eq g_o_98.symm))))
                have f_135 : Ary Z h_110 d_90 .byte [(.int (e0.toInt8.toInt32))] := ((f_97.ext E_100).keep K_114 (ninS ne_134 nin0))
                refine K.callv (z := (⟨sT, "is", "(Lcom/example/ltl_to_omega/ltltoomega/hoa/HoaLexer$Kind;Ljava/lang/String;)Z"⟩ : MethodName)) (argsL := [(.ref (kf ke.toInt.toNat)), (.ref s2)]) (rest := []) at_220 (pc' := 223) rfl (c_isN l Z a0 hw n0 h_110 (a := o_98) (ka := (kf kt.toInt.toNat)) (kb := (kf ke.toInt.toNat)) (cs := cs) (s1 := s1) (s2 := s2) (d := lb_75) (e := d_90) (vs := []) (ws := [(.int (e0.toInt8.toInt32))]) f_122 f_115 f_116 f_117 P3 hcs f_127 f_128 ne_129 f_130 f_124 f_131 f_126 f_133 f_135 (by simp)) f_122 hw53 hw54 (nf_sel hw56 rfl) hw56 hw55 hw29 hw57 (by decide) pd_11 rfl rfl (W := 0) (by simp [Value.category]) (by decide) (by decide) (by decide) (by decide) (fun v_138 h_136 q_137 => ?_)
                obtain ⟨rfl, rfl⟩ := q_137
                show G h_110 8 17 (mkF m 223 #[vi k1, vi k2, vi a, vi b, vi sh, vi ix, vi kt, vi ke, vi 0, vi 1, vi c0, vi c1, vi cp, vi e0, vi e1, vr s1, vr s2, vr o_98, .val (.int (b2 (False)))] [(.int (b2 ((kf kt.toInt.toNat) = (kf ke.toInt.toNat) ∧ (False))))])
                refine K.iload at_223 (pc' := 225) rfl rfl ?_
                refine K.icmpneB at_225 (pc1 := 228) rfl (by decide) (pc2 := 232) (by decide) (fun c225 => ?_) (fun c225 => ?_)
                · exfalso; exact c225 (by simp)
                · refine K.iconst at_228 (pc' := 229) rfl (z := 1) rfl ?_
                  refine K.goto at_229 (by decide) (pc' := 233) (by decide) ?_
                  exact K.retz at_233 (Or.inr rfl) (by decide) (by decide) rfl
              refine K.iload at_164 (pc' := 166) rfl rfl ?_
              refine K.iload at_166 (pc' := 168) rfl rfl ?_
              refine K.icmp_ne at_168 (pc1 := 171) rfl (by decide) (pc2 := 208) (by decide) (a := kt.toInt) (b := ke.toInt) rfl rfl (fun c168 => ?_) (fun c168 => ?_)
              · refine K.iconst at_208 (pc' := 209) rfl (z := 0) rfl ?_
                exact J209 _ (b2_f (by first | omega | simp)).symm
              · refine K.iload at_171 (pc' := 173) rfl rfl ?_
                refine K.iload at_173 (pc' := 175) rfl rfl ?_
                refine K.icmp_ne at_175 (pc1 := 178) rfl (by decide) (pc2 := 208) (by decide) (a := 0) (b := 1) rfl rfl (fun c175 => ?_) (fun c175 => ?_)
                · refine K.iconst at_208 (pc' := 209) rfl (z := 0) rfl ?_
                  exact J209 _ (b2_f (by first | omega | simp)).symm
                · exfalso; omega
            · refine K.iload at_124 (pc' := 126) rfl rfl ?_
              refine K.iload at_126 (pc' := 128) rfl rfl ?_
              refine K.iload at_128 (pc' := 130) rfl rfl ?_
              refine K.callsV (argsL := [(.int (0 : Int32)), (.int c0), (.int c1)]) (rest := []) at_130 (pc' := 133) rfl (c_str0c l Z a0 hw n0 h (p := c0) (q := c1) Z0 P2 hh hcw) hw1 hw2 hw3 hw4 (by decide) pd_8 rfl rfl (W := 0) (by simp [Value.category]) (by decide) (by decide) (by decide) (by decide) (fun lv_143 G K v_142 h_140 q_141 => ?_)
              obtain ⟨s1, la_144, lb_145, rfl, K_146, rfl, f_147, f_148, f_149, f_150, f_151, f_152, f_153, f_154⟩ := q_141
              show G h_140 4 8 (mkF m 133 #[vi k1, vi k2, vi a, vi b, vi sh, vi ix, vi kt, vi ke, vi 0, vi 2, vi c0, vi c1, vi cp, vi e0, vi e1, .unset, .unset, .unset, .unset] [(.ref s1)])
              refine K.astore at_133 (pc' := 135) rfl rfl (L' := #[vi k1, vi k2, vi a, vi b, vi sh, vi ix, vi kt, vi ke, vi 0, vi 2, vi c0, vi c1, vi cp, vi e0, vi e1, vr s1, .unset, .unset, .unset]) rfl ?_
              refine K.iload at_135 (pc' := 137) rfl rfl ?_
              refine K.iload at_137 (pc' := 139) rfl rfl ?_
              refine K.iload at_139 (pc' := 141) rfl rfl ?_
              have sz_155 : n0 ≤ h_140.size := Nat.le_trans Z0 K_146.1
              have f_156 : Old Z n0 h_140 := (P2.keep K_146 all0)
              refine K.calls (argsL := [(.int (2 : Int32)), (.int e0), (.int e1)]) (rest := []) at_141 (pc' := 144) rfl (c_str2 l Z a0 hw n0 h_140 (cs := cs) (p := e0) (q := e1) sz_155 f_156 P3 hcs (by omega) (by omega)) hw1 hw2 hw3 hw4 (by decide) pd_8 rfl rfl (W := 0) (by simp [Value.category]) (by decide) (by decide) (by decide) (by decide) (fun v_159 h_157 q_158 => ?_)
              obtain ⟨s2, d_160, rfl, K_161, f_162, f_163, f_164, f_165, f_166, f_167⟩ := q_158
              show G h_157 7 16 (mkF m 144 #[vi k1, vi k2, vi a, vi b, vi sh, vi ix, vi kt, vi ke, vi 0, vi 2, vi c0, vi c1, vi cp, vi e0, vi e1, vr s1, .unset, .unset, .unset] [(.ref s2)])
              refine K.astore at_144 (pc' := 146) rfl rfl (L' := #[vi k1, vi k2, vi a, vi b, vi sh, vi ix, vi kt, vi ke, vi 0, vi 2, vi c0, vi c1, vi cp, vi e0, vi e1, vr s1, vr s2, .unset, .unset]) rfl ?_
              refine K.newo at_146 (pc' := 149) rfl hw27 hw28 hw29 (by decide) (by decide) (fun h_169 o_168 g_o_168 E_170 x_o_168 D_o_168 => ?_)
              have sz_171 : n0 ≤ h_157.size := Nat.le_trans sz_155 K_161.1
              have ge_o_168 : n0 ≤ o_168 := g_o_168 ▸ sz_171
              have f_172 : Fld Z h_169 o_168 sT "kind" dK .null := D_o_168 (Or.inr hw46) (ty := (.object sK)) (by decide)
              have f_173 : Fld Z h_169 o_168 sT "text" "Ljava/lang/String;" .null := D_o_168 (Or.inr hw48) (ty := (.object sS)) (by decide)
              have f_174 : Fld Z h_169 o_168 sT "index" "I" (.int (0 : Int32)) := D_o_168 (Or.inr hw50) (ty := .int) (by decide)
              refine K.dup at_149 (pc' := 150) rfl rfl ?_
              refine K.iload at_150 (pc' := 152) rfl rfl ?_
              have f_175 : Old Z n0 h_169 := ((f_156.keep K_161 all0).ext E_170)
              refine K.calls (argsL := [(.int kt)]) (rest := [(.ref o_168), (.ref o_168)]) at_152 (pc' := 155) rfl (c_kind l Z a0 hw n0 h_169 (i := kt) (kf := kf) f_175 P5 P6 P7 P8 P9 P10 P11 P12 P13 P14 h_kt) hw30 hw31 hw3 hw32 (by decide) pd_9 rfl rfl (W := 2) (by simp [Value.category]) (by decide) (by decide) (by decide) (by decide) (fun v_178 h_176 q_177 => ?_)
              obtain ⟨rfl, rfl⟩ := q_177
              show G h_169 8 19 (mkF m 155 #[vi k1, vi k2, vi a, vi b, vi sh, vi ix, vi kt, vi ke, vi 0, vi 2, vi c0, vi c1, vi cp, vi e0, vi e1, vr s1, vr s2, .unset, .unset] [(.ref (kf kt.toInt.toNat)), (.ref o_168), (.ref o_168)])
              refine K.aload at_155 (pc' := 157) rfl rfl rfl ?_
              refine K.iload at_157 (pc' := 159) rfl rfl ?_
              refine K.callc (argsL := [(.ref (kf kt.toInt.toNat)), (.ref s1), (.int ix)]) (rest := [(.ref o_168)]) at_159 (pc' := 162) rfl rfl (c_tok l Z a0 hw n0 h_169 (a := o_168) (ka := (kf kt.toInt.toNat)) (s1 := s1) (ix := ix) x_o_168 ge_o_168 f_172 f_173 f_174) hw36 hw37 hw29 hw38 (by decide) pd_10 rfl rfl (W := 1) (by simp [Value.category]) (by decide) (by decide) (by decide) (by decide) (fun v_182 h_180 q_181 => ?_)
              obtain ⟨rfl, K_184, f_185, f_186⟩ := q_181
              show G h_180 8 19 (mkF m 162 #[vi k1, vi k2, vi a, vi b, vi sh, vi ix, vi kt, vi ke, vi 0, vi 2, vi c0, vi c1, vi cp, vi e0, vi e1, vr s1, vr s2, .unset, .unset] [(.ref o_168)])
              refine K.astore at_162 (pc' := 164) rfl rfl (L' := #[vi k1, vi k2, vi a, vi b, vi sh, vi ix, vi kt, vi ke, vi 0, vi 2, vi c0, vi c1, vi cp, vi e0, vi e1, vr s1, vr s2, vr o_168, .unset]) rfl ?_
              have J209 : ∀ jb : Int32, jb = b2 (False) → G h_180 8 19 (mkF m 209 #[vi k1, vi k2, vi a, vi b, vi sh, vi ix, vi kt, vi ke, vi 0, vi 2, vi c0, vi c1, vi cp, vi e0, vi e1, vr s1, vr s2, vr o_168, .unset] [(.int jb)]) := by
                intro jb hjb; subst hjb
                refine K.istore at_209 (pc' := 211) rfl (L' := #[vi k1, vi k2, vi a, vi b, vi sh, vi ix, vi kt, vi ke, vi 0, vi 2, vi c0, vi c1, vi cp, vi e0, vi e1, vr s1, vr s2, vr o_168, .val (.int (b2 (False)))]) rfl ?_
                refine K.aload at_211 (pc' := 213) rfl rfl rfl ?_
                refine K.iload at_213 (pc' := 215) rfl rfl ?_
                have f_187 : Old Z n0 h_180 := (f_175.keep K_184 (allS ge_o_168 all0))
                refine K.calls (argsL := [(.int ke)]) (rest := [(.ref o_168)]) at_215 (pc' := 218) rfl (c_kind l Z a0 hw n0 h_180 (i := ke) (kf := kf) f_187 P5 P6 P7 P8 P9 P10 P11 P12 P13 P14 h_ke) hw30 hw31 hw3 hw32 (by decide) pd_9 rfl rfl (W := 1) (by simp [Value.category]) (by decide) (by decide) (by decide) (by decide) (fun v_190 h_188 q_189 => ?_)
                obtain ⟨rfl, rfl⟩ := q_189
                show G h_180 8 19 (mkF m 218 #[vi k1, vi k2, vi a, vi b, vi sh, vi ix, vi kt, vi ke, vi 0, vi 2, vi c0, vi c1, vi cp, vi e0, vi e1, vr s1, vr s2, vr o_168, .val (.int (b2 (False)))] [(.ref (kf ke.toInt.toNat)), (.ref o_168)])
                refine K.aload at_218 (pc' := 220) rfl rfl rfl ?_
                have f_192 : Exa Z h_180 o_168 sT := (x_o_168.keep K_184)
                have ne_193 : s1 ≠ o_168 := (Nat.ne_of_lt (Nat.lt_of_lt_of_le f_152.lt (Nat.le_trans K_161.1 (Nat.le_of_eq g_o_168.symm))))
                have f_194 : Fld Z h_180 s1 sS "value" "[B" (.ref lb_145) := (((f_153.keep K_161 nin0).ext E_170).keep K_184 (ninS ne_193 nin0))
                have ne_195 : s2 ≠ o_168 := (Nat.ne_of_lt (Nat.lt_of_lt_of_le f_164.lt (Nat.le_trans (Nat.le_refl _) (Nat.le_of_eq g_o_168.symm))))
                have f_196 : Fld Z h_180 s2 sS "value" "[B" (.ref d_160) := ((f_165.ext E_170).keep K_184 (ninS ne_195 nin0))
                have f_197 : Exa Z h_180 s1 sS := (((f_152.keep K_161).ext E_170).keep K_184)
                have f_198 : Exa Z h_180 s2 sS := ((f_164.ext E_170).keep K_184)
                have ne_199 : s1 ≠ s2 := (Nat.ne_of_lt (Nat.lt_of_lt_of_le f_152.lt (Nat.le_trans (Nat.le_refl _) f_162)))
                have f_200 : Fld Z h_180 s1 sS "coder" "B" (.int (0 : Int32)) := (((f_154.keep K_161 nin0).ext E_170).keep K_184 (ninS ne_193 nin0))
                have f_201 : Fld Z h_180 s2 sS "coder" "B" (.int (0 : Int32)) := ((f_166.ext E_170).keep K_184 (ninS ne_195 nin0))
                have ne_202 : lb_145 ≠ o_168 := (Nat.ne_of_lt (Nat.lt_of_lt_of_le f_150.lt (Nat.le_trans K_161.1 (Nat.le_of_eq g_o_168.symm))))
                have f_203 : Ary Z h_180 lb_145 .byte [] := (((f_150.keep K_161 nin0).ext E_170).keep K_184 (ninS ne_202 nin0))
                have ne_204 : d_160 ≠ o_168 := (Nat.ne_of_lt (Nat.lt_of_lt_of_le f_167.lt (Nat.le_trans (Nat.le_refl _) (Nat.le_of_eq g_o_168.symm))))
                have f_205 : Ary Z h_180 d_160 .byte [(.int (e0.toInt8.toInt32)), (.int (e1.toInt8.toInt32))] := ((f_167.ext E_170).keep K_184 (ninS ne_204 nin0))
                refine K.callv (z := (⟨sT, "is", "(Lcom/example/ltl_to_omega/ltltoomega/hoa/HoaLexer$Kind;Ljava/lang/String;)Z"⟩ : MethodName)) (argsL := [(.ref (kf ke.toInt.toNat)), (.ref s2)]) (rest := []) at_220 (pc' := 223) rfl (c_isN l Z a0 hw n0 h_180 (a := o_168) (ka := (kf kt.toInt.toNat)) (kb := (kf ke.toInt.toNat)) (cs := cs) (s1 := s1) (s2 := s2) (d := lb_145) (e := d_160) (vs := []) (ws := [(.int (e0.toInt8.toInt32)), (.int (e1.toInt8.toInt32))]) f_192 f_185 f_186 f_187 P3 hcs f_197 f_198 ne_199 f_200 f_194 f_201 f_196 f_203 f_205 (by simp)) f_192 hw53 hw54 (nf_sel hw56 rfl) hw56 hw55 hw29 hw57 (by decide) pd_11 rfl rfl (W := 0) (by simp [Value.category]) (by decide) (by decide) (by decide) (by decide) (fun v_208 h_206 q_207 => ?_)
                obtain ⟨rfl, rfl⟩ := q_207
                show G h_180 8 19 (mkF m 223 #[vi k1, vi k2, vi a, vi b, vi sh, vi ix, vi kt, vi ke, vi 0, vi 2, vi c0, vi c1, vi cp, vi e0, vi e1, vr s1, vr s2, vr o_168, .val (.int (b2 (False)))] [(.int (b2 ((kf kt.toInt.toNat) = (kf ke.toInt.toNat) ∧ (False))))])
                refine K.iload at_223 (pc' := 225) rfl rfl ?_
                refine K.icmpneB at_225 (pc1 := 228) rfl (by decide) (pc2 := 232) (by decide) (fun c225 => ?_) (fun c225 => ?_)
                · exfalso; exact c225 (by simp)
                · refine K.iconst at_228 (pc' := 229) rfl (z := 1) rfl ?_
                  refine K.goto at_229 (by decide) (pc' := 233) (by decide) ?_
                  exact K.retz at_233 (Or.inr rfl) (by decide) (by decide) rfl
              refine K.iload at_164 (pc' := 166) rfl rfl ?_
              refine K.iload at_166 (pc' := 168) rfl rfl ?_
              refine K.icmp_ne at_168 (pc1 := 171) rfl (by decide) (pc2 := 208) (by decide) (a := kt.toInt) (b := ke.toInt) rfl rfl (fun c168 => ?_) (fun c168 => ?_)
              · refine K.iconst at_208 (pc' := 209) rfl (z := 0) rfl ?_
                exact J209 _ (b2_f (by first | omega | simp)).symm
              · refine K.iload at_171 (pc' := 173) rfl rfl ?_
                refine K.iload at_173 (pc' := 175) rfl rfl ?_
                refine K.icmp_ne at_175 (pc1 := 178) rfl (by decide) (pc2 := 208) (by decide) (a := 0) (b := 2) rfl rfl (fun c175 => ?_) (fun c175 => ?_)
                · refine K.iconst at_208 (pc' := 209) rfl (z := 0) rfl ?_
                  exact J209 _ (b2_f (by first | omega | simp)).symm
                · exfalso; omega
          · have cs_le : le = 0 ∨ le = 1 ∨ le = 2 := by
              have q : le.toInt = 0 ∨ le.toInt = 1 ∨ le.toInt = 2 := by omega
              rcases q with q | q | q
              · exact Or.inl (eqI q)
              · exact Or.inr (Or.inl (eqI q))
              · exact Or.inr (Or.inr (eqI q))
            rcases cs_le with rfl | rfl | rfl
            · refine K.iload at_124 (pc' := 126) rfl rfl ?_
              refine K.iload at_126 (pc' := 128) rfl rfl ?_
              refine K.iload at_128 (pc' := 130) rfl rfl ?_
              refine K.calls (argsL := [(.int (1 : Int32)), (.int c0), (.int c1)]) (rest := []) at_130 (pc' := 133) rfl (c_str1 l Z a0 hw n0 h (cs := cs) (p := c0) (q := c1) Z0 P2 P3 hcs (by omega)) hw1 hw2 hw3 hw4 (by decide) pd_8 rfl rfl (W := 0) (by simp [Value.category]) (by decide) (by decide) (by decide) (by decide) (fun v_212 h_210 q_211 => ?_)
              obtain ⟨s1, d_213, rfl, K_214, f_215, f_216, f_217, f_218, f_219, f_220⟩ := q_211
              show G h_210 3 6 (mkF m 133 #[vi k1, vi k2, vi a, vi b, vi sh, vi ix, vi kt, vi ke, vi 1, vi 0, vi c0, vi c1, vi cp, vi e0, vi e1, .unset, .unset, .unset, .unset] [(.ref s1)])
              refine K.astore at_133 (pc' := 135) rfl rfl (L' := #[vi k1, vi k2, vi a, vi b, vi sh, vi ix, vi kt, vi ke, vi 1, vi 0, vi c0, vi c1, vi cp, vi e0, vi e1, vr s1, .unset, .unset, .unset]) rfl ?_
              refine K.iload at_135 (pc' := 137) rfl rfl ?_
              refine K.iload at_137 (pc' := 139) rfl rfl ?_
              refine K.iload at_139 (pc' := 141) rfl rfl ?_
              have sz_221 : n0 ≤ h_210.size := Nat.le_trans Z0 K_214.1
              have f_222 : Old Z n0 h_210 := (P2.keep K_214 all0)
              refine K.callsV (argsL := [(.int (0 : Int32)), (.int e0), (.int e1)]) (rest := []) at_141 (pc' := 144) rfl (c_str0c l Z a0 hw n0 h_210 (p := e0) (q := e1) sz_221 f_222 hh hcw) hw1 hw2 hw3 hw4 (by decide) pd_8 rfl rfl (W := 0) (by simp [Value.category]) (by decide) (by decide) (by decide) (by decide) (fun lv_226 G K v_225 h_223 q_224 => ?_)
              obtain ⟨s2, la_227, lb_228, rfl, K_229, rfl, f_230, f_231, f_232, f_233, f_234, f_235, f_236, f_237⟩ := q_224
              show G h_223 7 14 (mkF m 144 #[vi k1, vi k2, vi a, vi b, vi sh, vi ix, vi kt, vi ke, vi 1, vi 0, vi c0, vi c1, vi cp, vi e0, vi e1, vr s1, .unset, .unset, .unset] [(.ref s2)])
              refine K.astore at_144 (pc' := 146) rfl rfl (L' := #[vi k1, vi k2, vi a, vi b, vi sh, vi ix, vi kt, vi ke, vi 1, vi 0, vi c0, vi c1, vi cp, vi e0, vi e1, vr s1, vr s2, .unset, .unset]) rfl ?_
              refine K.newo at_146 (pc' := 149) rfl hw27 hw28 hw29 (by decide) (by decide) (fun h_239 o_238 g_o_238 E_240 x_o_238 D_o_238 => ?_)
              have sz_241 : n0 ≤ h_223.size := Nat.le_trans sz_221 K_229.1
              have ge_o_238 : n0 ≤ o_238 := g_o_238 ▸ sz_241
              have f_242 : Fld Z h_239 o_238 sT "kind" dK .null := D_o_238 (Or.inr hw46) (ty := (.object sK)) (by decide)
              have f_243 : Fld Z h_239 o_238 sT "text" "Ljava/lang/String;" .null := D_o_238 (Or.inr hw48) (ty := (.object sS)) (by decide)
              have f_244 : Fld Z h_239 o_238 sT "index" "I" (.int (0 : Int32)) := D_o_238 (Or.inr hw50) (ty := .int) (by decide)
              refine K.dup at_149 (pc' := 150) rfl rfl ?_
              refine K.iload at_150 (pc' := 152) rfl rfl ?_
              have f_245 : Old Z n0 h_239 := ((f_222.keep K_229 all0).ext E_240)
              refine K.calls (argsL := [(.int kt)]) (rest := [(.ref o_238), (.ref o_238)]) at_152 (pc' := 155) rfl (c_kind l Z a0 hw n0 h_239 (i := kt) (kf := kf) f_245 P5 P6 P7 P8 P9 P10 P11 P12 P13 P14 h_kt) hw30 hw31 hw3 hw32 (by decide) pd_9 rfl rfl (W := 2) (by simp [Value.category]) (by decide) (by decide) (by decide) (by decide) (fun v_248 h_246 q_247 => ?_)
              obtain ⟨rfl, rfl⟩ := q_247
              show G h_239 8 17 (mkF m 155 #[vi k1, vi k2, vi a, vi b, vi sh, vi ix, vi kt, vi ke, vi 1, vi 0, vi c0, vi c1, vi cp, vi e0, vi e1, vr s1, vr s2, .unset, .unset] [(.ref (kf kt.toInt.toNat)), (.ref o_238), (.ref o_238)])
              refine K.aload at_155 (pc' := 157) rfl rfl rfl ?_
              refine K.iload at_157 (pc' := 159) rfl rfl ?_
              refine K.callc (argsL := [(.ref (kf kt.toInt.toNat)), (.ref s1), (.int ix)]) (rest := [(.ref o_238)]) at_159 (pc' := 162) rfl rfl (c_tok l Z a0 hw n0 h_239 (a := o_238) (ka := (kf kt.toInt.toNat)) (s1 := s1) (ix := ix) x_o_238 ge_o_238 f_242 f_243 f_244) hw36 hw37 hw29 hw38 (by decide) pd_10 rfl rfl (W := 1) (by simp [Value.category]) (by decide) (by decide) (by decide) (by decide) (fun v_252 h_250 q_251 => ?_)
              obtain ⟨rfl, K_254, f_255, f_256⟩ := q_251
              show G h_250 8 17 (mkF m 162 #[vi k1, vi k2, vi a, vi b, vi sh, vi ix, vi kt, vi ke, vi 1, vi 0, vi c0, vi c1, vi cp, vi e0, vi e1, vr s1, vr s2, .unset, .unset] [(.ref o_238)])
              refine K.astore at_162 (pc' := 164) rfl rfl (L' := #[vi k1, vi k2, vi a, vi b, vi sh, vi ix, vi kt, vi ke, vi 1, vi 0, vi c0, vi c1, vi cp, vi e0, vi e1, vr s1, vr s2, vr o_238, .unset]) rfl ?_
              have J209 : ∀ jb : Int32, jb = b2 (False) → G h_250 8 17 (mkF m 209 #[vi k1, vi k2, vi a, vi b, vi sh, vi ix, vi kt, vi ke, vi 1, vi 0, vi c0, vi c1, vi cp, vi e0, vi e1, vr s1, vr s2, vr o_238, .unset] [(.int jb)]) := by
                intro jb hjb; subst hjb
                refine K.istore at_209 (pc' := 211) rfl (L' := #[vi k1, vi k2, vi a, vi b, vi sh, vi ix, vi kt, vi ke, vi 1, vi 0, vi c0, vi c1, vi cp, vi e0, vi e1, vr s1, vr s2, vr o_238, .val (.int (b2 (False)))]) rfl ?_
                refine K.aload at_211 (pc' := 213) rfl rfl rfl ?_
                refine K.iload at_213 (pc' := 215) rfl rfl ?_
                have f_257 : Old Z n0 h_250 := (f_245.keep K_254 (allS ge_o_238 all0))
                refine K.calls (argsL := [(.int ke)]) (rest := [(.ref o_238)]) at_215 (pc' := 218) rfl (c_kind l Z a0 hw n0 h_250 (i := ke) (kf := kf) f_257 P5 P6 P7 P8 P9 P10 P11 P12 P13 P14 h_ke) hw30 hw31 hw3 hw32 (by decide) pd_9 rfl rfl (W := 1) (by simp [Value.category]) (by decide) (by decide) (by decide) (by decide) (fun v_260 h_258 q_259 => ?_)
                obtain ⟨rfl, rfl⟩ := q_259
                show G h_250 8 17 (mkF m 218 #[vi k1, vi k2, vi a, vi b, vi sh, vi ix, vi kt, vi ke, vi 1, vi 0, vi c0, vi c1, vi cp, vi e0, vi e1, vr s1, vr s2, vr o_238, .val (.int (b2 (False)))] [(.ref (kf ke.toInt.toNat)), (.ref o_238)])
                refine K.aload at_218 (pc' := 220) rfl rfl rfl ?_
                have f_262 : Exa Z h_250 o_238 sT := (x_o_238.keep K_254)
                have ne_263 : s1 ≠ o_238 := (Nat.ne_of_lt (Nat.lt_of_lt_of_le f_217.lt (Nat.le_trans K_229.1 (Nat.le_of_eq g_o_238.symm))))
                have f_264 : Fld Z h_250 s1 sS "value" "[B" (.ref d_213) := (((f_218.keep K_229 nin0).ext E_240).keep K_254 (ninS ne_263 nin0))
                have ne_265 : s2 ≠ o_238 := (Nat.ne_of_lt (Nat.lt_of_lt_of_le f_235.lt (Nat.le_trans (Nat.le_refl _) (Nat.le_of_eq g_o_238.symm))))
                have f_266 : Fld Z h_250 s2 sS "value" "[B" (.ref lb_228) := ((f_236.ext E_240).keep K_254 (ninS ne_265 nin0))
                have f_267 : Exa Z h_250 s1 sS := (((f_217.keep K_229).ext E_240).keep K_254)
                have f_268 : Exa Z h_250 s2 sS := ((f_235.ext E_240).keep K_254)
                have ne_269 : s1 ≠ s2 := (Nat.ne_of_lt (Nat.lt_of_lt_of_le f_217.lt (Nat.le_trans (Nat.le_refl _) f_234)))
                have f_270 : Fld Z h_250 s1 sS "coder" "B" (.int (0 : Int32)) := (((f_219.keep K_229 nin0).ext E_240).keep K_254 (ninS ne_263 nin0))
                have f_271 : Fld Z h_250 s2 sS "coder" "B" (.int (0 : Int32)) := ((f_237.ext E_240).keep K_254 (ninS ne_265 nin0))
                have ne_272 : d_213 ≠ o_238 := (Nat.ne_of_lt (Nat.lt_of_lt_of_le f_220.lt (Nat.le_trans K_229.1 (Nat.le_of_eq g_o_238.symm))))
                have f_273 : Ary Z h_250 d_213 .byte [(.int (c0.toInt8.toInt32))] := (((f_220.keep K_229 nin0).ext E_240).keep K_254 (ninS ne_272 nin0))
                have ne_274 : lb_228 ≠ o_238 := (Nat.ne_of_lt (Nat.lt_of_lt_of_le f_233.lt (Nat.le_trans (Nat.le_refl _) (Nat.le_of_eq g_o_238.symm))))
                have f_275 : Ary Z h_250 lb_228 .byte [] := ((f_233.ext E_240).keep K_254 (ninS ne_274 nin0))
                refine K.callv (z := (⟨sT, "is", "(Lcom/example/ltl_to_omega/ltltoomega/hoa/HoaLexer$Kind;Ljava/lang/String;)Z"⟩ : MethodName)) (argsL := [(.ref (kf ke.toInt.toNat)), (.ref s2)]) (rest := []) at_220 (pc' := 223) rfl (c_isN l Z a0 hw n0 h_250 (a := o_238) (ka := (kf kt.toInt.toNat)) (kb := (kf ke.toInt.toNat)) (cs := cs) (s1 := s1) (s2 := s2) (d := d_213) (e := lb_228) (vs := [(.int (c0.toInt8.toInt32))]) (ws := []) f_262 f_255 f_256 f_257 P3 hcs f_267 f_268 ne_269 f_270 f_264 f_271 f_266 f_273 f_275 (by simp)) f_262 hw53 hw54 (nf_sel hw56 rfl) hw56 hw55 hw29 hw57 (by decide) pd_11 rfl rfl (W := 0) (by simp [Value.category]) (by decide) (by decide) (by decide) (by decide) (fun v_278 h_276 q_277 => ?_)
                obtain ⟨rfl, rfl⟩ := q_277
                show G h_250 8 17 (mkF m 223 #[vi k1, vi k2, vi a, vi b, vi sh, vi ix, vi kt, vi ke, vi 1, vi 0, vi c0, vi c1, vi cp, vi e0, vi e1, vr s1, vr s2, vr o_238, .val (.int (b2 (False)))] [(.int (b2 ((kf kt.toInt.toNat) = (kf ke.toInt.toNat) ∧ (False))))])
                refine K.iload at_223 (pc' := 225) rfl rfl ?_
                refine K.icmpneB at_225 (pc1 := 228) rfl (by decide) (pc2 := 232) (by decide) (fun c225 => ?_) (fun c225 => ?_)
                · exfalso; exact c225 (by simp)
                · refine K.iconst at_228 (pc' := 229) rfl (z := 1) rfl ?_
                  refine K.goto at_229 (by decide) (pc' := 233) (by decide) ?_
                  exact K.retz at_233 (Or.inr rfl) (by decide) (by decide) rfl
              refine K.iload at_164 (pc' := 166) rfl rfl ?_
              refine K.iload at_166 (pc' := 168) rfl rfl ?_
              refine K.icmp_ne at_168 (pc1 := 171) rfl (by decide) (pc2 := 208) (by decide) (a := kt.toInt) (b := ke.toInt) rfl rfl (fun c168 => ?_) (fun c168 => ?_)
              · refine K.iconst at_208 (pc' := 209) rfl (z := 0) rfl ?_
                exact J209 _ (b2_f (by first | omega | simp)).symm
              · refine K.iload at_171 (pc' := 173) rfl rfl ?_
                refine K.iload at_173 (pc' := 175) rfl rfl ?_
                refine K.icmp_ne at_175 (pc1 := 178) rfl (by decide) (pc2 := 208) (by decide) (a := 1) (b := 0) rfl rfl (fun c175 => ?_) (fun c175 => ?_)
                · refine K.iconst at_208 (pc' := 209) rfl (z := 0) rfl ?_
                  exact J209 _ (b2_f (by first | omega | simp)).symm
                · exfalso; omega
            · refine K.iload at_124 (pc' := 126) rfl rfl ?_
              refine K.iload at_126 (pc' := 128) rfl rfl ?_
              refine K.iload at_128 (pc' := 130) rfl rfl ?_
              refine K.calls (argsL := [(.int (1 : Int32)), (.int c0), (.int c1)]) (rest := []) at_130 (pc' := 133) rfl (c_str1 l Z a0 hw n0 h (cs := cs) (p := c0) (q := c1) Z0 P2 P3 hcs (by omega)) hw1 hw2 hw3 hw4 (by decide) pd_8 rfl rfl (W := 0) (by simp [Value.category]) (by decide) (by decide) (by decide) (by decide) (fun v_282 h_280 q_281 => ?_)
              obtain ⟨s1, d_283, rfl, K_284, f_285, f_286, f_287, f_288, f_289, f_290⟩ := q_281
              show G h_280 3 6 (mkF m 133 #[vi k1, vi k2, vi a, vi b, vi sh, vi ix, vi kt, vi ke, vi 1, vi 1, vi c0, vi c1, vi cp, vi e0, vi e1, .unset, .unset, .unset, .unset] [(.ref s1)])
              refine K.astore at_133 (pc' := 135) rfl rfl (L' := #[vi k1, vi k2, vi a, vi b, vi sh, vi ix, vi kt, vi ke, vi 1, vi 1, vi c0, vi c1, vi cp, vi e0, vi e1, vr s1, .unset, .unset, .unset]) rfl ?_
              refine K.iload at_135 (pc' := 137) rfl rfl ?_
              refine K.iload at_137 (pc' := 139) rfl rfl ?_
              refine K.iload at_139 (pc' := 141) rfl rfl ?_
              have sz_291 : n0 ≤ h_280.size := Nat.le_trans Z0 K_284.1
              have f_292 : Old Z n0 h_280 := (P2.keep K_284 all0)
              refine K.calls (argsL := [(.int (1 : Int32)), (.int e0), (.int e1)]) (rest := []) at_141 (pc' := 144) rfl (c_str1 l Z a0 hw n0 h_280 (cs := cs) (p := e0) (q := e1) sz_291 f_292 P3 hcs (by omega)) hw1 hw2 hw3 hw4 (by decide) pd_8 rfl rfl (W := 0) (by simp [Value.category]) (by decide) (by decide) (by decide) (by decide) (fun v_295 h_293 q_294 => ?_)
              obtain ⟨s2, d_296, rfl, K_297, f_298, f_299, f_300, f_301, f_302, f_303⟩ := q_294
              show G h_293 6 12 (mkF m 144 #[vi k1, vi k2, vi a, vi b, vi sh, vi ix, vi kt, vi ke, vi 1, vi 1, vi c0, vi c1, vi cp, vi e0, vi e1, vr s1, .unset, .unset, .unset] [(.ref s2)])
              refine K.astore at_144 (pc' := 146) rfl rfl (L' := #[vi k1, vi k2, vi a, vi b, vi sh, vi ix, vi kt, vi ke, vi 1, vi 1, vi c0, vi c1, vi cp, vi e0, vi e1, vr s1, vr s2, .unset, .unset]) rfl ?_
              refine K.newo at_146 (pc' := 149) rfl hw27 hw28 hw29 (by decide) (by decide) (fun h_305 o_304 g_o_304 E_306 x_o_304 D_o_304 => ?_)
              have sz_307 : n0 ≤ h_293.size := Nat.le_trans sz_291 K_297.1
              have ge_o_304 : n0 ≤ o_304 := g_o_304 ▸ sz_307
              have f_308 : Fld Z h_305 o_304 sT "kind" dK .null := D_o_304 (Or.inr hw46) (ty := (.object sK)) (by decide)
              have f_309 : Fld Z h_305 o_304 sT "text" "Ljava/lang/String;" .null := D_o_304 (Or.inr hw48) (ty := (.object sS)) (by decide)
              have f_310 : Fld Z h_305 o_304 sT "index" "I" (.int (0 : Int32)) := D_o_304 (Or.inr hw50) (ty := .int) (by decide)
              refine K.dup at_149 (pc' := 150) rfl rfl ?_
              refine K.iload at_150 (pc' := 152) rfl rfl ?_
              have f_311 : Old Z n0 h_305 := ((f_292.keep K_297 all0).ext E_306)
              refine K.calls (argsL := [(.int kt)]) (rest := [(.ref o_304), (.ref o_304)]) at_152 (pc' := 155) rfl (c_kind l Z a0 hw n0 h_305 (i := kt) (kf := kf) f_311 P5 P6 P7 P8 P9 P10 P11 P12 P13 P14 h_kt) hw30 hw31 hw3 hw32 (by decide) pd_9 rfl rfl (W := 2) (by simp [Value.category]) (by decide) (by decide) (by decide) (by decide) (fun v_314 h_312 q_313 => ?_)
              obtain ⟨rfl, rfl⟩ := q_313
              show G h_305 7 15 (mkF m 155 #[vi k1, vi k2, vi a, vi b, vi sh, vi ix, vi kt, vi ke, vi 1, vi 1, vi c0, vi c1, vi cp, vi e0, vi e1, vr s1, vr s2, .unset, .unset] [(.ref (kf kt.toInt.toNat)), (.ref o_304), (.ref o_304)])
              refine K.aload at_155 (pc' := 157) rfl rfl rfl ?_
              refine K.iload at_157 (pc' := 159) rfl rfl ?_
              refine K.callc (argsL := [(.ref (kf kt.toInt.toNat)), (.ref s1), (.int ix)]) (rest := [(.ref o_304)]) at_159 (pc' := 162) rfl rfl (c_tok l Z a0 hw n0 h_305 (a := o_304) (ka := (kf kt.toInt.toNat)) (s1 := s1) (ix := ix) x_o_304 ge_o_304 f_308 f_309 f_310) hw36 hw37 hw29 hw38 (by decide) pd_10 rfl rfl (W := 1) (by simp [Value.category]) (by decide) (by decide) (by decide) (by decide) (fun v_318 h_316 q_317 => ?_)
              obtain ⟨rfl, K_320, f_321, f_322⟩ := q_317
              show G h_316 7 15 (mkF m 162 #[vi k1, vi k2, vi a, vi b, vi sh, vi ix, vi kt, vi ke, vi 1, vi 1, vi c0, vi c1, vi cp, vi e0, vi e1, vr s1, vr s2, .unset, .unset] [(.ref o_304)])
              refine K.astore at_162 (pc' := 164) rfl rfl (L' := #[vi k1, vi k2, vi a, vi b, vi sh, vi ix, vi kt, vi ke, vi 1, vi 1, vi c0, vi c1, vi cp, vi e0, vi e1, vr s1, vr s2, vr o_304, .unset]) rfl ?_
              have J209 : ∀ jb : Int32, jb = b2 (kt.toInt = ke.toInt ∧ c0.toInt = e0.toInt) → G h_316 7 15 (mkF m 209 #[vi k1, vi k2, vi a, vi b, vi sh, vi ix, vi kt, vi ke, vi 1, vi 1, vi c0, vi c1, vi cp, vi e0, vi e1, vr s1, vr s2, vr o_304, .unset] [(.int jb)]) := by
                intro jb hjb; subst hjb
                refine K.istore at_209 (pc' := 211) rfl (L' := #[vi k1, vi k2, vi a, vi b, vi sh, vi ix, vi kt, vi ke, vi 1, vi 1, vi c0, vi c1, vi cp, vi e0, vi e1, vr s1, vr s2, vr o_304, .val (.int (b2 (kt.toInt = ke.toInt ∧ c0.toInt = e0.toInt)))]) rfl ?_
                refine K.aload at_211 (pc' := 213) rfl rfl rfl ?_
                refine K.iload at_213 (pc' := 215) rfl rfl ?_
                have f_323 : Old Z n0 h_316 := (f_311.keep K_320 (allS ge_o_304 all0))
                refine K.calls (argsL := [(.int ke)]) (rest := [(.ref o_304)]) at_215 (pc' := 218) rfl (c_kind l Z a0 hw n0 h_316 (i := ke) (kf := kf) f_323 P5 P6 P7 P8 P9 P10 P11 P12 P13 P14 h_ke) hw30 hw31 hw3 hw32 (by decide) pd_9 rfl rfl (W := 1) (by simp [Value.category]) (by decide) (by decide) (by decide) (by decide) (fun v_326 h_324 q_325 => ?_)
                obtain ⟨rfl, rfl⟩ := q_325
                show G h_316 7 15 (mkF m 218 #[vi k1, vi k2, vi a, vi b, vi sh, vi ix, vi kt, vi ke, vi 1, vi 1, vi c0, vi c1, vi cp, vi e0, vi e1, vr s1, vr s2, vr o_304, .val (.int (b2 (kt.toInt = ke.toInt ∧ c0.toInt = e0.toInt)))] [(.ref (kf ke.toInt.toNat)), (.ref o_304)])
                refine K.aload at_218 (pc' := 220) rfl rfl rfl ?_
                have f_328 : Exa Z h_316 o_304 sT := (x_o_304.keep K_320)
                have ne_329 : s1 ≠ o_304 := (Nat.ne_of_lt (Nat.lt_of_lt_of_le f_287.lt (Nat.le_trans K_297.1 (Nat.le_of_eq g_o_304.symm))))
                have f_330 : Fld Z h_316 s1 sS "value" "[B" (.ref d_283) := (((f_288.keep K_297 nin0).ext E_306).keep K_320 (ninS ne_329 nin0))
                have ne_331 : s2 ≠ o_304 := (Nat.ne_of_lt (Nat.lt_of_lt_of_le f_300.lt (Nat.le_trans (Nat.le_refl _) (Nat.le_of_eq g_o_304.symm))))
                have f_332 : Fld Z h_316 s2 sS "value" "[B" (.ref d_296) := ((f_301.ext E_306).keep K_320 (ninS ne_331 nin0))
                have f_333 : Exa Z h_316 s1 sS := (((f_287.keep K_297).ext E_306).keep K_320)
                have f_334 : Exa Z h_316 s2 sS := ((f_300.ext E_306).keep K_320)
                have ne_335 : s1 ≠ s2 := (Nat.ne_of_lt (Nat.lt_of_lt_of_le f_287.lt (Nat.le_trans (Nat.le_refl _) f_298)))
                have f_336 : Fld Z h_316 s1 sS "coder" "B" (.int (0 : Int32)) := (((f_289.keep K_297 nin0).ext E_306).keep K_320 (ninS ne_329 nin0))
                have f_337 : Fld Z h_316 s2 sS "coder" "B" (.int (0 : Int32)) := ((f_302.ext E_306).keep K_320 (ninS ne_331 nin0))
                have ne_338 : d_283 ≠ o_304 := (Nat.ne_of_lt (Nat.lt_of_lt_of_le f_290.lt (Nat.le_trans K_297.1 (Nat.le_of_eq g_o_304.symm))))
                have f_339 : Ary Z h_316 d_283 .byte [(.int (c0.toInt8.toInt32))] := (((f_290.keep K_297 nin0).ext E_306).keep K_320 (ninS ne_338 nin0))
                have ne_340 : d_296 ≠ o_304 := (Nat.ne_of_lt (Nat.lt_of_lt_of_le f_303.lt (Nat.le_trans (Nat.le_refl _) (Nat.le_of_eq g_o_304.symm))))
                have f_341 : Ary Z h_316 d_296 .byte [(.int (e0.toInt8.toInt32))] := ((f_303.ext E_306).keep K_320 (ninS ne_340 nin0))
                refine K.callv (z := (⟨sT, "is", "(Lcom/example/ltl_to_omega/ltltoomega/hoa/HoaLexer$Kind;Ljava/lang/String;)Z"⟩ : MethodName)) (argsL := [(.ref (kf ke.toInt.toNat)), (.ref s2)]) (rest := []) at_220 (pc' := 223) rfl (c_is1 l Z a0 hw n0 h_316 (a := o_304) (ka := (kf kt.toInt.toNat)) (kb := (kf ke.toInt.toNat)) (cs := cs) (s1 := s1) (s2 := s2) (d := d_283) (e := d_296) (x0 := (c0.toInt8.toInt32)) (y0 := (e0.toInt8.toInt32)) f_328 f_321 f_322 f_323 P3 hcs f_333 f_334 ne_335 f_336 f_330 f_337 f_332 f_339 f_341) f_328 hw53 hw54 (nf_sel hw56 rfl) hw56 hw55 hw29 hw57 (by decide) pd_11 rfl rfl (W := 0) (by simp [Value.category]) (by decide) (by decide) (by decide) (by decide) (fun v_344 h_342 q_343 => ?_)
                obtain ⟨rfl, rfl⟩ := q_343
                show G h_316 7 15 (mkF m 223 #[vi k1, vi k2, vi a, vi b, vi sh, vi ix, vi kt, vi ke, vi 1, vi 1, vi c0, vi c1, vi cp, vi e0, vi e1, vr s1, vr s2, vr o_304, .val (.int (b2 (kt.toInt = ke.toInt ∧ c0.toInt = e0.toInt)))] [(.int (b2 ((kf kt.toInt.toNat) = (kf ke.toInt.toNat) ∧ ((c0.toInt8.toInt32).toInt = (e0.toInt8.toInt32).toInt))))])
                refine K.iload at_223 (pc' := 225) rfl rfl ?_
                refine K.icmpneB at_225 (pc1 := 228) rfl (by decide) (pc2 := 232) (by decide) (fun c225 => ?_) (fun c225 => ?_)
                · exfalso; exact c225 (iff1 hinj h_kt h_ke t_c0 t_e0)
                · refine K.iconst at_228 (pc' := 229) rfl (z := 1) rfl ?_
                  refine K.goto at_229 (by decide) (pc' := 233) (by decide) ?_
                  exact K.retz at_233 (Or.inr rfl) (by decide) (by decide) rfl
              refine K.iload at_164 (pc' := 166) rfl rfl ?_
              refine K.iload at_166 (pc' := 168) rfl rfl ?_
              refine K.icmp_ne at_168 (pc1 := 171) rfl (by decide) (pc2 := 208) (by decide) (a := kt.toInt) (b := ke.toInt) rfl rfl (fun c168 => ?_) (fun c168 => ?_)
              · refine K.iconst at_208 (pc' := 209) rfl (z := 0) rfl ?_
                exact J209 _ (b2_f (by first | omega | simp)).symm
              · refine K.iload at_171 (pc' := 173) rfl rfl ?_
                refine K.iload at_173 (pc' := 175) rfl rfl ?_
                refine K.icmp_ne at_175 (pc1 := 178) rfl (by decide) (pc2 := 208) (by decide) (a := 1) (b := 1) rfl rfl (fun c175 => ?_) (fun c175 => ?_)
                · exfalso; omega
                · refine K.iload at_178 (pc' := 180) rfl rfl ?_
                  refine K.iconst at_180 (pc' := 181) rfl (z := 1) rfl ?_
                  refine K.icmp_lt at_181 (pc1 := 184) rfl (by decide) (pc2 := 191) (by decide) (a := 1) (b := 1) rfl rfl (fun c181 => ?_) (fun c181 => ?_)
                  · exfalso; omega
                  · refine K.iload at_184 (pc' := 186) rfl rfl ?_
                    refine K.iload at_186 (pc' := 188) rfl rfl ?_
                    refine K.icmp_ne at_188 (pc1 := 191) rfl (by decide) (pc2 := 208) (by decide) (a := c0.toInt) (b := e0.toInt) rfl rfl (fun c188 => ?_) (fun c188 => ?_)
                    · refine K.iconst at_208 (pc' := 209) rfl (z := 0) rfl ?_
                      exact J209 _ (b2_f (by first | omega | simp)).symm
                    · refine K.iload at_191 (pc' := 193) rfl rfl ?_
                      refine K.iconst at_193 (pc' := 194) rfl (z := 2) rfl ?_
                      refine K.icmp_lt at_194 (pc1 := 197) rfl (by decide) (pc2 := 204) (by decide) (a := 1) (b := 2) rfl rfl (fun c194 => ?_) (fun c194 => ?_)
                      · refine K.iconst at_204 (pc' := 205) rfl (z := 1) rfl ?_
                        refine K.goto at_205 (by decide) (pc' := 209) (by decide) ?_
                        exact J209 _ (b2_t (by first | omega | simp)).symm
                      · exfalso; omega
            · refine K.iload at_124 (pc' := 126) rfl rfl ?_
              refine K.iload at_126 (pc' := 128) rfl rfl ?_
              refine K.iload at_128 (pc' := 130) rfl rfl ?_
              refine K.calls (argsL := [(.int (1 : Int32)), (.int c0), (.int c1)]) (rest := []) at_130 (pc' := 133) rfl (c_str1 l Z a0 hw n0 h (cs := cs) (p := c0) (q := c1) Z0 P2 P3 hcs (by omega)) hw1 hw2 hw3 hw4 (by decide) pd_8 rfl rfl (W := 0) (by simp [Value.category]) (by decide) (by decide) (by decide) (by decide) (fun v_348 h_346 q_347 => ?_)
              obtain ⟨s1, d_349, rfl, K_350, f_351, f_352, f_353, f_354, f_355, f_356⟩ := q_347
              show G h_346 3 6 (mkF m 133 #[vi k1, vi k2, vi a, vi b, vi sh, vi ix, vi kt, vi ke, vi 1, vi 2, vi c0, vi c1, vi cp, vi e0, vi e1, .unset, .unset, .unset, .unset] [(.ref s1)])
              refine K.astore at_133 (pc' := 135) rfl rfl (L' := #[vi k1, vi k2, vi a, vi b, vi sh, vi ix, vi kt, vi ke, vi 1, vi 2, vi c0, vi c1, vi cp, vi e0, vi e1, vr s1, .unset, .unset, .unset]) rfl ?_
              refine K.iload at_135 (pc' := 137) rfl rfl ?_
              refine K.iload at_137 (pc' := 139) rfl rfl ?_
              refine K.iload at_139 (pc' := 141) rfl rfl ?_
              have sz_357 : n0 ≤ h_346.size := Nat.le_trans Z0 K_350.1
              have f_358 : Old Z n0 h_346 := (P2.keep K_350 all0)
              refine K.calls (argsL := [(.int (2 : Int32)), (.int e0), (.int e1)]) (rest := []) at_141 (pc' := 144) rfl (c_str2 l Z a0 hw n0 h_346 (cs := cs) (p := e0) (q := e1) sz_357 f_358 P3 hcs (by omega) (by omega)) hw1 hw2 hw3 hw4 (by decide) pd_8 rfl rfl (W := 0) (by simp [Value.category]) (by decide) (by decide) (by decide) (by decide) (fun v_361 h_359 q_360 => ?_)
              obtain ⟨s2, d_362, rfl, K_363, f_364, f_365, f_366, f_367, f_368, f_369⟩ := q_360
              show G h_359 6 14 (mkF m 144 #[vi k1, vi k2, vi a, vi b, vi sh, vi ix, vi kt, vi ke, vi 1, vi 2, vi c0, vi c1, vi cp, vi e0, vi e1, vr s1, .unset, .unset, .unset] [(.ref s2)])
              refine K.astore at_144 (pc' := 146) rfl rfl (L' := #[vi k1, vi k2, vi a, vi b, vi sh, vi ix, vi kt, vi ke, vi 1, vi 2, vi c0, vi c1, vi cp, vi e0, vi e1, vr s1, vr s2, .unset, .unset]) rfl ?_
              refine K.newo at_146 (pc' := 149) rfl hw27 hw28 hw29 (by decide) (by decide) (fun h_371 o_370 g_o_370 E_372 x_o_370 D_o_370 => ?_)
              have sz_373 : n0 ≤ h_359.size := Nat.le_trans sz_357 K_363.1
              have ge_o_370 : n0 ≤ o_370 := g_o_370 ▸ sz_373
              have f_374 : Fld Z h_371 o_370 sT "kind" dK .null := D_o_370 (Or.inr hw46) (ty := (.object sK)) (by decide)
              have f_375 : Fld Z h_371 o_370 sT "text" "Ljava/lang/String;" .null := D_o_370 (Or.inr hw48) (ty := (.object sS)) (by decide)
              have f_376 : Fld Z h_371 o_370 sT "index" "I" (.int (0 : Int32)) := D_o_370 (Or.inr hw50) (ty := .int) (by decide)
              refine K.dup at_149 (pc' := 150) rfl rfl ?_
              refine K.iload at_150 (pc' := 152) rfl rfl ?_
              have f_377 : Old Z n0 h_371 := ((f_358.keep K_363 all0).ext E_372)
              refine K.calls (argsL := [(.int kt)]) (rest := [(.ref o_370), (.ref o_370)]) at_152 (pc' := 155) rfl (c_kind l Z a0 hw n0 h_371 (i := kt) (kf := kf) f_377 P5 P6 P7 P8 P9 P10 P11 P12 P13 P14 h_kt) hw30 hw31 hw3 hw32 (by decide) pd_9 rfl rfl (W := 2) (by simp [Value.category]) (by decide) (by decide) (by decide) (by decide) (fun v_380 h_378 q_379 => ?_)
              obtain ⟨rfl, rfl⟩ := q_379
              show G h_371 7 17 (mkF m 155 #[vi k1, vi k2, vi a, vi b, vi sh, vi ix, vi kt, vi ke, vi 1, vi 2, vi c0, vi c1, vi cp, vi e0, vi e1, vr s1, vr s2, .unset, .unset] [(.ref (kf kt.toInt.toNat)), (.ref o_370), (.ref o_370)])
              refine K.aload at_155 (pc' := 157) rfl rfl rfl ?_
              refine K.iload at_157 (pc' := 159) rfl rfl ?_
              refine K.callc (argsL := [(.ref (kf kt.toInt.toNat)), (.ref s1), (.int ix)]) (rest := [(.ref o_370)]) at_159 (pc' := 162) rfl rfl (c_tok l Z a0 hw n0 h_371 (a := o_370) (ka := (kf kt.toInt.toNat)) (s1 := s1) (ix := ix) x_o_370 ge_o_370 f_374 f_375 f_376) hw36 hw37 hw29 hw38 (by decide) pd_10 rfl rfl (W := 1) (by simp [Value.category]) (by decide) (by decide) (by decide) (by decide) (fun v_384 h_382 q_383 => ?_)
              obtain ⟨rfl, K_386, f_387, f_388⟩ := q_383
              show G h_382 7 17 (mkF m 162 #[vi k1, vi k2, vi a, vi b, vi sh, vi ix, vi kt, vi ke, vi 1, vi 2, vi c0, vi c1, vi cp, vi e0, vi e1, vr s1, vr s2, .unset, .unset] [(.ref o_370)])
              refine K.astore at_162 (pc' := 164) rfl rfl (L' := #[vi k1, vi k2, vi a, vi b, vi sh, vi ix, vi kt, vi ke, vi 1, vi 2, vi c0, vi c1, vi cp, vi e0, vi e1, vr s1, vr s2, vr o_370, .unset]) rfl ?_
              have J209 : ∀ jb : Int32, jb = b2 (False) → G h_382 7 17 (mkF m 209 #[vi k1, vi k2, vi a, vi b, vi sh, vi ix, vi kt, vi ke, vi 1, vi 2, vi c0, vi c1, vi cp, vi e0, vi e1, vr s1, vr s2, vr o_370, .unset] [(.int jb)]) := by
                intro jb hjb; subst hjb
                refine K.istore at_209 (pc' := 211) rfl (L' := #[vi k1, vi k2, vi a, vi b, vi sh, vi ix, vi kt, vi ke, vi 1, vi 2, vi c0, vi c1, vi cp, vi e0, vi e1, vr s1, vr s2, vr o_370, .val (.int (b2 (False)))]) rfl ?_
                refine K.aload at_211 (pc' := 213) rfl rfl rfl ?_
                refine K.iload at_213 (pc' := 215) rfl rfl ?_
                have f_389 : Old Z n0 h_382 := (f_377.keep K_386 (allS ge_o_370 all0))
                refine K.calls (argsL := [(.int ke)]) (rest := [(.ref o_370)]) at_215 (pc' := 218) rfl (c_kind l Z a0 hw n0 h_382 (i := ke) (kf := kf) f_389 P5 P6 P7 P8 P9 P10 P11 P12 P13 P14 h_ke) hw30 hw31 hw3 hw32 (by decide) pd_9 rfl rfl (W := 1) (by simp [Value.category]) (by decide) (by decide) (by decide) (by decide) (fun v_392 h_390 q_391 => ?_)
                obtain ⟨rfl, rfl⟩ := q_391
                show G h_382 7 17 (mkF m 218 #[vi k1, vi k2, vi a, vi b, vi sh, vi ix, vi kt, vi ke, vi 1, vi 2, vi c0, vi c1, vi cp, vi e0, vi e1, vr s1, vr s2, vr o_370, .val (.int (b2 (False)))] [(.ref (kf ke.toInt.toNat)), (.ref o_370)])
                refine K.aload at_218 (pc' := 220) rfl rfl rfl ?_
                have f_394 : Exa Z h_382 o_370 sT := (x_o_370.keep K_386)
                have ne_395 : s1 ≠ o_370 := (Nat.ne_of_lt (Nat.lt_of_lt_of_le f_353.lt (Nat.le_trans K_363.1 (Nat.le_of_eq g_o_370.symm))))
                have f_396 : Fld Z h_382 s1 sS "value" "[B" (.ref d_349) := (((f_354.keep K_363 nin0).ext E_372).keep K_386 (ninS ne_395 nin0))
                have ne_397 : s2 ≠ o_370 := (Nat.ne_of_lt (Nat.lt_of_lt_of_le f_366.lt (Nat.le_trans (Nat.le_refl _) (Nat.le_of_eq g_o_370.symm))))
                have f_398 : Fld Z h_382 s2 sS "value" "[B" (.ref d_362) := ((f_367.ext E_372).keep K_386 (ninS ne_397 nin0))
                have f_399 : Exa Z h_382 s1 sS := (((f_353.keep K_363).ext E_372).keep K_386)
                have f_400 : Exa Z h_382 s2 sS := ((f_366.ext E_372).keep K_386)
                have ne_401 : s1 ≠ s2 := (Nat.ne_of_lt (Nat.lt_of_lt_of_le f_353.lt (Nat.le_trans (Nat.le_refl _) f_364)))
                have f_402 : Fld Z h_382 s1 sS "coder" "B" (.int (0 : Int32)) := (((f_355.keep K_363 nin0).ext E_372).keep K_386 (ninS ne_395 nin0))
                have f_403 : Fld Z h_382 s2 sS "coder" "B" (.int (0 : Int32)) := ((f_368.ext E_372).keep K_386 (ninS ne_397 nin0))
                have ne_404 : d_349 ≠ o_370 := (Nat.ne_of_lt (Nat.lt_of_lt_of_le f_356.lt (Nat.le_trans K_363.1 (Nat.le_of_eq g_o_370.symm))))
                have f_405 : Ary Z h_382 d_349 .byte [(.int (c0.toInt8.toInt32))] := (((f_356.keep K_363 nin0).ext E_372).keep K_386 (ninS ne_404 nin0))
                have ne_406 : d_362 ≠ o_370 := (Nat.ne_of_lt (Nat.lt_of_lt_of_le f_369.lt (Nat.le_trans (Nat.le_refl _) (Nat.le_of_eq g_o_370.symm))))
                have f_407 : Ary Z h_382 d_362 .byte [(.int (e0.toInt8.toInt32)), (.int (e1.toInt8.toInt32))] := ((f_369.ext E_372).keep K_386 (ninS ne_406 nin0))
                refine K.callv (z := (⟨sT, "is", "(Lcom/example/ltl_to_omega/ltltoomega/hoa/HoaLexer$Kind;Ljava/lang/String;)Z"⟩ : MethodName)) (argsL := [(.ref (kf ke.toInt.toNat)), (.ref s2)]) (rest := []) at_220 (pc' := 223) rfl (c_isN l Z a0 hw n0 h_382 (a := o_370) (ka := (kf kt.toInt.toNat)) (kb := (kf ke.toInt.toNat)) (cs := cs) (s1 := s1) (s2 := s2) (d := d_349) (e := d_362) (vs := [(.int (c0.toInt8.toInt32))]) (ws := [(.int (e0.toInt8.toInt32)), (.int (e1.toInt8.toInt32))]) f_394 f_387 f_388 f_389 P3 hcs f_399 f_400 ne_401 f_402 f_396 f_403 f_398 f_405 f_407 (by simp)) f_394 hw53 hw54 (nf_sel hw56 rfl) hw56 hw55 hw29 hw57 (by decide) pd_11 rfl rfl (W := 0) (by simp [Value.category]) (by decide) (by decide) (by decide) (by decide) (fun v_410 h_408 q_409 => ?_)
                obtain ⟨rfl, rfl⟩ := q_409
                show G h_382 7 17 (mkF m 223 #[vi k1, vi k2, vi a, vi b, vi sh, vi ix, vi kt, vi ke, vi 1, vi 2, vi c0, vi c1, vi cp, vi e0, vi e1, vr s1, vr s2, vr o_370, .val (.int (b2 (False)))] [(.int (b2 ((kf kt.toInt.toNat) = (kf ke.toInt.toNat) ∧ (False))))])
                refine K.iload at_223 (pc' := 225) rfl rfl ?_
                refine K.icmpneB at_225 (pc1 := 228) rfl (by decide) (pc2 := 232) (by decide) (fun c225 => ?_) (fun c225 => ?_)
                · exfalso; exact c225 (by simp)
                · refine K.iconst at_228 (pc' := 229) rfl (z := 1) rfl ?_
                  refine K.goto at_229 (by decide) (pc' := 233) (by decide) ?_
                  exact K.retz at_233 (Or.inr rfl) (by decide) (by decide) rfl
              refine K.iload at_164 (pc' := 166) rfl rfl ?_
              refine K.iload at_166 (pc' := 168) rfl rfl ?_
              refine K.icmp_ne at_168 (pc1 := 171) rfl (by decide) (pc2 := 208) (by decide) (a := kt.toInt) (b := ke.toInt) rfl rfl (fun c168 => ?_) (fun c168 => ?_)
              · refine K.iconst at_208 (pc' := 209) rfl (z := 0) rfl ?_
                exact J209 _ (b2_f (by first | omega | simp)).symm
              · refine K.iload at_171 (pc' := 173) rfl rfl ?_
                refine K.iload at_173 (pc' := 175) rfl rfl ?_
                refine K.icmp_ne at_175 (pc1 := 178) rfl (by decide) (pc2 := 208) (by decide) (a := 1) (b := 2) rfl rfl (fun c175 => ?_) (fun c175 => ?_)
                · refine K.iconst at_208 (pc' := 209) rfl (z := 0) rfl ?_
                  exact J209 _ (b2_f (by first | omega | simp)).symm
                · exfalso; omega
          · have cs_le : le = 0 ∨ le = 1 ∨ le = 2 := by
              have q : le.toInt = 0 ∨ le.toInt = 1 ∨ le.toInt = 2 := by omega
              rcases q with q | q | q
              · exact Or.inl (eqI q)
              · exact Or.inr (Or.inl (eqI q))
              · exact Or.inr (Or.inr (eqI q))
            rcases cs_le with rfl | rfl | rfl
            · refine K.iload at_124 (pc' := 126) rfl rfl ?_
              refine K.iload at_126 (pc' := 128) rfl rfl ?_
              refine K.iload at_128 (pc' := 130) rfl rfl ?_
              refine K.calls (argsL := [(.int (2 : Int32)), (.int c0), (.int c1)]) (rest := []) at_130 (pc' := 133) rfl (c_str2 l Z a0 hw n0 h (cs := cs) (p := c0) (q := c1) Z0 P2 P3 hcs (by omega) (by omega)) hw1 hw2 hw3 hw4 (by decide) pd_8 rfl rfl (W := 0) (by simp [Value.category]) (by decide) (by decide) (by decide) (by decide) (fun v_414 h_412 q_413 => ?_)
              obtain ⟨s1, d_415, rfl, K_416, f_417, f_418, f_419, f_420, f_421, f_422⟩ := q_413
              show G h_412 3 8 (mkF m 133 #[vi k1, vi k2, vi a, vi b, vi sh, vi ix, vi kt, vi ke, vi 2, vi 0, vi c0, vi c1, vi cp, vi e0, vi e1, .unset, .unset, .unset, .unset] [(.ref s1)])
              refine K.astore at_133 (pc' := 135) rfl rfl (L' := #[vi k1, vi k2, vi a, vi b, vi sh, vi ix, vi kt, vi ke, vi 2, vi 0, vi c0, vi c1, vi cp, vi e0, vi e1, vr s1, .unset, .unset, .unset]) rfl ?_
              refine K.iload at_135 (pc' := 137) rfl rfl ?_
              refine K.iload at_137 (pc' := 139) rfl rfl ?_
              refine K.iload at_139 (pc' := 141) rfl rfl ?_
              have sz_423 : n0 ≤ h_412.size := Nat.le_trans Z0 K_416.1
              have f_424 : Old Z n0 h_412 := (P2.keep K_416 all0)
              refine K.callsV (argsL := [(.int (0 : Int32)), (.int e0), (.int e1)]) (rest := []) at_141 (pc' := 144) rfl (c_str0c l Z a0 hw n0 h_412 (p := e0) (q := e1) sz_423 f_424 hh hcw) hw1 hw2 hw3 hw4 (by decide) pd_8 rfl rfl (W := 0) (by simp [Value.category]) (by decide) (by decide) (by decide) (by decide) (fun lv_428 G K v_427 h_425 q_426 => ?_)
              obtain ⟨s2, la_429, lb_430, rfl, K_431, rfl, f_432, f_433, f_434, f_435, f_436, f_437, f_438, f_439⟩ := q_426
              show G h_425 7 16 (mkF m 144 #[vi k1, vi k2, vi a, vi b, vi sh, vi ix, vi kt, vi ke, vi 2, vi 0, vi c0, vi c1, vi cp, vi e0, vi e1, vr s1, .unset, .unset, .unset] [(.ref s2)])
              refine K.astore at_144 (pc' := 146) rfl rfl (L' := #[vi k1, vi k2, vi a, vi b, vi sh, vi ix, vi kt, vi ke, vi 2, vi 0, vi c0, vi c1, vi cp, vi e0, vi e1, vr s1, vr s2, .unset, .unset]) rfl ?_
              refine K.newo at_146 (pc' := 149) rfl hw27 hw28 hw29 (by decide) (by decide) (fun h_441 o_440 g_o_440 E_442 x_o_440 D_o_440 => ?_)
              have sz_443 : n0 ≤ h_425.size := Nat.le_trans sz_423 K_431.1
              have ge_o_440 : n0 ≤ o_440 := g_o_440 ▸ sz_443
              have f_444 : Fld Z h_441 o_440 sT "kind" dK .null := D_o_440 (Or.inr hw46) (ty := (.object sK)) (by decide)
              have f_445 : Fld Z h_441 o_440 sT "text" "Ljava/lang/String;" .null := D_o_440 (Or.inr hw48) (ty := (.object sS)) (by decide)
              have f_446 : Fld Z h_441 o_440 sT "index" "I" (.int (0 : Int32)) := D_o_440 (Or.inr hw50) (ty := .int) (by decide)
              refine K.dup at_149 (pc' := 150) rfl rfl ?_
              refine K.iload at_150 (pc' := 152) rfl rfl ?_
              have f_447 : Old Z n0 h_441 := ((f_424.keep K_431 all0).ext E_442)
              refine K.calls (argsL := [(.int kt)]) (rest := [(.ref o_440), (.ref o_440)]) at_152 (pc' := 155) rfl (c_kind l Z a0 hw n0 h_441 (i := kt) (kf := kf) f_447 P5 P6 P7 P8 P9 P10 P11 P12 P13 P14 h_kt) hw30 hw31 hw3 hw32 (by decide) pd_9 rfl rfl (W := 2) (by simp [Value.category]) (by decide) (by decide) (by decide) (by decide) (fun v_450 h_448 q_449 => ?_)
              obtain ⟨rfl, rfl⟩ := q_449
              show G h_441 8 19 (mkF m 155 #[vi k1, vi k2, vi a, vi b, vi sh, vi ix, vi kt, vi ke, vi 2, vi 0, vi c0, vi c1, vi cp, vi e0, vi e1, vr s1, vr s2, .unset, .unset] [(.ref (kf kt.toInt.toNat)), (.ref o_440), (.ref o_440)])
              refine K.aload at_155 (pc' := 157) rfl rfl rfl ?_
              refine K.iload at_157 (pc' := 159) rfl rfl ?_
              refine K.callc (argsL := [(.ref (kf kt.toInt.toNat)), (.ref s1), (.int ix)]) (rest := [(.ref o_440)]) at_159 (pc' := 162) rfl rfl (c_tok l Z a0 hw n0 h_441 (a := o_440) (ka := (kf kt.toInt.toNat)) (s1 := s1) (ix := ix) x_o_440 ge_o_440 f_444 f_445 f_446) hw36 hw37 hw29 hw38 (by decide) pd_10 rfl rfl (W := 1) (by simp [Value.category]) (by decide) (by decide) (by decide) (by decide) (fun v_454 h_452 q_453 => ?_)
              obtain ⟨rfl, K_456, f_457, f_458⟩ := q_453
              show G h_452 8 19 (mkF m 162 #[vi k1, vi k2, vi a, vi b, vi sh, vi ix, vi kt, vi ke, vi 2, vi 0, vi c0, vi c1, vi cp, vi e0, vi e1, vr s1, vr s2, .unset, .unset] [(.ref o_440)])
              refine K.astore at_162 (pc' := 164) rfl rfl (L' := #[vi k1, vi k2, vi a, vi b, vi sh, vi ix, vi kt, vi ke, vi 2, vi 0, vi c0, vi c1, vi cp, vi e0, vi e1, vr s1, vr s2, vr o_440, .unset]) rfl ?_
              have J209 : ∀ jb : Int32, jb = b2 (False) → G h_452 8 19 (mkF m 209 #[vi k1, vi k2, vi a, vi b, vi sh, vi ix, vi kt, vi ke, vi 2, vi 0, vi c0, vi c1, vi cp, vi e0, vi e1, vr s1, vr s2, vr o_440, .unset] [(.int jb)]) := by
                intro jb hjb; subst hjb
                refine K.istore at_209 (pc' := 211) rfl (L' := #[vi k1, vi k2, vi a, vi b, vi sh, vi ix, vi kt, vi ke, vi 2, vi 0, vi c0, vi c1, vi cp, vi e0, vi e1, vr s1, vr s2, vr o_440, .val (.int (b2 (False)))]) rfl ?_
                refine K.aload at_211 (pc' := 213) rfl rfl rfl ?_
                refine K.iload at_213 (pc' := 215) rfl rfl ?_
                have f_459 : Old Z n0 h_452 := (f_447.keep K_456 (allS ge_o_440 all0))
                refine K.calls (argsL := [(.int ke)]) (rest := [(.ref o_440)]) at_215 (pc' := 218) rfl (c_kind l Z a0 hw n0 h_452 (i := ke) (kf := kf) f_459 P5 P6 P7 P8 P9 P10 P11 P12 P13 P14 h_ke) hw30 hw31 hw3 hw32 (by decide) pd_9 rfl rfl (W := 1) (by simp [Value.category]) (by decide) (by decide) (by decide) (by decide) (fun v_462 h_460 q_461 => ?_)
                obtain ⟨rfl, rfl⟩ := q_461
                show G h_452 8 19 (mkF m 218 #[vi k1, vi k2, vi a, vi b, vi sh, vi ix, vi kt, vi ke, vi 2, vi 0, vi c0, vi c1, vi cp, vi e0, vi e1, vr s1, vr s2, vr o_440, .val (.int (b2 (False)))] [(.ref (kf ke.toInt.toNat)), (.ref o_440)])
                refine K.aload at_218 (pc' := 220) rfl rfl rfl ?_
                have f_464 : Exa Z h_452 o_440 sT := (x_o_440.keep K_456)
                have ne_465 : s1 ≠ o_440 := (Nat.ne_of_lt (Nat.lt_of_lt_of_le f_419.lt (Nat.le_trans K_431.1 (Nat.le_of_eq g_o_440.symm))))
                have f_466 : Fld Z h_452 s1 sS "value" "[B" (.ref d_415) := (((f_420.keep K_431 nin0).ext E_442).keep K_456 (ninS ne_465 nin0))
                have ne_467 : s2 ≠ o_440 := (Nat.ne_of_lt (Nat.lt_of_lt_of_le f_437.lt (Nat.le_trans (Nat.le_refl _) (Nat.le_of_eq g_o_440.symm))))
                have f_468 : Fld Z h_452 s2 sS "value" "[B" (.ref lb_430) := ((f_438.ext E_442).keep K_456 (ninS ne_467 nin0))
                have f_469 : Exa Z h_452 s1 sS := (((f_419.keep K_431).ext E_442).keep K_456)
                have f_470 : Exa Z h_452 s2 sS := ((f_437.ext E_442).keep K_456)
                have ne_471 : s1 ≠ s2 := (Nat.ne_of_lt (Nat.lt_of_lt_of_le f_419.lt (Nat.le_trans (Nat.le_refl _) f_436)))
                have f_472 : Fld Z h_452 s1 sS "coder" "B" (.int (0 : Int32)) := (((f_421.keep K_431 nin0).ext E_442).keep K_456 (ninS ne_465 nin0))
                have f_473 : Fld Z h_452 s2 sS "coder" "B" (.int (0 : Int32)) := ((f_439.ext E_442).keep K_456 (ninS ne_467 nin0))
                have ne_474 : d_415 ≠ o_440 := (Nat.ne_of_lt (Nat.lt_of_lt_of_le f_422.lt (Nat.le_trans K_431.1 (Nat.le_of_eq g_o_440.symm))))
                have f_475 : Ary Z h_452 d_415 .byte [(.int (c0.toInt8.toInt32)), (.int (c1.toInt8.toInt32))] := (((f_422.keep K_431 nin0).ext E_442).keep K_456 (ninS ne_474 nin0))
                have ne_476 : lb_430 ≠ o_440 := (Nat.ne_of_lt (Nat.lt_of_lt_of_le f_435.lt (Nat.le_trans (Nat.le_refl _) (Nat.le_of_eq g_o_440.symm))))
                have f_477 : Ary Z h_452 lb_430 .byte [] := ((f_435.ext E_442).keep K_456 (ninS ne_476 nin0))
                refine K.callv (z := (⟨sT, "is", "(Lcom/example/ltl_to_omega/ltltoomega/hoa/HoaLexer$Kind;Ljava/lang/String;)Z"⟩ : MethodName)) (argsL := [(.ref (kf ke.toInt.toNat)), (.ref s2)]) (rest := []) at_220 (pc' := 223) rfl (c_isN l Z a0 hw n0 h_452 (a := o_440) (ka := (kf kt.toInt.toNat)) (kb := (kf ke.toInt.toNat)) (cs := cs) (s1 := s1) (s2 := s2) (d := d_415) (e := lb_430) (vs := [(.int (c0.toInt8.toInt32)), (.int (c1.toInt8.toInt32))]) (ws := []) f_464 f_457 f_458 f_459 P3 hcs f_469 f_470 ne_471 f_472 f_466 f_473 f_468 f_475 f_477 (by simp)) f_464 hw53 hw54 (nf_sel hw56 rfl) hw56 hw55 hw29 hw57 (by decide) pd_11 rfl rfl (W := 0) (by simp [Value.category]) (by decide) (by decide) (by decide) (by decide) (fun v_480 h_478 q_479 => ?_)
                obtain ⟨rfl, rfl⟩ := q_479
                show G h_452 8 19 (mkF m 223 #[vi k1, vi k2, vi a, vi b, vi sh, vi ix, vi kt, vi ke, vi 2, vi 0, vi c0, vi c1, vi cp, vi e0, vi e1, vr s1, vr s2, vr o_440, .val (.int (b2 (False)))] [(.int (b2 ((kf kt.toInt.toNat) = (kf ke.toInt.toNat) ∧ (False))))])
                refine K.iload at_223 (pc' := 225) rfl rfl ?_
                refine K.icmpneB at_225 (pc1 := 228) rfl (by decide) (pc2 := 232) (by decide) (fun c225 => ?_) (fun c225 => ?_)
                · exfalso; exact c225 (by simp)
                · refine K.iconst at_228 (pc' := 229) rfl (z := 1) rfl ?_
                  refine K.goto at_229 (by decide) (pc' := 233) (by decide) ?_
                  exact K.retz at_233 (Or.inr rfl) (by decide) (by decide) rfl
              refine K.iload at_164 (pc' := 166) rfl rfl ?_
              refine K.iload at_166 (pc' := 168) rfl rfl ?_
              refine K.icmp_ne at_168 (pc1 := 171) rfl (by decide) (pc2 := 208) (by decide) (a := kt.toInt) (b := ke.toInt) rfl rfl (fun c168 => ?_) (fun c168 => ?_)
              · refine K.iconst at_208 (pc' := 209) rfl (z := 0) rfl ?_
                exact J209 _ (b2_f (by first | omega | simp)).symm
              · refine K.iload at_171 (pc' := 173) rfl rfl ?_
                refine K.iload at_173 (pc' := 175) rfl rfl ?_
                refine K.icmp_ne at_175 (pc1 := 178) rfl (by decide) (pc2 := 208) (by decide) (a := 2) (b := 0) rfl rfl (fun c175 => ?_) (fun c175 => ?_)
                · refine K.iconst at_208 (pc' := 209) rfl (z := 0) rfl ?_
                  exact J209 _ (b2_f (by first | omega | simp)).symm
                · exfalso; omega
            · refine K.iload at_124 (pc' := 126) rfl rfl ?_
              refine K.iload at_126 (pc' := 128) rfl rfl ?_
              refine K.iload at_128 (pc' := 130) rfl rfl ?_
              refine K.calls (argsL := [(.int (2 : Int32)), (.int c0), (.int c1)]) (rest := []) at_130 (pc' := 133) rfl (c_str2 l Z a0 hw n0 h (cs := cs) (p := c0) (q := c1) Z0 P2 P3 hcs (by omega) (by omega)) hw1 hw2 hw3 hw4 (by decide) pd_8 rfl rfl (W := 0) (by simp [Value.category]) (by decide) (by decide) (by decide) (by decide) (fun v_484 h_482 q_483 => ?_)
              obtain ⟨s1, d_485, rfl, K_486, f_487, f_488, f_489, f_490, f_491, f_492⟩ := q_483
              show G h_482 3 8 (mkF m 133 #[vi k1, vi k2, vi a, vi b, vi sh, vi ix, vi kt, vi ke, vi 2, vi 1, vi c0, vi c1, vi cp, vi e0, vi e1, .unset, .unset, .unset, .unset] [(.ref s1)])
              refine K.astore at_133 (pc' := 135) rfl rfl (L' := #[vi k1, vi k2, vi a, vi b, vi sh, vi ix, vi kt, vi ke, vi 2, vi 1, vi c0, vi c1, vi cp, vi e0, vi e1, vr s1, .unset, .unset, .unset]) rfl ?_
              refine K.iload at_135 (pc' := 137) rfl rfl ?_
              refine K.iload at_137 (pc' := 139) rfl rfl ?_
              refine K.iload at_139 (pc' := 141) rfl rfl ?_
              have sz_493 : n0 ≤ h_482.size := Nat.le_trans Z0 K_486.1
              have f_494 : Old Z n0 h_482 := (P2.keep K_486 all0)
              refine K.calls (argsL := [(.int (1 : Int32)), (.int e0), (.int e1)]) (rest := []) at_141 (pc' := 144) rfl (c_str1 l Z a0 hw n0 h_482 (cs := cs) (p := e0) (q := e1) sz_493 f_494 P3 hcs (by omega)) hw1 hw2 hw3 hw4 (by decide) pd_8 rfl rfl (W := 0) (by simp [Value.category]) (by decide) (by decide) (by decide) (by decide) (fun v_497 h_495 q_496 => ?_)
              obtain ⟨s2, d_498, rfl, K_499, f_500, f_501, f_502, f_503, f_504, f_505⟩ := q_496
              show G h_495 6 14 (mkF m 144 #[vi k1, vi k2, vi a, vi b, vi sh, vi ix, vi kt, vi ke, vi 2, vi 1, vi c0, vi c1, vi cp, vi e0, vi e1, vr s1, .unset, .unset, .unset] [(.ref s2)])
              refine K.astore at_144 (pc' := 146) rfl rfl (L' := #[vi k1, vi k2, vi a, vi b, vi sh, vi ix, vi kt, vi ke, vi 2, vi 1, vi c0, vi c1, vi cp, vi e0, vi e1, vr s1, vr s2, .unset, .unset]) rfl ?_
              refine K.newo at_146 (pc' := 149) rfl hw27 hw28 hw29 (by decide) (by decide) (fun h_507 o_506 g_o_506 E_508 x_o_506 D_o_506 => ?_)
              have sz_509 : n0 ≤ h_495.size := Nat.le_trans sz_493 K_499.1
              have ge_o_506 : n0 ≤ o_506 := g_o_506 ▸ sz_509
              have f_510 : Fld Z h_507 o_506 sT "kind" dK .null := D_o_506 (Or.inr hw46) (ty := (.object sK)) (by decide)
              have f_511 : Fld Z h_507 o_506 sT "text" "Ljava/lang/String;" .null := D_o_506 (Or.inr hw48) (ty := (.object sS)) (by decide)
              have f_512 : Fld Z h_507 o_506 sT "index" "I" (.int (0 : Int32)) := D_o_506 (Or.inr hw50) (ty := .int) (by decide)
              refine K.dup at_149 (pc' := 150) rfl rfl ?_
              refine K.iload at_150 (pc' := 152) rfl rfl ?_
              have f_513 : Old Z n0 h_507 := ((f_494.keep K_499 all0).ext E_508)
              refine K.calls (argsL := [(.int kt)]) (rest := [(.ref o_506), (.ref o_506)]) at_152 (pc' := 155) rfl (c_kind l Z a0 hw n0 h_507 (i := kt) (kf := kf) f_513 P5 P6 P7 P8 P9 P10 P11 P12 P13 P14 h_kt) hw30 hw31 hw3 hw32 (by decide) pd_9 rfl rfl (W := 2) (by simp [Value.category]) (by decide) (by decide) (by decide) (by decide) (fun v_516 h_514 q_515 => ?_)
              obtain ⟨rfl, rfl⟩ := q_515
              show G h_507 7 17 (mkF m 155 #[vi k1, vi k2, vi a, vi b, vi sh, vi ix, vi kt, vi ke, vi 2, vi 1, vi c0, vi c1, vi cp, vi e0, vi e1, vr s1, vr s2, .unset, .unset] [(.ref (kf kt.toInt.toNat)), (.ref o_506), (.ref o_506)])
              refine K.aload at_155 (pc' := 157) rfl rfl rfl ?_
              refine K.iload at_157 (pc' := 159) rfl rfl ?_
              refine K.callc (argsL := [(.ref (kf kt.toInt.toNat)), (.ref s1), (.int ix)]) (rest := [(.ref o_506)]) at_159 (pc' := 162) rfl rfl (c_tok l Z a0 hw n0 h_507 (a := o_506) (ka := (kf kt.toInt.toNat)) (s1 := s1) (ix := ix) x_o_506 ge_o_506 f_510 f_511 f_512) hw36 hw37 hw29 hw38 (by decide) pd_10 rfl rfl (W := 1) (by simp [Value.category]) (by decide) (by decide) (by decide) (by decide) (fun v_520 h_518 q_519 => ?_)
              obtain ⟨rfl, K_522, f_523, f_524⟩ := q_519
              show G h_518 7 17 (mkF m 162 #[vi k1, vi k2, vi a, vi b, vi sh, vi ix, vi kt, vi ke, vi 2, vi 1, vi c0, vi c1, vi cp, vi e0, vi e1, vr s1, vr s2, .unset, .unset] [(.ref o_506)])
              refine K.astore at_162 (pc' := 164) rfl rfl (L' := #[vi k1, vi k2, vi a, vi b, vi sh, vi ix, vi kt, vi ke, vi 2, vi 1, vi c0, vi c1, vi cp, vi e0, vi e1, vr s1, vr s2, vr o_506, .unset]) rfl ?_
              have J209 : ∀ jb : Int32, jb = b2 (False) → G h_518 7 17 (mkF m 209 #[vi k1, vi k2, vi a, vi b, vi sh, vi ix, vi kt, vi ke, vi 2, vi 1, vi c0, vi c1, vi cp, vi e0, vi e1, vr s1, vr s2, vr o_506, .unset] [(.int jb)]) := by
                intro jb hjb; subst hjb
                refine K.istore at_209 (pc' := 211) rfl (L' := #[vi k1, vi k2, vi a, vi b, vi sh, vi ix, vi kt, vi ke, vi 2, vi 1, vi c0, vi c1, vi cp, vi e0, vi e1, vr s1, vr s2, vr o_506, .val (.int (b2 (False)))]) rfl ?_
                refine K.aload at_211 (pc' := 213) rfl rfl rfl ?_
                refine K.iload at_213 (pc' := 215) rfl rfl ?_
                have f_525 : Old Z n0 h_518 := (f_513.keep K_522 (allS ge_o_506 all0))
                refine K.calls (argsL := [(.int ke)]) (rest := [(.ref o_506)]) at_215 (pc' := 218) rfl (c_kind l Z a0 hw n0 h_518 (i := ke) (kf := kf) f_525 P5 P6 P7 P8 P9 P10 P11 P12 P13 P14 h_ke) hw30 hw31 hw3 hw32 (by decide) pd_9 rfl rfl (W := 1) (by simp [Value.category]) (by decide) (by decide) (by decide) (by decide) (fun v_528 h_526 q_527 => ?_)
                obtain ⟨rfl, rfl⟩ := q_527
                show G h_518 7 17 (mkF m 218 #[vi k1, vi k2, vi a, vi b, vi sh, vi ix, vi kt, vi ke, vi 2, vi 1, vi c0, vi c1, vi cp, vi e0, vi e1, vr s1, vr s2, vr o_506, .val (.int (b2 (False)))] [(.ref (kf ke.toInt.toNat)), (.ref o_506)])
                refine K.aload at_218 (pc' := 220) rfl rfl rfl ?_
                have f_530 : Exa Z h_518 o_506 sT := (x_o_506.keep K_522)
                have ne_531 : s1 ≠ o_506 := (Nat.ne_of_lt (Nat.lt_of_lt_of_le f_489.lt (Nat.le_trans K_499.1 (Nat.le_of_eq g_o_506.symm))))
                have f_532 : Fld Z h_518 s1 sS "value" "[B" (.ref d_485) := (((f_490.keep K_499 nin0).ext E_508).keep K_522 (ninS ne_531 nin0))
                have ne_533 : s2 ≠ o_506 := (Nat.ne_of_lt (Nat.lt_of_lt_of_le f_502.lt (Nat.le_trans (Nat.le_refl _) (Nat.le_of_eq g_o_506.symm))))
                have f_534 : Fld Z h_518 s2 sS "value" "[B" (.ref d_498) := ((f_503.ext E_508).keep K_522 (ninS ne_533 nin0))
                have f_535 : Exa Z h_518 s1 sS := (((f_489.keep K_499).ext E_508).keep K_522)
                have f_536 : Exa Z h_518 s2 sS := ((f_502.ext E_508).keep K_522)
                have ne_537 : s1 ≠ s2 := (Nat.ne_of_lt (Nat.lt_of_lt_of_le f_489.lt (Nat.le_trans (Nat.le_refl _) f_500)))
                have f_538 : Fld Z h_518 s1 sS "coder" "B" (.int (0 : Int32)) := (((f_491.keep K_499 nin0).ext E_508).keep K_522 (ninS ne_531 nin0))
                have f_539 : Fld Z h_518 s2 sS "coder" "B" (.int (0 : Int32)) := ((f_504.ext E_508).keep K_522 (ninS ne_533 nin0))
                have ne_540 : d_485 ≠ o_506 := (Nat.ne_of_lt (Nat.lt_of_lt_of_le f_492.lt (Nat.le_trans K_499.1 (Nat.le_of_eq g_o_506.symm))))
                have f_541 : Ary Z h_518 d_485 .byte [(.int (c0.toInt8.toInt32)), (.int (c1.toInt8.toInt32))] := (((f_492.keep K_499 nin0).ext E_508).keep K_522 (ninS ne_540 nin0))
                have ne_542 : d_498 ≠ o_506 := (Nat.ne_of_lt (Nat.lt_of_lt_of_le f_505.lt (Nat.le_trans (Nat.le_refl _) (Nat.le_of_eq g_o_506.symm))))
                have f_543 : Ary Z h_518 d_498 .byte [(.int (e0.toInt8.toInt32))] := ((f_505.ext E_508).keep K_522 (ninS ne_542 nin0))
                refine K.callv (z := (⟨sT, "is", "(Lcom/example/ltl_to_omega/ltltoomega/hoa/HoaLexer$Kind;Ljava/lang/String;)Z"⟩ : MethodName)) (argsL := [(.ref (kf ke.toInt.toNat)), (.ref s2)]) (rest := []) at_220 (pc' := 223) rfl (c_isN l Z a0 hw n0 h_518 (a := o_506) (ka := (kf kt.toInt.toNat)) (kb := (kf ke.toInt.toNat)) (cs := cs) (s1 := s1) (s2 := s2) (d := d_485) (e := d_498) (vs := [(.int (c0.toInt8.toInt32)), (.int (c1.toInt8.toInt32))]) (ws := [(.int (e0.toInt8.toInt32))]) f_530 f_523 f_524 f_525 P3 hcs f_535 f_536 ne_537 f_538 f_532 f_539 f_534 f_541 f_543 (by simp)) f_530 hw53 hw54 (nf_sel hw56 rfl) hw56 hw55 hw29 hw57 (by decide) pd_11 rfl rfl (W := 0) (by simp [Value.category]) (by decide) (by decide) (by decide) (by decide) (fun v_546 h_544 q_545 => ?_)
                obtain ⟨rfl, rfl⟩ := q_545
                show G h_518 7 17 (mkF m 223 #[vi k1, vi k2, vi a, vi b, vi sh, vi ix, vi kt, vi ke, vi 2, vi 1, vi c0, vi c1, vi cp, vi e0, vi e1, vr s1, vr s2, vr o_506, .val (.int (b2 (False)))] [(.int (b2 ((kf kt.toInt.toNat) = (kf ke.toInt.toNat) ∧ (False))))])
                refine K.iload at_223 (pc' := 225) rfl rfl ?_
                refine K.icmpneB at_225 (pc1 := 228) rfl (by decide) (pc2 := 232) (by decide) (fun c225 => ?_) (fun c225 => ?_)
                · exfalso; exact c225 (by simp)
                · refine K.iconst at_228 (pc' := 229) rfl (z := 1) rfl ?_
                  refine K.goto at_229 (by decide) (pc' := 233) (by decide) ?_
                  exact K.retz at_233 (Or.inr rfl) (by decide) (by decide) rfl
              refine K.iload at_164 (pc' := 166) rfl rfl ?_
              refine K.iload at_166 (pc' := 168) rfl rfl ?_
              refine K.icmp_ne at_168 (pc1 := 171) rfl (by decide) (pc2 := 208) (by decide) (a := kt.toInt) (b := ke.toInt) rfl rfl (fun c168 => ?_) (fun c168 => ?_)
              · refine K.iconst at_208 (pc' := 209) rfl (z := 0) rfl ?_
                exact J209 _ (b2_f (by first | omega | simp)).symm
              · refine K.iload at_171 (pc' := 173) rfl rfl ?_
                refine K.iload at_173 (pc' := 175) rfl rfl ?_
                refine K.icmp_ne at_175 (pc1 := 178) rfl (by decide) (pc2 := 208) (by decide) (a := 2) (b := 1) rfl rfl (fun c175 => ?_) (fun c175 => ?_)
                · refine K.iconst at_208 (pc' := 209) rfl (z := 0) rfl ?_
                  exact J209 _ (b2_f (by first | omega | simp)).symm
                · exfalso; omega
            · refine K.iload at_124 (pc' := 126) rfl rfl ?_
              refine K.iload at_126 (pc' := 128) rfl rfl ?_
              refine K.iload at_128 (pc' := 130) rfl rfl ?_
              refine K.calls (argsL := [(.int (2 : Int32)), (.int c0), (.int c1)]) (rest := []) at_130 (pc' := 133) rfl (c_str2 l Z a0 hw n0 h (cs := cs) (p := c0) (q := c1) Z0 P2 P3 hcs (by omega) (by omega)) hw1 hw2 hw3 hw4 (by decide) pd_8 rfl rfl (W := 0) (by simp [Value.category]) (by decide) (by decide) (by decide) (by decide) (fun v_550 h_548 q_549 => ?_)
              obtain ⟨s1, d_551, rfl, K_552, f_553, f_554, f_555, f_556, f_557, f_558⟩ := q_549
              show G h_548 3 8 (mkF m 133 #[vi k1, vi k2, vi a, vi b, vi sh, vi ix, vi kt, vi ke, vi 2, vi 2, vi c0, vi c1, vi cp, vi e0, vi e1, .unset, .unset, .unset, .unset] [(.ref s1)])
              refine K.astore at_133 (pc' := 135) rfl rfl (L' := #[vi k1, vi k2, vi a, vi b, vi sh, vi ix, vi kt, vi ke, vi 2, vi 2, vi c0, vi c1, vi cp, vi e0, vi e1, vr s1, .unset, .unset, .unset]) rfl ?_
              refine K.iload at_135 (pc' := 137) rfl rfl ?_
              refine K.iload at_137 (pc' := 139) rfl rfl ?_
              refine K.iload at_139 (pc' := 141) rfl rfl ?_
              have sz_559 : n0 ≤ h_548.size := Nat.le_trans Z0 K_552.1
              have f_560 : Old Z n0 h_548 := (P2.keep K_552 all0)
              refine K.calls (argsL := [(.int (2 : Int32)), (.int e0), (.int e1)]) (rest := []) at_141 (pc' := 144) rfl (c_str2 l Z a0 hw n0 h_548 (cs := cs) (p := e0) (q := e1) sz_559 f_560 P3 hcs (by omega) (by omega)) hw1 hw2 hw3 hw4 (by decide) pd_8 rfl rfl (W := 0) (by simp [Value.category]) (by decide) (by decide) (by decide) (by decide) (fun v_563 h_561 q_562 => ?_)
              obtain ⟨s2, d_564, rfl, K_565, f_566, f_567, f_568, f_569, f_570, f_571⟩ := q_562
              show G h_561 6 16 (mkF m 144 #[vi k1, vi k2, vi a, vi b, vi sh, vi ix, vi kt, vi ke, vi 2, vi 2, vi c0, vi c1, vi cp, vi e0, vi e1, vr s1, .unset, .unset, .unset] [(.ref s2)])
              refine K.astore at_144 (pc' := 146) rfl rfl (L' := #[vi k1, vi k2, vi a, vi b, vi sh, vi ix, vi kt, vi ke, vi 2, vi 2, vi c0, vi c1, vi cp, vi e0, vi e1, vr s1, vr s2, .unset, .unset]) rfl ?_
              refine K.newo at_146 (pc' := 149) rfl hw27 hw28 hw29 (by decide) (by decide) (fun h_573 o_572 g_o_572 E_574 x_o_572 D_o_572 => ?_)
              have sz_575 : n0 ≤ h_561.size := Nat.le_trans sz_559 K_565.1
              have ge_o_572 : n0 ≤ o_572 := g_o_572 ▸ sz_575
              have f_576 : Fld Z h_573 o_572 sT "kind" dK .null := D_o_572 (Or.inr hw46) (ty := (.object sK)) (by decide)
              have f_577 : Fld Z h_573 o_572 sT "text" "Ljava/lang/String;" .null := D_o_572 (Or.inr hw48) (ty := (.object sS)) (by decide)
              have f_578 : Fld Z h_573 o_572 sT "index" "I" (.int (0 : Int32)) := D_o_572 (Or.inr hw50) (ty := .int) (by decide)
              refine K.dup at_149 (pc' := 150) rfl rfl ?_
              refine K.iload at_150 (pc' := 152) rfl rfl ?_
              have f_579 : Old Z n0 h_573 := ((f_560.keep K_565 all0).ext E_574)
              refine K.calls (argsL := [(.int kt)]) (rest := [(.ref o_572), (.ref o_572)]) at_152 (pc' := 155) rfl (c_kind l Z a0 hw n0 h_573 (i := kt) (kf := kf) f_579 P5 P6 P7 P8 P9 P10 P11 P12 P13 P14 h_kt) hw30 hw31 hw3 hw32 (by decide) pd_9 rfl rfl (W := 2) (by simp [Value.category]) (by decide) (by decide) (by decide) (by decide) (fun v_582 h_580 q_581 => ?_)
              obtain ⟨rfl, rfl⟩ := q_581
              show G h_573 7 19 (mkF m 155 #[vi k1, vi k2, vi a, vi b, vi sh, vi ix, vi kt, vi ke, vi 2, vi 2, vi c0, vi c1, vi cp, vi e0, vi e1, vr s1, vr s2, .unset, .unset] [(.ref (kf kt.toInt.toNat)), (.ref o_572), (.ref o_572)])
              refine K.aload at_155 (pc' := 157) rfl rfl rfl ?_
              refine K.iload at_157 (pc' := 159) rfl rfl ?_
              refine K.callc (argsL := [(.ref (kf kt.toInt.toNat)), (.ref s1), (.int ix)]) (rest := [(.ref o_572)]) at_159 (pc' := 162) rfl rfl (c_tok l Z a0 hw n0 h_573 (a := o_572) (ka := (kf kt.toInt.toNat)) (s1 := s1) (ix := ix) x_o_572 ge_o_572 f_576 f_577 f_578) hw36 hw37 hw29 hw38 (by decide) pd_10 rfl rfl (W := 1) (by simp [Value.category]) (by decide) (by decide) (by decide) (by decide) (fun v_586 h_584 q_585 => ?_)
              obtain ⟨rfl, K_588, f_589, f_590⟩ := q_585
              show G h_584 7 19 (mkF m 162 #[vi k1, vi k2, vi a, vi b, vi sh, vi ix, vi kt, vi ke, vi 2, vi 2, vi c0, vi c1, vi cp, vi e0, vi e1, vr s1, vr s2, .unset, .unset] [(.ref o_572)])
              refine K.astore at_162 (pc' := 164) rfl rfl (L' := #[vi k1, vi k2, vi a, vi b, vi sh, vi ix, vi kt, vi ke, vi 2, vi 2, vi c0, vi c1, vi cp, vi e0, vi e1, vr s1, vr s2, vr o_572, .unset]) rfl ?_
              have J209 : ∀ jb : Int32, jb = b2 (kt.toInt = ke.toInt ∧ c0.toInt = e0.toInt ∧ c1.toInt = e1.toInt) → G h_584 7 19 (mkF m 209 #[vi k1, vi k2, vi a, vi b, vi sh, vi ix, vi kt, vi ke, vi 2, vi 2, vi c0, vi c1, vi cp, vi e0, vi e1, vr s1, vr s2, vr o_572, .unset] [(.int jb)]) := by
                intro jb hjb; subst hjb
                refine K.istore at_209 (pc' := 211) rfl (L' := #[vi k1, vi k2, vi a, vi b, vi sh, vi ix, vi kt, vi ke, vi 2, vi 2, vi c0, vi c1, vi cp, vi e0, vi e1, vr s1, vr s2, vr o_572, .val (.int (b2 (kt.toInt = ke.toInt ∧ c0.toInt = e0.toInt ∧ c1.toInt = e1.toInt)))]) rfl ?_
                refine K.aload at_211 (pc' := 213) rfl rfl rfl ?_
                refine K.iload at_213 (pc' := 215) rfl rfl ?_
                have f_591 : Old Z n0 h_584 := (f_579.keep K_588 (allS ge_o_572 all0))
                refine K.calls (argsL := [(.int ke)]) (rest := [(.ref o_572)]) at_215 (pc' := 218) rfl (c_kind l Z a0 hw n0 h_584 (i := ke) (kf := kf) f_591 P5 P6 P7 P8 P9 P10 P11 P12 P13 P14 h_ke) hw30 hw31 hw3 hw32 (by decide) pd_9 rfl rfl (W := 1) (by simp [Value.category]) (by decide) (by decide) (by decide) (by decide) (fun v_594 h_592 q_593 => ?_)
                obtain ⟨rfl, rfl⟩ := q_593
                show G h_584 7 19 (mkF m 218 #[vi k1, vi k2, vi a, vi b, vi sh, vi ix, vi kt, vi ke, vi 2, vi 2, vi c0, vi c1, vi cp, vi e0, vi e1, vr s1, vr s2, vr o_572, .val (.int (b2 (kt.toInt = ke.toInt ∧ c0.toInt = e0.toInt ∧ c1.toInt = e1.toInt)))] [(.ref (kf ke.toInt.toNat)), (.ref o_572)])
                refine K.aload at_218 (pc' := 220) rfl rfl rfl ?_
                have f_596 : Exa Z h_584 o_572 sT := (x_o_572.keep K_588)
                have ne_597 : s1 ≠ o_572 := (Nat.ne_of_lt (Nat.lt_of_lt_of_le f_555.lt (Nat.le_trans K_565.1 (Nat.le_of_eq g_o_572.symm))))
                have f_598 : Fld Z h_584 s1 sS "value" "[B" (.ref d_551) := (((f_556.keep K_565 nin0).ext E_574).keep K_588 (ninS ne_597 nin0))
                have ne_599 : s2 ≠ o_572 := (Nat.ne_of_lt (Nat.lt_of_lt_of_le f_568.lt (Nat.le_trans (Nat.le_refl _) (Nat.le_of_eq g_o_572.symm))))
                have f_600 : Fld Z h_584 s2 sS "value" "[B" (.ref d_564) := ((f_569.ext E_574).keep K_588 (ninS ne_599 nin0))
                have f_601 : Exa Z h_584 s1 sS := (((f_555.keep K_565).ext E_574).keep K_588)
                have f_602 : Exa Z h_584 s2 sS := ((f_568.ext E_574).keep K_588)
                have ne_603 : s1 ≠ s2 := (Nat.ne_of_lt (Nat.lt_of_lt_of_le f_555.lt (Nat.le_trans (Nat.le_refl _) f_566)))
                have f_604 : Fld Z h_584 s1 sS "coder" "B" (.int (0 : Int32)) := (((f_557.keep K_565 nin0).ext E_574).keep K_588 (ninS ne_597 nin0))
                have f_605 : Fld Z h_584 s2 sS "coder" "B" (.int (0 : Int32)) := ((f_570.ext E_574).keep K_588 (ninS ne_599 nin0))
                have ne_606 : d_551 ≠ o_572 := (Nat.ne_of_lt (Nat.lt_of_lt_of_le f_558.lt (Nat.le_trans K_565.1 (Nat.le_of_eq g_o_572.symm))))
                have f_607 : Ary Z h_584 d_551 .byte [(.int (c0.toInt8.toInt32)), (.int (c1.toInt8.toInt32))] := (((f_558.keep K_565 nin0).ext E_574).keep K_588 (ninS ne_606 nin0))
                have ne_608 : d_564 ≠ o_572 := (Nat.ne_of_lt (Nat.lt_of_lt_of_le f_571.lt (Nat.le_trans (Nat.le_refl _) (Nat.le_of_eq g_o_572.symm))))
                have f_609 : Ary Z h_584 d_564 .byte [(.int (e0.toInt8.toInt32)), (.int (e1.toInt8.toInt32))] := ((f_571.ext E_574).keep K_588 (ninS ne_608 nin0))
                refine K.callv (z := (⟨sT, "is", "(Lcom/example/ltl_to_omega/ltltoomega/hoa/HoaLexer$Kind;Ljava/lang/String;)Z"⟩ : MethodName)) (argsL := [(.ref (kf ke.toInt.toNat)), (.ref s2)]) (rest := []) at_220 (pc' := 223) rfl (c_is2 l Z a0 hw n0 h_584 (a := o_572) (ka := (kf kt.toInt.toNat)) (kb := (kf ke.toInt.toNat)) (cs := cs) (s1 := s1) (s2 := s2) (d := d_551) (e := d_564) (x0 := (c0.toInt8.toInt32)) (x1 := (c1.toInt8.toInt32)) (y0 := (e0.toInt8.toInt32)) (y1 := (e1.toInt8.toInt32)) f_596 f_589 f_590 f_591 P3 hcs f_601 f_602 ne_603 f_604 f_598 f_605 f_600 f_607 f_609) f_596 hw53 hw54 (nf_sel hw56 rfl) hw56 hw55 hw29 hw57 (by decide) pd_11 rfl rfl (W := 0) (by simp [Value.category]) (by decide) (by decide) (by decide) (by decide) (fun v_612 h_610 q_611 => ?_)
                obtain ⟨rfl, rfl⟩ := q_611
                show G h_584 7 19 (mkF m 223 #[vi k1, vi k2, vi a, vi b, vi sh, vi ix, vi kt, vi ke, vi 2, vi 2, vi c0, vi c1, vi cp, vi e0, vi e1, vr s1, vr s2, vr o_572, .val (.int (b2 (kt.toInt = ke.toInt ∧ c0.toInt = e0.toInt ∧ c1.toInt = e1.toInt)))] [(.int (b2 ((kf kt.toInt.toNat) = (kf ke.toInt.toNat) ∧ ((c0.toInt8.toInt32).toInt = (e0.toInt8.toInt32).toInt ∧ (c1.toInt8.toInt32).toInt = (e1.toInt8.toInt32).toInt))))])
                refine K.iload at_223 (pc' := 225) rfl rfl ?_
                refine K.icmpneB at_225 (pc1 := 228) rfl (by decide) (pc2 := 232) (by decide) (fun c225 => ?_) (fun c225 => ?_)
                · exfalso; exact c225 (iff2 hinj h_kt h_ke t_c0 t_e0 t_c1 t_e1)
                · refine K.iconst at_228 (pc' := 229) rfl (z := 1) rfl ?_
                  refine K.goto at_229 (by decide) (pc' := 233) (by decide) ?_
                  exact K.retz at_233 (Or.inr rfl) (by decide) (by decide) rfl
              refine K.iload at_164 (pc' := 166) rfl rfl ?_
              refine K.iload at_166 (pc' := 168) rfl rfl ?_
              refine K.icmp_ne at_168 (pc1 := 171) rfl (by decide) (pc2 := 208) (by decide) (a := kt.toInt) (b := ke.toInt) rfl rfl (fun c168 => ?_) (fun c168 => ?_)
              · refine K.iconst at_208 (pc' := 209) rfl (z := 0) rfl ?_
                exact J209 _ (b2_f (by first | omega | simp)).symm
              · refine K.iload at_171 (pc' := 173) rfl rfl ?_
                refine K.iload at_173 (pc' := 175) rfl rfl ?_
                refine K.icmp_ne at_175 (pc1 := 178) rfl (by decide) (pc2 := 208) (by decide) (a := 2) (b := 2) rfl rfl (fun c175 => ?_) (fun c175 => ?_)
                · exfalso; omega
                · refine K.iload at_178 (pc' := 180) rfl rfl ?_
                  refine K.iconst at_180 (pc' := 181) rfl (z := 1) rfl ?_
                  refine K.icmp_lt at_181 (pc1 := 184) rfl (by decide) (pc2 := 191) (by decide) (a := 2) (b := 1) rfl rfl (fun c181 => ?_) (fun c181 => ?_)
                  · exfalso; omega
                  · refine K.iload at_184 (pc' := 186) rfl rfl ?_
                    refine K.iload at_186 (pc' := 188) rfl rfl ?_
                    refine K.icmp_ne at_188 (pc1 := 191) rfl (by decide) (pc2 := 208) (by decide) (a := c0.toInt) (b := e0.toInt) rfl rfl (fun c188 => ?_) (fun c188 => ?_)
                    · refine K.iconst at_208 (pc' := 209) rfl (z := 0) rfl ?_
                      exact J209 _ (b2_f (by first | omega | simp)).symm
                    · refine K.iload at_191 (pc' := 193) rfl rfl ?_
                      refine K.iconst at_193 (pc' := 194) rfl (z := 2) rfl ?_
                      refine K.icmp_lt at_194 (pc1 := 197) rfl (by decide) (pc2 := 204) (by decide) (a := 2) (b := 2) rfl rfl (fun c194 => ?_) (fun c194 => ?_)
                      · exfalso; omega
                      · refine K.iload at_197 (pc' := 199) rfl rfl ?_
                        refine K.iload at_199 (pc' := 201) rfl rfl ?_
                        refine K.icmp_ne at_201 (pc1 := 204) rfl (by decide) (pc2 := 208) (by decide) (a := c1.toInt) (b := e1.toInt) rfl rfl (fun c201 => ?_) (fun c201 => ?_)
                        · refine K.iconst at_208 (pc' := 209) rfl (z := 0) rfl ?_
                          exact J209 _ (b2_f (by first | omega | simp)).symm
                        · refine K.iconst at_204 (pc' := 205) rfl (z := 1) rfl ?_
                          refine K.goto at_205 (by decide) (pc' := 209) (by decide) ?_
                          exact J209 _ (b2_t (by first | omega | simp)).symm
        refine K.iload at_103 (pc' := 105) rfl rfl ?_
        refine K.if_eq at_105 (pc1 := 108) rfl (by decide) (pc2 := 113) (by decide) (a := cp.toInt) rfl (fun c105 => ?_) (fun c105 => ?_)
        · refine K.iloadN at_113 (pc' := 114) rfl rfl ?_
          refine K.bipush at_114 (pc' := 116) rfl (z := 8) rfl ?_
          obtain ⟨z116, e_z116⟩ : ∃ z, (b.toUInt32 >>> ((8 : Int32) &&& 31).toUInt32).toInt32 = z := ⟨_, rfl⟩
          have r_z116 : z116.toInt = (b.toInt % 4294967296) / 256 := by have q := c_iushr b (8 : Int32) 8 (by decide) (by decide); rw [e_z116] at q; exact q
          refine K.iushr at_116 (pc' := 117) rfl e_z116 ?_
          refine K.sipush at_117 (pc' := 120) rfl (z := 255) rfl ?_
          obtain ⟨v1, e_v1⟩ : ∃ z, z116 &&& (255 : Int32) = z := ⟨_, rfl⟩
          have r_v1 : v1.toInt = z116.toInt % 256 := by have q := c_mask z116 (255 : Int32) 8 (by decide) (by decide); rw [e_v1] at q; exact q
          have t_v1 : 0 ≤ v1.toInt ∧ v1.toInt ≤ 255 := by omega
          clear r_v1
          refine K.iand at_120 (pc' := 121) rfl e_v1 ?_
          obtain ⟨e10, e_e10⟩ : ∃ z, v1.toUInt32.toUInt16.toUInt32.toInt32 = z := ⟨_, rfl⟩
          have r_e10 : (e10.toInt - v1.toInt) % 65536 = 0 ∧ 0 ≤ e10.toInt ∧ e10.toInt < 65536 := by have q := c_i2c v1; rw [e_e10] at q; exact q
          have t_e10 : 0 ≤ e10.toInt ∧ e10.toInt ≤ 255 := by omega
          clear r_e10
          refine K.i2c at_121 (pc' := 122) rfl e_e10 ?_
          exact J122 _ (by omega)
        · refine K.iload at_108 (pc' := 110) rfl rfl ?_
          refine K.goto at_110 (by decide) (pc' := 122) (by decide) ?_
          exact J122 _ (by omega)
      refine K.iload at_85 (pc' := 87) rfl rfl ?_
      refine K.if_eq at_87 (pc1 := 90) rfl (by decide) (pc2 := 95) (by decide) (a := cp.toInt) rfl (fun c87 => ?_) (fun c87 => ?_)
      · refine K.iloadN at_95 (pc' := 96) rfl rfl ?_
        refine K.sipush at_96 (pc' := 99) rfl (z := 255) rfl ?_
        obtain ⟨v0, e_v0⟩ : ∃ z, b &&& (255 : Int32) = z := ⟨_, rfl⟩
        have r_v0 : v0.toInt = b.toInt % 256 := by have q := c_mask b (255 : Int32) 8 (by decide) (by decide); rw [e_v0] at q; exact q
        have t_v0 : 0 ≤ v0.toInt ∧ v0.toInt ≤ 255 := by omega
        clear r_v0
        refine K.iand at_99 (pc' := 100) rfl e_v0 ?_
        obtain ⟨e00, e_e00⟩ : ∃ z, v0.toUInt32.toUInt16.toUInt32.toInt32 = z := ⟨_, rfl⟩
        have r_e00 : (e00.toInt - v0.toInt) % 65536 = 0 ∧ 0 ≤ e00.toInt ∧ e00.toInt < 65536 := by have q := c_i2c v0; rw [e_e00] at q; exact q
        have t_e00 : 0 ≤ e00.toInt ∧ e00.toInt ≤ 255 := by omega
        clear r_e00
        refine K.i2c at_100 (pc' := 101) rfl e_e00 ?_
        exact J101 _ (by omega)
      · refine K.iload at_90 (pc' := 92) rfl rfl ?_
        refine K.goto at_92 (by decide) (pc' := 101) (by decide) ?_
        exact J101 _ (by omega)
    refine K.iload at_69 (pc' := 71) rfl rfl ?_
    refine K.iconst at_71 (pc' := 72) rfl (z := 4) rfl ?_
    obtain ⟨z72, e_z72⟩ : ∃ z, (sh.toUInt32 >>> ((4 : Int32) &&& 31).toUInt32).toInt32 = z := ⟨_, rfl⟩
    have r_z72 : z72.toInt = (sh.toInt % 4294967296) / 16 := by have q := c_iushr sh (4 : Int32) 4 (by decide) (by decide); rw [e_z72] at q; exact q
    refine K.iushr at_72 (pc' := 73) rfl e_z72 ?_
    refine K.iconst at_73 (pc' := 74) rfl (z := 1) rfl ?_
    obtain ⟨z74, e_z74⟩ : ∃ z, z72 &&& (1 : Int32) = z := ⟨_, rfl⟩
    have r_z74 : z74.toInt = z72.toInt % 2 := by have q := c_mask z72 (1 : Int32) 1 (by decide) (by decide); rw [e_z74] at q; exact q
    refine K.iand at_74 (pc' := 75) rfl e_z74 ?_
    refine K.if_eq at_75 (pc1 := 78) rfl (by decide) (pc2 := 82) (by decide) (a := z74.toInt) rfl (fun c75 => ?_) (fun c75 => ?_)
    · refine K.iconst at_82 (pc' := 83) rfl (z := 0) rfl ?_
      exact J83 _ (by trivial)
    · refine K.iconst at_78 (pc' := 79) rfl (z := 1) rfl ?_
      refine K.goto at_79 (by decide) (pc' := 83) (by decide) ?_
      exact J83 _ (by trivial)
  refine K.iload at_9 (pc' := 11) rfl rfl ?_
  refine K.iconst at_11 (pc' := 12) rfl (z := 5) rfl ?_
  obtain ⟨z12, e_z12⟩ : ∃ z, (sh.toUInt32 >>> ((5 : Int32) &&& 31).toUInt32).toInt32 = z := ⟨_, rfl⟩
  have r_z12 : z12.toInt = (sh.toInt % 4294967296) / 32 := by have q := c_iushr sh (5 : Int32) 5 (by decide) (by decide); rw [e_z12] at q; exact q
  refine K.iushr at_12 (pc' := 13) rfl e_z12 ?_
  refine K.iconst at_13 (pc' := 14) rfl (z := 1) rfl ?_
  obtain ⟨z14, e_z14⟩ : ∃ z, z12 &&& (1 : Int32) = z := ⟨_, rfl⟩
  have r_z14 : z14.toInt = z12.toInt % 2 := by have q := c_mask z12 (1 : Int32) 1 (by decide) (by decide); rw [e_z14] at q; exact q
  refine K.iand at_14 (pc' := 15) rfl e_z14 ?_
  refine K.if_eq at_15 (pc1 := 18) rfl (by decide) (pc2 := 23) (by decide) (a := z14.toInt) rfl (fun c15 => ?_) (fun c15 => ?_)
  · refine K.iloadN at_23 (pc' := 24) rfl rfl ?_
    refine K.ldcI at_24 (pc' := 26) rfl hw0 ?_
    obtain ⟨m1, e_m1⟩ : ∃ z, k2 &&& (2147483647 : Int32) = z := ⟨_, rfl⟩
    have r_m1 : m1.toInt = k2.toInt % 2147483648 := by have q := c_mask k2 (2147483647 : Int32) 31 (by decide) (by decide); rw [e_m1] at q; exact q
    have t_m1 : 0 ≤ m1.toInt := by omega
    clear r_m1
    refine K.iand at_26 (pc' := 27) rfl e_m1 ?_
    refine K.bipush at_27 (pc' := 29) rfl (z := 10) rfl ?_
    obtain ⟨ke0, e_ke0⟩ : ∃ z, m1 % (10 : Int32) = z := ⟨_, rfl⟩
    have r_ke0 : (0 ≤ m1.toInt → ke0.toInt = m1.toInt % 10) ∧ (m1.toInt < 0 → ke0.toInt = -((-m1.toInt) % 10)) := by have q := c_irem m1 (10 : Int32) 10 rfl; rw [e_ke0] at q; exact q
    have t_ke0 : 0 ≤ ke0.toInt ∧ ke0.toInt ≤ 9 := by omega
    clear r_ke0
    refine K.irem at_29 (pc' := 30) rfl (by decide) e_ke0 ?_
    exact J30 _ (by omega)
  · refine K.iload at_18 (pc' := 20) rfl rfl ?_
    refine K.goto at_20 (by decide) (pc' := 30) (by decide) ?_
    exact J30 _ (by omega)
set_option maxRecDepth 65536 in
set_option maxHeartbeats 40000000 in
theorem comes_1 {Post : Tables → Env → Array Value → State → Outcome → State → Prop} (hpost : ∀ tb e args s v u, (limb_1_1.after args s (.returned v) u = true ∧ limb_1_2.after args s (.returned v) u = true ∧ True) → FramedW s (.returned v) u (Jvm.fieldLocs frame_1_writes args s ++ Jvm.arrayLocs frame_1_arrays args s ++ Jvm.staticLocs frame_1_statics s) 24 1152 → Post tb e args s (.returned v) u) :
    ArmFor flags0 classFile x code maxLocals ret World_1 tables_1 room_1 Calls_1 rest_1 Pre_1 Post := by
  intro l hfl _ _ p e ha hc hk s m args below hf hA hF happ hP
  obtain ⟨hcalls, hrest, hpre⟩ := hP
  obtain ⟨-, -, -, hnamed, -, -, -, hat⟩ := (Spec.applies_iff hf).mp happ
  obtain ⟨hg, hn⟩ := and_e (Cond.before_iff.mp (show (Jvm.Cond.and given_1 narrow_1).before args s = true from hpre))
  obtain ⟨k0, j0⟩ := and_e hg
  obtain ⟨k1, j1⟩ := and_e j0
  obtain ⟨k2, j2⟩ := and_e j1
  obtain ⟨k3, j3⟩ := and_e j2
  obtain ⟨k4, j4⟩ := and_e j3
  obtain ⟨k5, j5⟩ := and_e j4
  obtain ⟨w0, w1, w2, w3, w4, w5, rfl⟩ : ∃ w0 w1 w2 w3 w4 w5 : Value, args = #[w0, w1, w2, w3, w4, w5] := by
    have hs : args.size = 6 := by simpa [Cond.value, given_1] using k0
    obtain ⟨L⟩ := args
    match L, hs with
    | [w0, w1, w2, w3, w4, w5], _ => exact ⟨w0, w1, w2, w3, w4, w5, rfl⟩
  have hw := fun d (hd : d ∈ tables_1) => atoms_spec (ws := Jvm.Cond.code x code maxLocals ret :: tables_1) hat d (List.mem_cons_of_mem _ hd)
  have hfit : Fit s := fun {y c} hc i hi => by
    obtain ⟨ha, rfl⟩ := Array.getElem?_eq_some_iff.mp hc
    have q := List.all_eq_true.mp ((Array.all_eq_true_iff_forall_mem.mp hF) _ (Array.getElem_mem ha)) i (List.mem_range.mpr hi)
    simpa [Array.getElem?_eq_getElem hi] using q
  obtain ⟨i0, ei0⟩ := is_v k1
  obtain rfl : w0 = (.int i0) := Option.some.inj ei0
  obtain ⟨i1, ei1⟩ := is_v k2
  obtain rfl : w1 = (.int i1) := Option.some.inj ei1
  obtain ⟨i2, ei2⟩ := is_v k3
  obtain rfl : w2 = (.int i2) := Option.some.inj ei2
  obtain ⟨i3, ei3⟩ := is_v k4
  obtain rfl : w3 = (.int i3) := Option.some.inj ei3
  obtain ⟨i4, ei4⟩ := is_v k5
  obtain rfl : w4 = (.int i4) := Option.some.inj ei4
  obtain ⟨i5, ei5⟩ := is_v j5
  obtain rfl : w5 = (.int i5) := Option.some.inj ei5
  obtain ⟨cs, kf, hcs, hcw, hinj, XS, X0, X1, X2, X3, X4, X5, X6, X7, X8, X9⟩ := st_start hw (show rest_1_c.before _ s = true from hrest) hn
  have hh : Jvm.Lit.constHeld s sS 7 := hcalls.1 (sS, 7) (by simp [consts_1])
  obtain ⟨n, o, h1, h2, h3, _, L, rfl, ⟨⟨_, -, rfl⟩, N⟩, hq⟩ := c_law l s _ hw s.heap.size s.heap i0 i1 i2 i3 i4 i5 cs kf (Nat.le_refl _) (Old.start s) XS hcs X0 X1 X2 X3 X4 X5 X6 X7 X8 X9 hh hcw hinj tables_1 p e ha hc hk s m _ below hf ((Spec.applies_iff_loose hf).mp happ).1 ⟨rfl, State.Warmed39.refl s, rfl, IB.start⟩ trivial
  refine ⟨n, _, h1, h2, h3, hpost _ _ _ _ _ _ ⟨Cond.after_iff.mpr rfl, Cond.after_iff.mpr (eq_i res_at (Term.int_eval (1)) rfl), trivial⟩ ⟨hq.1, hq.2.1, hq.2.2.1, (hq.2.2.2.sift fun y hy => Or.inr (N y hy)).mono (by decide) (by decide)⟩⟩
theorem main_1_1 : Claimed_1_1 := comes_1 fun _ _ _ _ _ _ h hF => ⟨h.1, hF⟩
theorem main_1_2 : Claimed_1_2 := comes_1 fun _ _ _ _ _ _ h hF => ⟨h.2.1, hF⟩
end Jvm.Pilot.@@N@@
namespace Jvm.Pilot.@@N@@
open Jvm Jvm.ClassFile Sem Op Lib Jvm.Free Jvm.Stand Jvm.Pilot.@@N@@.Jvm.D
/-! MADE BY PROGRAM (witnessworld.py) out of the Statement's table words and the real class files: 23 classes; the members and pool entries that the words name. The judged class is class 1, her method 3. -/
namespace start1
open Jvm.ClassFile
def u (s : String) : CpInfo := .utf8 (stringToUtf16 s)
/-- a pool by its gaps: so many unusable entries, then the entry; so many at the end -/
def gap : Nat → List CpInfo → List CpInfo
  | 0, r => r
  | n + 1, r => .unusable :: gap n r
def poolList (es : List (Nat × CpInfo)) (last : Nat) : List CpInfo := es.foldr (fun e r => gap e.1 (e.2 :: r)) (gap last [])
def pool (es : List (Nat × CpInfo)) (last : Nat) : Array CpInfo := ⟨poolList es last⟩
def fileOf (pool : Array CpInfo) (this : Nat) (attrs : Array Attribute := #[]) (ms : Array MethodInfo := #[]) (fl : Nat := 33) (sup : Nat := 0) (ifs : Array Nat := #[]) (fds : Array FieldInfo := #[]) : ClassFile where
  minorVersion := 0
  majorVersion := 65
  constantPool := pool
  accessFlags := fl
  thisClass := this
  superClass := sup
  interfaces := ifs
  fields := fds
  methods := ms
  attributes := attrs
def plain (name : String) (sup : Option ClassId) : Class where
  name := name
  kind := .ordinary
  loader := none
  accessFlags := 33
  super := sup
  interfaces := #[]
  cf := none
  fields := #[]
  methods := #[]
  instanceTypes := #[]
  staticTypes := #[]
  resolved := #[]
  callSites := []
  init := .initialized
  statics := none
  mirror := none

def pool0 : Array CpInfo := pool [(5, u "<init>"), (0, u "()V"), (1, .class_ 10), (1, u "java/lang/Object")] 113

def k0c0 : Code := { maxStack := 0, maxLocals := 1, code := object_method_1_code, exceptionTable := #[], attributes := #[] }
def k0m0 : Method := { name := "<init>", desc := "()V", sig := { parameters := [], returnType := none }, accessFlags := 1, code := some k0c0 }
/-- java/lang/Object -/
def k0 : Class := { plain "java/lang/Object" none with
  accessFlags := 33
  interfaces := #[]
  cf := some (fileOf pool0 8 #[] #[{ accessFlags := 1, nameIndex := 5, descriptorIndex := 6, attributes := #[] }] 33 0 #[] #[])
  fields := #[]
  methods := #[k0m0]
  instanceTypes := #[]
  staticTypes := #[]
  resolved := Array.replicate 124 none
  statics := none }

def pool1 : Array CpInfo := pool [(2, .class_ 4), (1, u "java/lang/Object"), (0, u "<init>"), (0, u "()V"), (0, .fieldref 8 9), (0, .class_ 10), (0, .nameAndType 11 12), (0, u "com/example/ltl_to_omega/ltltoomega/hoa/HoaLexer$Kind"), (0, u "HEADER"), (0, u "Lcom/example/ltl_to_omega/ltltoomega/hoa/HoaLexer$Kind;"), (0, .fieldref 8 14), (0, .nameAndType 15 12), (0, u "IDENTIFIER"), (0, .fieldref 8 17), (0, .nameAndType 18 12), (0, u "INTEGER"), (0, .fieldref 8 20), (0, .nameAndType 21 12), (0, u "STRING"), (0, .fieldref 8 23), (0, .nameAndType 24 12), (0, u "ALIAS"), (0, .fieldref 8 26), (0, .nameAndType 27 12), (0, u "SYMBOL"), (0, .fieldref 8 29), (0, .nameAndType 30 12), (0, u "BODY"), (0, .fieldref 8 32), (0, .nameAndType 33 12), (0, u "END"), (0, .fieldref 8 35), (0, .nameAndType 36 12), (0, u "ABORT"), (0, .fieldref 8 38), (0, .nameAndType 39 12), (0, u "END_OF_FILE"), (0, .class_ 41), (0, u "java/lang/String"), (0, .methodref 40 43), (0, .nameAndType 5 44), (0, u "([C)V"), (0, .integer 2147483647), (0, .methodref 47 48), (0, .class_ 49), (0, .nameAndType 50 51), (0, u "com/example/ltl_to_omega/ltltoomega/hoa/TokenIsPinLaw"), (0, u "str"), (0, u "(ICC)Ljava/lang/String;"), (0, .class_ 53), (0, u "com/example/ltl_to_omega/ltltoomega/hoa/HoaLexer$Token"), (0, .methodref 47 55), (0, .nameAndType 56 57), (0, u "kind"), (0, u "(I)Lcom/example/ltl_to_omega/ltltoomega/hoa/HoaLexer$Kind;"), (0, .methodref 52 59), (0, .nameAndType 5 60), (0, u "(Lcom/example/ltl_to_omega/ltltoomega/hoa/HoaLexer$Kind;Ljava/lang/String;I)V"), (0, .methodref 52 62), (0, .nameAndType 63 64), (0, u "is"), (0, u "(Lcom/example/ltl_to_omega/ltltoomega/hoa/HoaLexer$Kind;Ljava/lang/String;)Z"), (3, u "law"), (0, u "(IIIIII)Z")] 7

def k1m0 : Method := { name := "<init>", desc := "()V", sig := { parameters := [], returnType := none }, accessFlags := 2, code := none }
def k1c1 : Code := { maxStack := 2, maxLocals := 1, code := method_2_code, exceptionTable := #[], attributes := #[] }
def k1m1 : Method := { name := "kind", desc := "(I)Lcom/example/ltl_to_omega/ltltoomega/hoa/HoaLexer$Kind;", sig := { parameters := [.int], returnType := some (.object "com/example/ltl_to_omega/ltltoomega/hoa/HoaLexer$Kind") }, accessFlags := 10, code := some k1c1 }
def k1c2 : Code := { maxStack := 6, maxLocals := 3, code := method_3_code, exceptionTable := #[], attributes := #[] }
def k1m2 : Method := { name := "str", desc := "(ICC)Ljava/lang/String;", sig := { parameters := [.int, .char, .char], returnType := some (.object "java/lang/String") }, accessFlags := 10, code := some k1c2 }
def k1c3 : Code := { maxStack := 5, maxLocals := 19, code := code, exceptionTable := #[], attributes := #[] }
def k1m3 : Method := { name := "law", desc := "(IIIIII)Z", sig := { parameters := [.int, .int, .int, .int, .int, .int], returnType := some .boolean }, accessFlags := 9, code := some k1c3 }
/-- com/example/ltl_to_omega/ltltoomega/hoa/TokenIsPinLaw -/
def k1 : Class := { plain "com/example/ltl_to_omega/ltltoomega/hoa/TokenIsPinLaw" (some 0) with
  accessFlags := 49
  interfaces := #[]
  cf := some (fileOf pool1 47 #[] #[{ accessFlags := 2, nameIndex := 5, descriptorIndex := 6, attributes := #[] }, { accessFlags := 10, nameIndex := 56, descriptorIndex := 57, attributes := #[] }, { accessFlags := 10, nameIndex := 50, descriptorIndex := 51, attributes := #[] }, { accessFlags := 9, nameIndex := 68, descriptorIndex := 69, attributes := #[] }] 49 2 #[] #[])
  fields := #[]
  methods := #[k1m0, k1m1, k1m2, k1m3]
  instanceTypes := #[]
  staticTypes := #[]
  resolved := Array.replicate 77 none
  statics := none }

def pool2 : Array CpInfo := pool [(1, .class_ 2), (0, u "java/io/Serializable"), (0, .class_ 4), (0, u "java/lang/Object")] 2

/-- java/io/Serializable -/
def k2 : Class := { plain "java/io/Serializable" (some 0) with
  accessFlags := 1537
  interfaces := #[]
  cf := some (fileOf pool2 1 #[] #[] 1537 3 #[] #[])
  fields := #[]
  methods := #[]
  instanceTypes := #[]
  staticTypes := #[]
  resolved := Array.replicate 7 none
  statics := none }

def pool3 : Array CpInfo := pool [(1, .class_ 2), (0, u "java/lang/Comparable"), (0, .class_ 4), (0, u "java/lang/Object")] 7

/-- java/lang/Comparable -/
def k3 : Class := { plain "java/lang/Comparable" (some 0) with
  accessFlags := 1537
  interfaces := #[]
  cf := some (fileOf pool3 1 #[] #[] 1537 3 #[] #[])
  fields := #[]
  methods := #[]
  instanceTypes := #[]
  staticTypes := #[]
  resolved := Array.replicate 12 none
  statics := none }

def pool4 : Array CpInfo := pool [(2, .class_ 4), (1, u "java/lang/CharSequence"), (42, .class_ 48), (0, u "java/lang/CharSequence$1CodePointIterator"), (10, .class_ 60), (0, u "java/lang/CharSequence$1CharIterator"), (5, .class_ 67), (0, u "java/lang/Object")] 63

/-- java/lang/CharSequence -/
def k4 : Class := { plain "java/lang/CharSequence" (some 0) with
  accessFlags := 1537
  interfaces := #[]
  cf := some (fileOf pool4 2 #[.nestMembers #[47, 59]] #[] 1537 66 #[] #[])
  fields := #[]
  methods := #[]
  instanceTypes := #[]
  staticTypes := #[]
  resolved := Array.replicate 131 none
  statics := none }

def pool5 : Array CpInfo := pool [(1, .class_ 2), (0, u "java/lang/constant/Constable"), (0, .class_ 4), (0, u "java/lang/Object")] 6

/-- java/lang/constant/Constable -/
def k5 : Class := { plain "java/lang/constant/Constable" (some 0) with
  accessFlags := 1537
  interfaces := #[]
  cf := some (fileOf pool5 1 #[] #[] 1537 3 #[] #[])
  fields := #[]
  methods := #[]
  instanceTypes := #[]
  staticTypes := #[]
  resolved := Array.replicate 11 none
  statics := none }

def pool6 : Array CpInfo := pool [(1, .class_ 2), (0, u "java/lang/constant/ConstantDesc"), (0, .class_ 4), (0, u "java/lang/Object")] 32

/-- java/lang/constant/ConstantDesc -/
def k6 : Class := { plain "java/lang/constant/ConstantDesc" (some 0) with
  accessFlags := 1537
  interfaces := #[]
  cf := some (fileOf pool6 1 #[] #[] 1537 3 #[] #[])
  fields := #[]
  methods := #[]
  instanceTypes := #[]
  staticTypes := #[]
  resolved := Array.replicate 37 none
  statics := none }

def pool7 : Array CpInfo := pool [(1, .methodref 2 3), (0, .class_ 4), (0, .nameAndType 5 6), (0, u "java/lang/Object"), (0, u "<init>"), (0, u "()V"), (0, .string 8), (0, u ""), (0, .fieldref 10 11), (0, .class_ 12), (0, .nameAndType 13 14), (0, u "java/lang/String"), (0, u "value"), (0, u "[B"), (0, .fieldref 10 16), (0, .nameAndType 17 18), (0, u "coder"), (0, u "B"), (2, u "hash"), (0, u "I"), (2, u "hashIsZero"), (0, u "Z"), (0, .methodref 10 28), (0, .nameAndType 5 29), (0, u "([CIILjava/lang/Void;)V"), (8, .fieldref 10 39), (0, .nameAndType 40 26), (0, u "COMPACT_STRINGS"), (1, .class_ 44), (1, u "java/lang/StringUTF16"), (0, u "compress"), (1, .methodref 42 48), (0, .nameAndType 49 50), (0, u "coderFromArrayLen"), (0, u "([BI)B"), (56, .class_ 109), (1, u "java/lang/StringLatin1"), (67, .methodref 42 178), (0, .nameAndType 45 179), (0, u "([CII)[B"), (361, .methodref 107 542), (0, .nameAndType 543 544), (0, u "equals"), (0, u "([B[B)Z"), (28, u "(Ljava/lang/Object;)Z"), (1, .class_ 576), (0, u "java/lang/CharSequence"), (22, u "CASE_INSENSITIVE_ORDER"), (0, u "Ljava/util/Comparator;"), (409, u "([C)V"), (90, u "serialPersistentFields"), (0, u "[Ljava/io/ObjectStreamField;"), (0, .class_ 1104), (0, u "java/lang/String$CaseInsensitiveComparator"), (1, .class_ 1107), (0, u "java/io/Serializable"), (0, .class_ 1109), (0, u "java/lang/Comparable"), (0, .class_ 1111), (0, u "java/lang/constant/Constable"), (0, .class_ 1113), (0, u "java/lang/constant/ConstantDesc"), (2, u "serialVersionUID"), (0, u "J"), (3, u "REPL"), (0, u "C"), (2, u "LATIN1"), (1, u "UTF16")] 323

def k7m0 : Method := { name := "<init>", desc := "()V", sig := { parameters := [], returnType := none }, accessFlags := 1, code := none }
def k7c1 : Code := { maxStack := 5, maxLocals := 2, code := jdk_42_method_3_code, exceptionTable := #[], attributes := #[] }
def k7m1 : Method := { name := "<init>", desc := "([C)V", sig := { parameters := [(.array .char)], returnType := none }, accessFlags := 1, code := some k7c1 }
def k7c2 : Code := { maxStack := 2, maxLocals := 3, code := jdk_42_method_66_code, exceptionTable := #[], attributes := #[] }
def k7m2 : Method := { name := "equals", desc := "(Ljava/lang/Object;)Z", sig := { parameters := [(.object "java/lang/Object")], returnType := some .boolean }, accessFlags := 1, code := some k7c2 }
def k7c3 : Code := { maxStack := 4, maxLocals := 6, code := jdk_42_method_149_code, exceptionTable := #[], attributes := #[] }
def k7m3 : Method := { name := "<init>", desc := "([CIILjava/lang/Void;)V", sig := { parameters := [(.array .char), .int, .int, (.object "java/lang/Void")], returnType := none }, accessFlags := 2, code := some k7c3 }
/-- java/lang/String -/
def k7 : Class := { plain "java/lang/String" (some 0) with
  accessFlags := 49
  interfaces := #[2, 3, 4, 5, 6]
  cf := some (fileOf pool7 10 #[.nestMembers #[1103]] #[{ accessFlags := 1, nameIndex := 5, descriptorIndex := 6, attributes := #[] }, { accessFlags := 1, nameIndex := 5, descriptorIndex := 1010, attributes := #[] }, { accessFlags := 1, nameIndex := 543, descriptorIndex := 573, attributes := #[] }, { accessFlags := 2, nameIndex := 5, descriptorIndex := 29, attributes := #[] }] 49 2 #[1106, 1108, 575, 1110, 1112] #[{ accessFlags := 18, nameIndex := 13, descriptorIndex := 14, attributes := #[] }, { accessFlags := 18, nameIndex := 17, descriptorIndex := 18, attributes := #[] }, { accessFlags := 2, nameIndex := 21, descriptorIndex := 22, attributes := #[] }, { accessFlags := 2, nameIndex := 25, descriptorIndex := 26, attributes := #[] }, { accessFlags := 26, nameIndex := 1116, descriptorIndex := 1117, attributes := #[] }, { accessFlags := 24, nameIndex := 40, descriptorIndex := 26, attributes := #[] }, { accessFlags := 26, nameIndex := 1101, descriptorIndex := 1102, attributes := #[] }, { accessFlags := 26, nameIndex := 1121, descriptorIndex := 1122, attributes := #[] }, { accessFlags := 25, nameIndex := 599, descriptorIndex := 600, attributes := #[] }, { accessFlags := 24, nameIndex := 1125, descriptorIndex := 18, attributes := #[] }, { accessFlags := 24, nameIndex := 1127, descriptorIndex := 18, attributes := #[] }])
  fields := #[{ name := "value", type := (.array .byte), accessFlags := 18, slot := 0, constantValue := 0 }, { name := "coder", type := .byte, accessFlags := 18, slot := 1, constantValue := 0 }, { name := "hash", type := .int, accessFlags := 2, slot := 2, constantValue := 0 }, { name := "hashIsZero", type := .boolean, accessFlags := 2, slot := 3, constantValue := 0 }, { name := "serialVersionUID", type := .long, accessFlags := 26, slot := 0, constantValue := 0 }, { name := "COMPACT_STRINGS", type := .boolean, accessFlags := 24, slot := 1, constantValue := 0 }, { name := "serialPersistentFields", type := (.array (.object "java/io/ObjectStreamField")), accessFlags := 26, slot := 2, constantValue := 0 }, { name := "REPL", type := .char, accessFlags := 26, slot := 3, constantValue := 0 }, { name := "CASE_INSENSITIVE_ORDER", type := (.object "java/util/Comparator"), accessFlags := 25, slot := 4, constantValue := 0 }, { name := "LATIN1", type := .byte, accessFlags := 24, slot := 5, constantValue := 0 }, { name := "UTF16", type := .byte, accessFlags := 24, slot := 6, constantValue := 0 }]
  methods := #[k7m0, k7m1, k7m2, k7m3]
  instanceTypes := #[(.array .byte), .byte, .int, .boolean]
  staticTypes := #[.long, .boolean, (.array (.object "java/io/ObjectStreamField")), .char, (.object "java/util/Comparator"), .byte, .byte]
  resolved := Array.replicate 1451 none
  statics := some 0 }

def pool8 : Array CpInfo := pool [(1, .methodref 2 3), (0, .class_ 4), (0, .nameAndType 5 6), (0, u "java/lang/Object"), (0, u "<init>"), (0, u "()V"), (0, .class_ 8), (0, u "java/lang/Record")] 13

def k8c0 : Code := { maxStack := 1, maxLocals := 1, code := jdk_30_method_1_code, exceptionTable := #[], attributes := #[] }
def k8m0 : Method := { name := "<init>", desc := "()V", sig := { parameters := [], returnType := none }, accessFlags := 4, code := some k8c0 }
/-- java/lang/Record -/
def k8 : Class := { plain "java/lang/Record" (some 0) with
  accessFlags := 1057
  interfaces := #[]
  cf := some (fileOf pool8 7 #[] #[{ accessFlags := 4, nameIndex := 5, descriptorIndex := 6, attributes := #[] }] 1057 2 #[] #[])
  fields := #[]
  methods := #[k8m0]
  instanceTypes := #[]
  staticTypes := #[]
  resolved := Array.replicate 22 none
  statics := none }

def pool9 : Array CpInfo := pool [(1, .class_ 2), (0, u "com/example/ltl_to_omega/ltltoomega/hoa/HoaLexer"), (0, .methodref 4 5), (0, .class_ 6), (0, .nameAndType 7 8), (0, u "java/lang/Record"), (0, u "<init>"), (0, u "()V"), (0, .fieldref 10 11), (0, .class_ 12), (0, .nameAndType 13 14), (0, u "com/example/ltl_to_omega/ltltoomega/hoa/HoaLexer$Token"), (0, u "kind"), (0, u "Lcom/example/ltl_to_omega/ltltoomega/hoa/HoaLexer$Kind;"), (0, .fieldref 10 16), (0, .nameAndType 17 18), (0, u "text"), (0, u "Ljava/lang/String;"), (0, .fieldref 10 20), (0, .nameAndType 21 22), (0, u "index"), (0, u "I"), (0, .methodref 24 25), (0, .class_ 26), (0, .nameAndType 27 28), (0, u "java/lang/String"), (0, u "equals"), (0, u "(Ljava/lang/Object;)Z"), (38, u "(Lcom/example/ltl_to_omega/ltltoomega/hoa/HoaLexer$Kind;Ljava/lang/String;I)V"), (3, u "is"), (0, u "(Lcom/example/ltl_to_omega/ltltoomega/hoa/HoaLexer$Kind;Ljava/lang/String;)Z")] 42

def k9c0 : Code := { maxStack := 2, maxLocals := 4, code := prog_64_method_1_code, exceptionTable := #[], attributes := #[] }
def k9m0 : Method := { name := "<init>", desc := "(Lcom/example/ltl_to_omega/ltltoomega/hoa/HoaLexer$Kind;Ljava/lang/String;I)V", sig := { parameters := [(.object "com/example/ltl_to_omega/ltltoomega/hoa/HoaLexer$Kind"), (.object "java/lang/String"), .int], returnType := none }, accessFlags := 0, code := some k9c0 }
def k9c1 : Code := { maxStack := 2, maxLocals := 3, code := prog_64_method_2_code, exceptionTable := #[], attributes := #[] }
def k9m1 : Method := { name := "is", desc := "(Lcom/example/ltl_to_omega/ltltoomega/hoa/HoaLexer$Kind;Ljava/lang/String;)Z", sig := { parameters := [(.object "com/example/ltl_to_omega/ltltoomega/hoa/HoaLexer$Kind"), (.object "java/lang/String")], returnType := some .boolean }, accessFlags := 0, code := some k9c1 }
/-- com/example/ltl_to_omega/ltltoomega/hoa/HoaLexer$Token -/
def k9 : Class := { plain "com/example/ltl_to_omega/ltltoomega/hoa/HoaLexer$Token" (some 8) with
  accessFlags := 48
  interfaces := #[]
  cf := some (fileOf pool9 10 #[.nestHost 1] #[{ accessFlags := 0, nameIndex := 7, descriptorIndex := 67, attributes := #[] }, { accessFlags := 0, nameIndex := 71, descriptorIndex := 72, attributes := #[] }] 48 4 #[] #[{ accessFlags := 18, nameIndex := 13, descriptorIndex := 14, attributes := #[] }, { accessFlags := 18, nameIndex := 17, descriptorIndex := 18, attributes := #[] }, { accessFlags := 18, nameIndex := 21, descriptorIndex := 22, attributes := #[] }])
  fields := #[{ name := "kind", type := (.object "com/example/ltl_to_omega/ltltoomega/hoa/HoaLexer$Kind"), accessFlags := 18, slot := 0, constantValue := 0 }, { name := "text", type := (.object "java/lang/String"), accessFlags := 18, slot := 1, constantValue := 0 }, { name := "index", type := .int, accessFlags := 18, slot := 2, constantValue := 0 }]
  methods := #[k9m0, k9m1]
  instanceTypes := #[(.object "com/example/ltl_to_omega/ltltoomega/hoa/HoaLexer$Kind"), (.object "java/lang/String"), .int]
  staticTypes := #[]
  resolved := Array.replicate 115 none
  statics := none }

def pool10 : Array CpInfo := pool [(2, .class_ 4), (1, u "java/lang/Enum"), (0, u "name"), (0, u "Ljava/lang/String;"), (2, u "ordinal"), (0, u "I"), (1, .class_ 14), (1, u "java/lang/Object"), (4, u "hash"), (86, .class_ 108), (1, u "java/lang/Enum$EnumDesc"), (2, .class_ 112), (0, u "java/lang/constant/Constable"), (0, .class_ 114), (0, u "java/lang/Comparable"), (0, .class_ 116), (0, u "java/io/Serializable")] 87

/-- java/lang/Enum -/
def k10 : Class := { plain "java/lang/Enum" (some 0) with
  accessFlags := 1057
  interfaces := #[5, 3, 2]
  cf := some (fileOf pool10 2 #[.nestMembers #[106]] #[] 1057 12 #[111, 113, 115] #[{ accessFlags := 18, nameIndex := 5, descriptorIndex := 6, attributes := #[] }, { accessFlags := 18, nameIndex := 9, descriptorIndex := 10, attributes := #[] }, { accessFlags := 2, nameIndex := 19, descriptorIndex := 10, attributes := #[] }])
  fields := #[{ name := "name", type := (.object "java/lang/String"), accessFlags := 18, slot := 0, constantValue := 0 }, { name := "ordinal", type := .int, accessFlags := 18, slot := 1, constantValue := 0 }, { name := "hash", type := .int, accessFlags := 2, slot := 2, constantValue := 0 }]
  methods := #[]
  instanceTypes := #[(.object "java/lang/String"), .int, .int]
  staticTypes := #[]
  resolved := Array.replicate 204 none
  statics := none }

def pool11 : Array CpInfo := pool [(1, .class_ 2), (0, u "com/example/ltl_to_omega/ltltoomega/hoa/HoaLexer$Kind"), (2, u "HEADER"), (0, u "Lcom/example/ltl_to_omega/ltltoomega/hoa/HoaLexer$Kind;"), (2, u "IDENTIFIER"), (2, u "INTEGER"), (2, u "STRING"), (2, u "ALIAS"), (2, u "SYMBOL"), (2, u "BODY"), (2, u "END"), (2, u "ABORT"), (2, u "END_OF_FILE"), (2, u "$VALUES"), (0, u "[Lcom/example/ltl_to_omega/ltltoomega/hoa/HoaLexer$Kind;"), (6, .class_ 46), (1, u "java/lang/Enum"), (33, .class_ 81), (0, u "com/example/ltl_to_omega/ltltoomega/hoa/HoaLexer")] 2

/-- com/example/ltl_to_omega/ltltoomega/hoa/HoaLexer$Kind -/
def k11 : Class := { plain "com/example/ltl_to_omega/ltltoomega/hoa/HoaLexer$Kind" (some 10) with
  accessFlags := 16432
  interfaces := #[]
  cf := some (fileOf pool11 1 #[.nestHost 80] #[] 16432 44 #[] #[{ accessFlags := 16409, nameIndex := 5, descriptorIndex := 6, attributes := #[] }, { accessFlags := 16409, nameIndex := 9, descriptorIndex := 6, attributes := #[] }, { accessFlags := 16409, nameIndex := 12, descriptorIndex := 6, attributes := #[] }, { accessFlags := 16409, nameIndex := 15, descriptorIndex := 6, attributes := #[] }, { accessFlags := 16409, nameIndex := 18, descriptorIndex := 6, attributes := #[] }, { accessFlags := 16409, nameIndex := 21, descriptorIndex := 6, attributes := #[] }, { accessFlags := 16409, nameIndex := 24, descriptorIndex := 6, attributes := #[] }, { accessFlags := 16409, nameIndex := 27, descriptorIndex := 6, attributes := #[] }, { accessFlags := 16409, nameIndex := 30, descriptorIndex := 6, attributes := #[] }, { accessFlags := 16409, nameIndex := 33, descriptorIndex := 6, attributes := #[] }, { accessFlags := 4122, nameIndex := 36, descriptorIndex := 37, attributes := #[] }])
  fields := #[{ name := "HEADER", type := (.object "com/example/ltl_to_omega/ltltoomega/hoa/HoaLexer$Kind"), accessFlags := 16409, slot := 0, constantValue := 0 }, { name := "IDENTIFIER", type := (.object "com/example/ltl_to_omega/ltltoomega/hoa/HoaLexer$Kind"), accessFlags := 16409, slot := 1, constantValue := 0 }, { name := "INTEGER", type := (.object "com/example/ltl_to_omega/ltltoomega/hoa/HoaLexer$Kind"), accessFlags := 16409, slot := 2, constantValue := 0 }, { name := "STRING", type := (.object "com/example/ltl_to_omega/ltltoomega/hoa/HoaLexer$Kind"), accessFlags := 16409, slot := 3, constantValue := 0 }, { name := "ALIAS", type := (.object "com/example/ltl_to_omega/ltltoomega/hoa/HoaLexer$Kind"), accessFlags := 16409, slot := 4, constantValue := 0 }, { name := "SYMBOL", type := (.object "com/example/ltl_to_omega/ltltoomega/hoa/HoaLexer$Kind"), accessFlags := 16409, slot := 5, constantValue := 0 }, { name := "BODY", type := (.object "com/example/ltl_to_omega/ltltoomega/hoa/HoaLexer$Kind"), accessFlags := 16409, slot := 6, constantValue := 0 }, { name := "END", type := (.object "com/example/ltl_to_omega/ltltoomega/hoa/HoaLexer$Kind"), accessFlags := 16409, slot := 7, constantValue := 0 }, { name := "ABORT", type := (.object "com/example/ltl_to_omega/ltltoomega/hoa/HoaLexer$Kind"), accessFlags := 16409, slot := 8, constantValue := 0 }, { name := "END_OF_FILE", type := (.object "com/example/ltl_to_omega/ltltoomega/hoa/HoaLexer$Kind"), accessFlags := 16409, slot := 9, constantValue := 0 }, { name := "$VALUES", type := (.array (.object "com/example/ltl_to_omega/ltltoomega/hoa/HoaLexer$Kind")), accessFlags := 4122, slot := 10, constantValue := 0 }]
  methods := #[]
  instanceTypes := #[(.object "java/lang/String"), .int, .int]
  staticTypes := #[(.object "com/example/ltl_to_omega/ltltoomega/hoa/HoaLexer$Kind"), (.object "com/example/ltl_to_omega/ltltoomega/hoa/HoaLexer$Kind"), (.object "com/example/ltl_to_omega/ltltoomega/hoa/HoaLexer$Kind"), (.object "com/example/ltl_to_omega/ltltoomega/hoa/HoaLexer$Kind"), (.object "com/example/ltl_to_omega/ltltoomega/hoa/HoaLexer$Kind"), (.object "com/example/ltl_to_omega/ltltoomega/hoa/HoaLexer$Kind"), (.object "com/example/ltl_to_omega/ltltoomega/hoa/HoaLexer$Kind"), (.object "com/example/ltl_to_omega/ltltoomega/hoa/HoaLexer$Kind"), (.object "com/example/ltl_to_omega/ltltoomega/hoa/HoaLexer$Kind"), (.object "com/example/ltl_to_omega/ltltoomega/hoa/HoaLexer$Kind"), (.array (.object "com/example/ltl_to_omega/ltltoomega/hoa/HoaLexer$Kind"))]
  resolved := Array.replicate 84 none
  statics := some 1 }

def pool12 : Array CpInfo := pool [(6, .class_ 8), (1, u "java/lang/Object"), (0, u "<init>"), (0, u "()V"), (1, .class_ 14), (1, u "java/lang/StringUTF16"), (31, u "$assertionsDisabled"), (0, u "Z"), (13, u "HI_BYTE_SHIFT"), (0, u "I"), (2, u "LO_BYTE_SHIFT"), (49, .methodref 12 116), (0, .nameAndType 117 118), (0, u "compress"), (0, u "([CI[BII)I"), (3, u "([CII)[B"), (138, u "coderFromArrayLen"), (0, u "([BI)B"), (106, .class_ 371), (1, u "java/lang/StringUTF16$LinesSpliterator"), (58, u "MAX_LENGTH"), (196, .class_ 628), (0, u "java/lang/StringUTF16$CodePointsSpliterator"), (0, .class_ 630), (0, u "java/lang/StringUTF16$CharsSpliterator")] 4

def k12m0 : Method := { name := "<init>", desc := "()V", sig := { parameters := [], returnType := none }, accessFlags := 0, code := none }
def k12c1 : Code := { maxStack := 2, maxLocals := 2, code := jdk_52_method_15_code, exceptionTable := #[], attributes := #[] }
def k12m1 : Method := { name := "coderFromArrayLen", desc := "([BI)B", sig := { parameters := [(.array .byte), .int], returnType := some .byte }, accessFlags := 8, code := some k12c1 }
def k12c2 : Code := { maxStack := 5, maxLocals := 6, code := jdk_52_method_16_code, exceptionTable := #[], attributes := #[] }
def k12m2 : Method := { name := "compress", desc := "([CII)[B", sig := { parameters := [(.array .char), .int, .int], returnType := some (.array .byte) }, accessFlags := 9, code := some k12c2 }
def k12c3 : Code := { maxStack := 3, maxLocals := 7, code := jdk_52_method_21_code, exceptionTable := #[], attributes := #[] }
def k12m3 : Method := { name := "compress", desc := "([CI[BII)I", sig := { parameters := [(.array .char), .int, (.array .byte), .int, .int], returnType := some .int }, accessFlags := 9, code := some k12c3 }
/-- java/lang/StringUTF16 -/
def k12 : Class := { plain "java/lang/StringUTF16" (some 0) with
  accessFlags := 48
  interfaces := #[]
  cf := some (fileOf pool12 12 #[.nestMembers #[627, 629, 369]] #[{ accessFlags := 0, nameIndex := 9, descriptorIndex := 10, attributes := #[] }, { accessFlags := 8, nameIndex := 261, descriptorIndex := 262, attributes := #[] }, { accessFlags := 9, nameIndex := 117, descriptorIndex := 122, attributes := #[] }, { accessFlags := 9, nameIndex := 117, descriptorIndex := 118, attributes := #[] }] 48 6 #[] #[{ accessFlags := 26, nameIndex := 61, descriptorIndex := 62, attributes := #[] }, { accessFlags := 26, nameIndex := 65, descriptorIndex := 62, attributes := #[] }, { accessFlags := 24, nameIndex := 430, descriptorIndex := 62, attributes := #[] }, { accessFlags := 4120, nameIndex := 46, descriptorIndex := 47, attributes := #[] }])
  fields := #[{ name := "HI_BYTE_SHIFT", type := .int, accessFlags := 26, slot := 0, constantValue := 0 }, { name := "LO_BYTE_SHIFT", type := .int, accessFlags := 26, slot := 1, constantValue := 0 }, { name := "MAX_LENGTH", type := .int, accessFlags := 24, slot := 2, constantValue := 0 }, { name := "$assertionsDisabled", type := .boolean, accessFlags := 4120, slot := 3, constantValue := 0 }]
  methods := #[k12m0, k12m1, k12m2, k12m3]
  instanceTypes := #[]
  staticTypes := #[.int, .int, .int, .boolean]
  resolved := Array.replicate 635 none
  statics := none }

def pool13 : Array CpInfo := pool [(4, .class_ 6), (1, u "java/lang/Object"), (0, u "<init>"), (0, u "()V"), (5, .class_ 16), (1, u "java/lang/StringLatin1"), (104, u "$assertionsDisabled"), (0, u "Z"), (98, .class_ 223), (1, u "java/lang/StringLatin1$LinesSpliterator"), (57, u "equals"), (0, u "([B[B)Z"), (107, .class_ 391), (0, u "java/lang/StringLatin1$CharsSpliterator")] 3

def k13m0 : Method := { name := "<init>", desc := "()V", sig := { parameters := [], returnType := none }, accessFlags := 0, code := none }
def k13c1 : Code := { maxStack := 3, maxLocals := 3, code := jdk_43_method_13_code, exceptionTable := #[], attributes := #[] }
def k13m1 : Method := { name := "equals", desc := "([B[B)Z", sig := { parameters := [(.array .byte), (.array .byte)], returnType := some .boolean }, accessFlags := 9, code := some k13c1 }
/-- java/lang/StringLatin1 -/
def k13 : Class := { plain "java/lang/StringLatin1" (some 0) with
  accessFlags := 48
  interfaces := #[]
  cf := some (fileOf pool13 14 #[.nestMembers #[390, 221]] #[{ accessFlags := 0, nameIndex := 7, descriptorIndex := 8, attributes := #[] }, { accessFlags := 9, nameIndex := 281, descriptorIndex := 282, attributes := #[] }] 48 4 #[] #[{ accessFlags := 4120, nameIndex := 121, descriptorIndex := 122, attributes := #[] }])
  fields := #[{ name := "$assertionsDisabled", type := .boolean, accessFlags := 4120, slot := 0, constantValue := 0 }]
  methods := #[k13m0, k13m1]
  instanceTypes := #[]
  staticTypes := #[.boolean]
  resolved := Array.replicate 395 none
  statics := none }

def pool14 : Array CpInfo := pool [(2, .class_ 4), (1, u "java/lang/Object"), (0, u "<init>"), (0, u "()V"), (17, .class_ 26), (1, u "jdk/internal/util/Preconditions"), (28, .class_ 56), (0, u "jdk/internal/util/Preconditions$4"), (57, .class_ 115), (0, u "jdk/internal/util/Preconditions$1"), (7, u "SIOOBE_FORMATTER"), (0, u "Ljava/util/function/BiFunction;"), (0, .class_ 126), (0, u "jdk/internal/util/Preconditions$2"), (3, u "AIOOBE_FORMATTER"), (0, .class_ 132), (0, u "jdk/internal/util/Preconditions$3"), (3, u "IOOBE_FORMATTER")] 57

def k14m0 : Method := { name := "<init>", desc := "()V", sig := { parameters := [], returnType := none }, accessFlags := 1, code := none }
/-- jdk/internal/util/Preconditions -/
def k14 : Class := { plain "jdk/internal/util/Preconditions" (some 0) with
  accessFlags := 33
  interfaces := #[]
  cf := some (fileOf pool14 24 #[.nestMembers #[55, 131, 125, 114]] #[{ accessFlags := 1, nameIndex := 5, descriptorIndex := 6, attributes := #[] }] 33 2 #[] #[{ accessFlags := 25, nameIndex := 123, descriptorIndex := 124, attributes := #[] }, { accessFlags := 25, nameIndex := 130, descriptorIndex := 124, attributes := #[] }, { accessFlags := 25, nameIndex := 136, descriptorIndex := 124, attributes := #[] }])
  fields := #[{ name := "SIOOBE_FORMATTER", type := (.object "java/util/function/BiFunction"), accessFlags := 25, slot := 0, constantValue := 0 }, { name := "AIOOBE_FORMATTER", type := (.object "java/util/function/BiFunction"), accessFlags := 25, slot := 1, constantValue := 0 }, { name := "IOOBE_FORMATTER", type := (.object "java/util/function/BiFunction"), accessFlags := 25, slot := 2, constantValue := 0 }]
  methods := #[k14m0]
  instanceTypes := #[]
  staticTypes := #[(.object "java/util/function/BiFunction"), (.object "java/util/function/BiFunction"), (.object "java/util/function/BiFunction")]
  resolved := Array.replicate 194 none
  statics := some 2 }

def pool15 : Array CpInfo := pool [(9, u "<init>"), (6, .class_ 18), (1, u "java/lang/Object"), (0, u "()V"), (1, .class_ 23), (1, u "jdk/internal/util/ArraysSupport"), (0, u "LOG2_ARRAY_LONG_INDEX_SCALE"), (0, u "I"), (2, u "U"), (0, u "Ljdk/internal/misc/Unsafe;"), (8, u "BIG_ENDIAN"), (0, u "Z"), (8, u "LOG2_BYTE_BIT_SIZE"), (4, u "LOG2_ARRAY_INT_INDEX_SCALE"), (54, u "JLA"), (0, u "Ljdk/internal/access/JavaLangAccess;"), (11, u "LOG2_ARRAY_BOOLEAN_INDEX_SCALE"), (9, u "LOG2_ARRAY_BYTE_INDEX_SCALE"), (5, u "LOG2_ARRAY_CHAR_INDEX_SCALE"), (5, u "LOG2_ARRAY_SHORT_INDEX_SCALE"), (18, u "LOG2_ARRAY_FLOAT_INDEX_SCALE"), (24, u "LOG2_ARRAY_DOUBLE_INDEX_SCALE"), (89, u "T_BOOLEAN"), (2, u "T_CHAR"), (1, u "T_FLOAT"), (1, u "T_DOUBLE"), (1, u "T_BYTE"), (1, u "T_SHORT"), (1, u "T_INT"), (1, u "T_LONG"), (1, u "SOFT_MAX_ARRAY_LENGTH")] 83

def k15m0 : Method := { name := "<init>", desc := "()V", sig := { parameters := [], returnType := none }, accessFlags := 2, code := none }
/-- jdk/internal/util/ArraysSupport -/
def k15 : Class := { plain "jdk/internal/util/ArraysSupport" (some 0) with
  accessFlags := 33
  interfaces := #[]
  cf := some (fileOf pool15 21 #[] #[{ accessFlags := 2, nameIndex := 9, descriptorIndex := 19, attributes := #[] }] 33 16 #[] #[{ accessFlags := 24, nameIndex := 28, descriptorIndex := 29, attributes := #[] }, { accessFlags := 26, nameIndex := 38, descriptorIndex := 39, attributes := #[] }, { accessFlags := 25, nameIndex := 121, descriptorIndex := 25, attributes := #[] }, { accessFlags := 25, nameIndex := 131, descriptorIndex := 25, attributes := #[] }, { accessFlags := 25, nameIndex := 137, descriptorIndex := 25, attributes := #[] }, { accessFlags := 25, nameIndex := 143, descriptorIndex := 25, attributes := #[] }, { accessFlags := 25, nameIndex := 53, descriptorIndex := 25, attributes := #[] }, { accessFlags := 25, nameIndex := 24, descriptorIndex := 25, attributes := #[] }, { accessFlags := 25, nameIndex := 162, descriptorIndex := 25, attributes := #[] }, { accessFlags := 25, nameIndex := 187, descriptorIndex := 25, attributes := #[] }, { accessFlags := 26, nameIndex := 48, descriptorIndex := 25, attributes := #[] }, { accessFlags := 25, nameIndex := 277, descriptorIndex := 25, attributes := #[] }, { accessFlags := 25, nameIndex := 280, descriptorIndex := 25, attributes := #[] }, { accessFlags := 25, nameIndex := 282, descriptorIndex := 25, attributes := #[] }, { accessFlags := 25, nameIndex := 284, descriptorIndex := 25, attributes := #[] }, { accessFlags := 25, nameIndex := 286, descriptorIndex := 25, attributes := #[] }, { accessFlags := 25, nameIndex := 288, descriptorIndex := 25, attributes := #[] }, { accessFlags := 25, nameIndex := 290, descriptorIndex := 25, attributes := #[] }, { accessFlags := 25, nameIndex := 292, descriptorIndex := 25, attributes := #[] }, { accessFlags := 26, nameIndex := 108, descriptorIndex := 109, attributes := #[] }, { accessFlags := 25, nameIndex := 294, descriptorIndex := 25, attributes := #[] }])
  fields := #[{ name := "U", type := (.object "jdk/internal/misc/Unsafe"), accessFlags := 24, slot := 0, constantValue := 0 }, { name := "BIG_ENDIAN", type := .boolean, accessFlags := 26, slot := 1, constantValue := 0 }, { name := "LOG2_ARRAY_BOOLEAN_INDEX_SCALE", type := .int, accessFlags := 25, slot := 2, constantValue := 0 }, { name := "LOG2_ARRAY_BYTE_INDEX_SCALE", type := .int, accessFlags := 25, slot := 3, constantValue := 0 }, { name := "LOG2_ARRAY_CHAR_INDEX_SCALE", type := .int, accessFlags := 25, slot := 4, constantValue := 0 }, { name := "LOG2_ARRAY_SHORT_INDEX_SCALE", type := .int, accessFlags := 25, slot := 5, constantValue := 0 }, { name := "LOG2_ARRAY_INT_INDEX_SCALE", type := .int, accessFlags := 25, slot := 6, constantValue := 0 }, { name := "LOG2_ARRAY_LONG_INDEX_SCALE", type := .int, accessFlags := 25, slot := 7, constantValue := 0 }, { name := "LOG2_ARRAY_FLOAT_INDEX_SCALE", type := .int, accessFlags := 25, slot := 8, constantValue := 0 }, { name := "LOG2_ARRAY_DOUBLE_INDEX_SCALE", type := .int, accessFlags := 25, slot := 9, constantValue := 0 }, { name := "LOG2_BYTE_BIT_SIZE", type := .int, accessFlags := 26, slot := 10, constantValue := 0 }, { name := "T_BOOLEAN", type := .int, accessFlags := 25, slot := 11, constantValue := 0 }, { name := "T_CHAR", type := .int, accessFlags := 25, slot := 12, constantValue := 0 }, { name := "T_FLOAT", type := .int, accessFlags := 25, slot := 13, constantValue := 0 }, { name := "T_DOUBLE", type := .int, accessFlags := 25, slot := 14, constantValue := 0 }, { name := "T_BYTE", type := .int, accessFlags := 25, slot := 15, constantValue := 0 }, { name := "T_SHORT", type := .int, accessFlags := 25, slot := 16, constantValue := 0 }, { name := "T_INT", type := .int, accessFlags := 25, slot := 17, constantValue := 0 }, { name := "T_LONG", type := .int, accessFlags := 25, slot := 18, constantValue := 0 }, { name := "JLA", type := (.object "jdk/internal/access/JavaLangAccess"), accessFlags := 26, slot := 19, constantValue := 0 }, { name := "SOFT_MAX_ARRAY_LENGTH", type := .int, accessFlags := 25, slot := 20, constantValue := 0 }]
  methods := #[k15m0]
  instanceTypes := #[]
  staticTypes := #[(.object "jdk/internal/misc/Unsafe"), .boolean, .int, .int, .int, .int, .int, .int, .int, .int, .int, .int, .int, .int, .int, .int, .int, .int, .int, (.object "jdk/internal/access/JavaLangAccess"), .int]
  resolved := Array.replicate 378 none
  statics := none }

def pool16 : Array CpInfo := pool [(1, u "java/lang/Cloneable"), (0, .class_ 1), (0, u "java/lang/Object"), (0, .class_ 3)] 3

/-- java/lang/Cloneable -/
def k16 : Class := { plain "java/lang/Cloneable" (some 0) with
  accessFlags := 1537
  interfaces := #[]
  cf := some (fileOf pool16 2 #[] #[] 1537 4 #[] #[])
  fields := #[]
  methods := #[]
  instanceTypes := #[]
  staticTypes := #[]
  resolved := Array.replicate 8 none
  statics := none }

/-- the primitive byte -/
def k17 : Class := { plain "byte" none with kind := .primitive 'B', accessFlags := 0x411 }
/-- [B -/
def k18 : Class := { plain "[B" (some 0) with kind := .array 17 .byte, interfaces := #[16, 2], accessFlags := 1041 }

/-- the primitive char -/
def k19 : Class := { plain "char" none with kind := .primitive 'C', accessFlags := 0x411 }
/-- [C -/
def k20 : Class := { plain "[C" (some 0) with kind := .array 19 .char, interfaces := #[16, 2], accessFlags := 1041 }

/-- the primitive int -/
def k21 : Class := { plain "int" none with kind := .primitive 'I', accessFlags := 0x411 }
/-- [I -/
def k22 : Class := { plain "[I" (some 0) with kind := .array 21 .int, interfaces := #[16, 2], accessFlags := 1041 }

def heap : Heap := #[{ cls := 7, slots := #[.long 0, .int 1, .null, .int 0, .null, .int 0, .int 0], vm := .statics 7 },
  { cls := 11, slots := #[.ref 3, .ref 4, .ref 5, .ref 6, .ref 7, .ref 8, .ref 9, .ref 10, .ref 11, .ref 12, .null], vm := .statics 11 },
  { cls := 14, slots := #[.null, .null, .null], vm := .statics 14 },
  { cls := 11, slots := #[.null, .int 0, .int 0], vm := .none },
  { cls := 11, slots := #[.null, .int 1, .int 0], vm := .none },
  { cls := 11, slots := #[.null, .int 2, .int 0], vm := .none },
  { cls := 11, slots := #[.null, .int 3, .int 0], vm := .none },
  { cls := 11, slots := #[.null, .int 4, .int 0], vm := .none },
  { cls := 11, slots := #[.null, .int 5, .int 0], vm := .none },
  { cls := 11, slots := #[.null, .int 6, .int 0], vm := .none },
  { cls := 11, slots := #[.null, .int 7, .int 0], vm := .none },
  { cls := 11, slots := #[.null, .int 8, .int 0], vm := .none },
  { cls := 11, slots := #[.null, .int 9, .int 0], vm := .none }]
def classes : Array Class := #[k0, k1, k2, k3, k4, k5, k6, k7, k8, k9, k10, k11, k12, k13, k14, k15, k16, k17, k18, k19, k20, k21, k22]
def interned : List (Array UInt16 × Addr) := []
def slotsUsed : Nat := 51
def theMethod : MethodId := ⟨1, 3⟩
def args0 : Array Value := #[.int 0, .int 1, .int 2, .int 3, .int 4, .int 5]
def aboutOver (below : List Frame) : State where
  vm := { classes := classes, interned := interned.toArray }
  heap := heap
  slotsUsed := slotsUsed
  threads := #[{ frames := .invoking theMethod args0 :: below }]
def below0 : List Frame := [.native { method := ⟨0, 0⟩, args := #[] }]
def about1 : State := aboutOver below0
def p0 : Program := .bare "" "" ""
def e0 : Env := launch0.env 0 0 0
theorem w_frames : about1.frames = Frame.invoking theMethod args0 :: below0 := rfl
set_option maxRecDepth 65536 in
theorem w_args : argsFit about1.vm theMethod args0 = true := by decide +kernel
set_option maxRecDepth 65536 in
theorem w_heap : heapFits about1 = true := by decide +kernel
set_option maxRecDepth 65536 in
theorem w_runnable : about1.curStatus? = some .runnable := by decide +kernel
set_option maxRecDepth 65536 in
theorem w_alone : about1.alone = true := by decide +kernel
set_option maxRecDepth 65536 in
theorem w_named : about1.methodNamed? x = some theMethod := by decide +kernel
set_option maxRecDepth 65536 in
theorem w_hears : about1.hears theMethod below0 = true := by decide +kernel
set_option maxRecDepth 65536 in
theorem w_ripe : about1.ripe theMethod args0 below0 = true := by decide +kernel
theorem w_running : about1.status = .running := rfl
set_option maxRecDepth 65536 in
theorem w_room : about1.hasRoom e0.platform room_1 = true :=
  launch0.hasRoom_least _ room_1 (by decide +kernel) (by decide +kernel) (by decide +kernel) (by decide +kernel) (by decide +kernel) (by decide +kernel)
theorem allAtoms_all (ts : List Jvm.Cond) (a : Array Jvm.Value) (st : Jvm.State) : (allAtoms ts).before a st = ts.all (fun c => c.before a st) := by
  induction ts with
  | nil => rfl
  | cons c t ih =>
    show (Jvm.Cond.and c (allAtoms t)).before a st = _
    rw [Jvm.Cond.before_and, ih, List.all_cons]
def words1 : List Jvm.Cond := Jvm.Cond.code x code maxLocals ret :: tables_1
/-- a 'code' word, met by the world's own term for the bytes: nothing is compared byte by byte -/
theorem code_word {y : MethodName} {bytes : ByteArray} {mx : Nat} {rt : Option FieldType} {a : Array Value} {s : State} {m : MethodId} {meth : Method} {c : Code} (h1 : s.methodNamed? y = some m) (h2 : s.vm.method? m = some meth) (h3 : meth.code = some c) (h4 : c.code = bytes)
    (h5 : (c.maxLocals == mx && c.exceptionTable.isEmpty && decide (c.maxStack ≤ mostOperands) && decide (meth.sig.returnType = rt) && !meth.locks && decide (parseMethodDescriptor y.desc = some meth.sig)) = true) : (Jvm.Cond.code y bytes mx rt).before a s = true := by
  simp only [Bool.and_eq_true, beq_iff_eq, Bool.not_eq_true', decide_eq_true_eq] at h5
  obtain ⟨⟨⟨⟨⟨g1, g2⟩, g3⟩, g4⟩, g5⟩, g6⟩ := h5
  simp [Cond.before, Cond.holds, Cond.value, h1, h2, h3, h4, g1, g2, g3, g4, g5, g6]
def isCode : Jvm.Cond → Bool
  | .code _ _ _ _ => true
  | _ => false
theorem all_split {L : List Jvm.Cond} {P : Jvm.Cond → Bool} (h1 : L.all (fun c => isCode c || P c) = true) (h2 : ∀ c ∈ L.filter isCode, P c = true) : L.all P = true := by
  refine List.all_eq_true.mpr fun c hc => ?_
  have h := List.all_eq_true.mp h1 c hc
  rcases Bool.eq_false_or_eq_true (isCode c) with hi | hi
  · exact h2 c (List.mem_filter.mpr ⟨hc, hi⟩)
  · simpa [hi] using h
set_option maxRecDepth 65536 in
theorem w_c0 : (Jvm.Cond.code x code maxLocals ret).before args0 about1 = true := code_word (m := ⟨1, 3⟩) (meth := k1m3) (c := k1c3) (by decide +kernel) rfl rfl rfl (by decide +kernel)
set_option maxRecDepth 65536 in
theorem w_c1 : (Jvm.Cond.code ({ cls := "com/example/ltl_to_omega/ltltoomega/hoa/TokenIsPinLaw", name := "str", desc := "(ICC)Ljava/lang/String;" } : Jvm.MethodName) method_3_code (3 : Nat) (Option.some (Jvm.ClassFile.FieldType.object "java/lang/String"))).before args0 about1 = true := code_word (m := ⟨1, 2⟩) (meth := k1m2) (c := k1c2) (by decide +kernel) rfl rfl rfl (by decide +kernel)
set_option maxRecDepth 65536 in
theorem w_c2 : (Jvm.Cond.code ({ cls := "java/lang/String", name := "<init>", desc := "([C)V" } : Jvm.MethodName) jdk_42_method_3_code (2 : Nat) (Option.none : Option Jvm.ClassFile.FieldType)).before args0 about1 = true := code_word (m := ⟨7, 1⟩) (meth := k7m1) (c := k7c1) (by decide +kernel) rfl rfl rfl (by decide +kernel)
set_option maxRecDepth 65536 in
theorem w_c3 : (Jvm.Cond.code ({ cls := "java/lang/String", name := "<init>", desc := "([CIILjava/lang/Void;)V" } : Jvm.MethodName) jdk_42_method_149_code (6 : Nat) (Option.none : Option Jvm.ClassFile.FieldType)).before args0 about1 = true := code_word (m := ⟨7, 3⟩) (meth := k7m3) (c := k7c3) (by decide +kernel) rfl rfl rfl (by decide +kernel)
set_option maxRecDepth 65536 in
theorem w_c4 : (Jvm.Cond.code ({ cls := "java/lang/Object", name := "<init>", desc := "()V" } : Jvm.MethodName) object_method_1_code (1 : Nat) (Option.none : Option Jvm.ClassFile.FieldType)).before args0 about1 = true := code_word (m := ⟨0, 0⟩) (meth := k0m0) (c := k0c0) (by decide +kernel) rfl rfl rfl (by decide +kernel)
set_option maxRecDepth 65536 in
theorem w_c5 : (Jvm.Cond.code ({ cls := "com/example/ltl_to_omega/ltltoomega/hoa/TokenIsPinLaw", name := "kind", desc := "(I)Lcom/example/ltl_to_omega/ltltoomega/hoa/HoaLexer$Kind;" } : Jvm.MethodName) method_2_code (1 : Nat) (Option.some (Jvm.ClassFile.FieldType.object "com/example/ltl_to_omega/ltltoomega/hoa/HoaLexer$Kind"))).before args0 about1 = true := code_word (m := ⟨1, 1⟩) (meth := k1m1) (c := k1c1) (by decide +kernel) rfl rfl rfl (by decide +kernel)
set_option maxRecDepth 65536 in
theorem w_c6 : (Jvm.Cond.code ({ cls := "com/example/ltl_to_omega/ltltoomega/hoa/HoaLexer$Token", name := "<init>", desc := "(Lcom/example/ltl_to_omega/ltltoomega/hoa/HoaLexer$Kind;Ljava/lang/String;I)V" } : Jvm.MethodName) prog_64_method_1_code (4 : Nat) (Option.none : Option Jvm.ClassFile.FieldType)).before args0 about1 = true := code_word (m := ⟨9, 0⟩) (meth := k9m0) (c := k9c0) (by decide +kernel) rfl rfl rfl (by decide +kernel)
set_option maxRecDepth 65536 in
theorem w_c7 : (Jvm.Cond.code ({ cls := "java/lang/Record", name := "<init>", desc := "()V" } : Jvm.MethodName) jdk_30_method_1_code (1 : Nat) (Option.none : Option Jvm.ClassFile.FieldType)).before args0 about1 = true := code_word (m := ⟨8, 0⟩) (meth := k8m0) (c := k8c0) (by decide +kernel) rfl rfl rfl (by decide +kernel)
set_option maxRecDepth 65536 in
theorem w_c8 : (Jvm.Cond.code ({ cls := "com/example/ltl_to_omega/ltltoomega/hoa/HoaLexer$Token", name := "is", desc := "(Lcom/example/ltl_to_omega/ltltoomega/hoa/HoaLexer$Kind;Ljava/lang/String;)Z" } : Jvm.MethodName) prog_64_method_2_code (3 : Nat) (Option.some Jvm.ClassFile.FieldType.boolean)).before args0 about1 = true := code_word (m := ⟨9, 1⟩) (meth := k9m1) (c := k9c1) (by decide +kernel) rfl rfl rfl (by decide +kernel)
set_option maxRecDepth 65536 in
theorem w_c9 : (Jvm.Cond.code ({ cls := "java/lang/StringUTF16", name := "compress", desc := "([CII)[B" } : Jvm.MethodName) jdk_52_method_16_code (6 : Nat) (Option.some (Jvm.ClassFile.FieldType.array Jvm.ClassFile.FieldType.byte))).before args0 about1 = true := code_word (m := ⟨12, 2⟩) (meth := k12m2) (c := k12c2) (by decide +kernel) rfl rfl rfl (by decide +kernel)
set_option maxRecDepth 65536 in
theorem w_c10 : (Jvm.Cond.code ({ cls := "java/lang/StringUTF16", name := "compress", desc := "([CI[BII)I" } : Jvm.MethodName) jdk_52_method_21_code (7 : Nat) (Option.some Jvm.ClassFile.FieldType.int)).before args0 about1 = true := code_word (m := ⟨12, 3⟩) (meth := k12m3) (c := k12c3) (by decide +kernel) rfl rfl rfl (by decide +kernel)
set_option maxRecDepth 65536 in
theorem w_c11 : (Jvm.Cond.code ({ cls := "java/lang/StringUTF16", name := "coderFromArrayLen", desc := "([BI)B" } : Jvm.MethodName) jdk_52_method_15_code (2 : Nat) (Option.some Jvm.ClassFile.FieldType.byte)).before args0 about1 = true := code_word (m := ⟨12, 1⟩) (meth := k12m1) (c := k12c1) (by decide +kernel) rfl rfl rfl (by decide +kernel)
set_option maxRecDepth 65536 in
theorem w_c12 : (Jvm.Cond.code ({ cls := "java/lang/String", name := "equals", desc := "(Ljava/lang/Object;)Z" } : Jvm.MethodName) jdk_42_method_66_code (3 : Nat) (Option.some Jvm.ClassFile.FieldType.boolean)).before args0 about1 = true := code_word (m := ⟨7, 2⟩) (meth := k7m2) (c := k7c2) (by decide +kernel) rfl rfl rfl (by decide +kernel)
set_option maxRecDepth 65536 in
theorem w_c13 : (Jvm.Cond.code ({ cls := "java/lang/StringLatin1", name := "equals", desc := "([B[B)Z" } : Jvm.MethodName) jdk_43_method_13_code (3 : Nat) (Option.some Jvm.ClassFile.FieldType.boolean)).before args0 about1 = true := code_word (m := ⟨13, 1⟩) (meth := k13m1) (c := k13c1) (by decide +kernel) rfl rfl rfl (by decide +kernel)
def codes1 : List Jvm.Cond := [Jvm.Cond.code x code maxLocals ret, Jvm.Cond.code ({ cls := "com/example/ltl_to_omega/ltltoomega/hoa/TokenIsPinLaw", name := "str", desc := "(ICC)Ljava/lang/String;" } : Jvm.MethodName) method_3_code (3 : Nat) (Option.some (Jvm.ClassFile.FieldType.object "java/lang/String")), Jvm.Cond.code ({ cls := "java/lang/String", name := "<init>", desc := "([C)V" } : Jvm.MethodName) jdk_42_method_3_code (2 : Nat) (Option.none : Option Jvm.ClassFile.FieldType), Jvm.Cond.code ({ cls := "java/lang/String", name := "<init>", desc := "([CIILjava/lang/Void;)V" } : Jvm.MethodName) jdk_42_method_149_code (6 : Nat) (Option.none : Option Jvm.ClassFile.FieldType), Jvm.Cond.code ({ cls := "java/lang/Object", name := "<init>", desc := "()V" } : Jvm.MethodName) object_method_1_code (1 : Nat) (Option.none : Option Jvm.ClassFile.FieldType), Jvm.Cond.code ({ cls := "com/example/ltl_to_omega/ltltoomega/hoa/TokenIsPinLaw", name := "kind", desc := "(I)Lcom/example/ltl_to_omega/ltltoomega/hoa/HoaLexer$Kind;" } : Jvm.MethodName) method_2_code (1 : Nat) (Option.some (Jvm.ClassFile.FieldType.object "com/example/ltl_to_omega/ltltoomega/hoa/HoaLexer$Kind")), Jvm.Cond.code ({ cls := "com/example/ltl_to_omega/ltltoomega/hoa/HoaLexer$Token", name := "<init>", desc := "(Lcom/example/ltl_to_omega/ltltoomega/hoa/HoaLexer$Kind;Ljava/lang/String;I)V" } : Jvm.MethodName) prog_64_method_1_code (4 : Nat) (Option.none : Option Jvm.ClassFile.FieldType), Jvm.Cond.code ({ cls := "java/lang/Record", name := "<init>", desc := "()V" } : Jvm.MethodName) jdk_30_method_1_code (1 : Nat) (Option.none : Option Jvm.ClassFile.FieldType), Jvm.Cond.code ({ cls := "com/example/ltl_to_omega/ltltoomega/hoa/HoaLexer$Token", name := "is", desc := "(Lcom/example/ltl_to_omega/ltltoomega/hoa/HoaLexer$Kind;Ljava/lang/String;)Z" } : Jvm.MethodName) prog_64_method_2_code (3 : Nat) (Option.some Jvm.ClassFile.FieldType.boolean), Jvm.Cond.code ({ cls := "java/lang/StringUTF16", name := "compress", desc := "([CII)[B" } : Jvm.MethodName) jdk_52_method_16_code (6 : Nat) (Option.some (Jvm.ClassFile.FieldType.array Jvm.ClassFile.FieldType.byte)), Jvm.Cond.code ({ cls := "java/lang/StringUTF16", name := "compress", desc := "([CI[BII)I" } : Jvm.MethodName) jdk_52_method_21_code (7 : Nat) (Option.some Jvm.ClassFile.FieldType.int), Jvm.Cond.code ({ cls := "java/lang/StringUTF16", name := "coderFromArrayLen", desc := "([BI)B" } : Jvm.MethodName) jdk_52_method_15_code (2 : Nat) (Option.some Jvm.ClassFile.FieldType.byte), Jvm.Cond.code ({ cls := "java/lang/String", name := "equals", desc := "(Ljava/lang/Object;)Z" } : Jvm.MethodName) jdk_42_method_66_code (3 : Nat) (Option.some Jvm.ClassFile.FieldType.boolean), Jvm.Cond.code ({ cls := "java/lang/StringLatin1", name := "equals", desc := "([B[B)Z" } : Jvm.MethodName) jdk_43_method_13_code (3 : Nat) (Option.some Jvm.ClassFile.FieldType.boolean)]
set_option maxRecDepth 65536 in
theorem codes_eq : words1.filter isCode = codes1 := rfl
theorem w_codes : ∀ c ∈ words1.filter isCode, c.before args0 about1 = true := by
  rw [codes_eq]
  intro c hc
  simp only [codes1, List.mem_cons, List.not_mem_nil, or_false] at hc
  rcases hc with rfl | rfl | rfl | rfl | rfl | rfl | rfl | rfl | rfl | rfl | rfl | rfl | rfl | rfl
  · exact w_c0
  · exact w_c1
  · exact w_c2
  · exact w_c3
  · exact w_c4
  · exact w_c5
  · exact w_c6
  · exact w_c7
  · exact w_c8
  · exact w_c9
  · exact w_c10
  · exact w_c11
  · exact w_c12
  · exact w_c13
set_option maxRecDepth 65536 in
theorem w_t1 : (words1.take 24).all (fun c => isCode c || c.before args0 about1) = true := by decide +kernel
set_option maxRecDepth 65536 in
theorem w_t2 : ((words1.drop 24).take 24).all (fun c => isCode c || c.before args0 about1) = true := by decide +kernel
set_option maxRecDepth 65536 in
theorem w_t3 : (((words1.drop 24).drop 24).take 24).all (fun c => isCode c || c.before args0 about1) = true := by decide +kernel
set_option maxRecDepth 65536 in
theorem w_t4 : (((words1.drop 24).drop 24).drop 24).all (fun c => isCode c || c.before args0 about1) = true := by decide +kernel
theorem w_tables : (allAtoms (Jvm.Cond.code x code maxLocals ret :: tables_1)).before args0 about1 = true := by
  rw [allAtoms_all]
  show words1.all (fun c => c.before args0 about1) = true
  refine all_split ?_ w_codes
  rw [← List.take_append_drop 24 words1, List.all_append, w_t1, ← List.take_append_drop 24 (words1.drop 24), List.all_append, w_t2, ← List.take_append_drop 24 ((words1.drop 24).drop 24), List.all_append, w_t3, w_t4]
  rfl
set_option maxRecDepth 65536 in
theorem w_rest : rest_1_c.before args0 about1 = true := by decide +kernel
set_option maxRecDepth 65536 in
theorem w_case : (Jvm.Cond.and given_1 narrow_1).before args0 about1 = true := by decide +kernel
set_option maxRecDepth 65536 in
theorem w_consts : constsHeld consts_1 about1 := Jvm.Lit.constsHeldB_iff.mp (by decide +kernel)
theorem w_applies : (headSpec (Jvm.Cond.code x code maxLocals ret :: tables_1) room_1).applies x e0.platform about1 = true :=
  (Spec.applies_iff w_frames).mpr ⟨w_running, w_runnable, w_alone, w_named, w_hears, w_ripe, w_room, w_tables⟩
theorem atStart : AtStart classFile x code maxLocals ret World_1 tables_1 room_1 Calls_1 rest_1 Pre_1 launch0 p0 e0 about1 theMethod args0 below0 :=
  ⟨lists_1, trivial, launch0.admits_env _ _ _, launch0.least_env, fairChoices_fair.cas, fairChoices_fair.clock, w_frames, w_args, w_heap, w_applies, ⟨w_consts, trivial⟩, w_rest, w_case⟩
end start1
theorem witness_1 : WitnessClaimed_1 := ⟨start1.p0, start1.e0, start1.about1, start1.theMethod, start1.args0, start1.below0, start1.atStart⟩
end Jvm.Pilot.@@N@@
