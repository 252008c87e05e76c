import JvmDerived
import JvmDerived.Pilot.@@N@@Statement
import JvmDerived.Pilot.@@N@@Code
set_option linter.unusedVariables false
set_option linter.unusedSimpArgs false
namespace Jvm.Wk
open Sem ClassFile Op Lib Jvm.Stand Jvm.Free Jvm.LawKit Jvm.RoadKit
/-- a boolean as an int -/
def b2 (P : Prop) [Decidable P] : Int32 := if P then 1 else 0
theorem b2_t {P : Prop} [Decidable P] (h : P) : b2 P = 1 := if_pos h
theorem b2_f {P : Prop} [Decidable P] (h : ¬ P) : b2 P = 0 := if_neg h
theorem b2_01 (P : Prop) [Decidable P] : b2 P = 0 ∨ b2 P = 1 := by by_cases h : P <;> simp [b2, h]
theorem b2_congr {P P' : Prop} [Decidable P] [Decidable P'] (h : P ↔ P') : b2 P = b2 P' := by simp only [b2, h]
theorem b2_int (P : Prop) [Decidable P] : (b2 P).toInt = if P then 1 else 0 := by by_cases h : P <;> simp [b2, h]
theorem b2_ne0 (P : Prop) [Decidable P] : (b2 P).toInt ≠ 0 ↔ P := by by_cases h : P <;> simp [b2, h]
theorem b2_eq0 (P : Prop) [Decidable P] : (b2 P).toInt = 0 ↔ ¬ P := by by_cases h : P <;> simp [b2, h]
theorem b2_inj (P P' : Prop) [Decidable P] [Decidable P'] : (b2 P).toInt = (b2 P').toInt ↔ (P ↔ P') := by by_cases h : P <;> by_cases h' : P' <;> simp [b2, h, h']
theorem eqI {x y : Int32} (h : x.toInt = y.toInt) : x = y := Int32.toInt_inj.mp h
theorem eqL {x y : Int64} (h : x.toInt = y.toInt) : x = y := Int64.toInt_inj.mp h
/-- from the frame f, with the heap h and so many cells and slots made, the body ends as Q says -/
def Go (p : Program) (l : Launch) (e : Env) (R : Room) (s : State) (m : MethodId) (args : Array Value) (below : List Frame) (meth : Method) (c : Code) (n0 : Nat) (Q : Option Value → Heap → Prop) (h : Heap) (kc ks : Nat) (f : JFrame) : Prop :=
  ∀ (T : State) (locs : List Loc), Stand p l e R s m args below meth c T locs kc ks → T.heap = h → Fr n0 locs →
    ∃ s₂ o, Steps p.tables e below (T.setTop f) s₂ ∧ s₂.status = .running ∧ Ended s₂ below o ∧ ∃ v L, o = .returned v ∧ (Q v s₂.heap ∧ Fr n0 L) ∧ FrameEnd s o s₂ L R.cells R.slots
/-- the ambient of a body's walk, hidden behind G -/
def Cx (l : Launch) (R : Room) (Z : State) (n0 : Nat) (Q : Option Value → Heap → Prop) (own nm : String) (bytes : ByteArray) (maxL : Nat) (ret : Option FieldType) (m : MethodId) (G : Heap → Nat → Nat → JFrame → Prop) : Prop :=
  ∃ (p : Program) (e : Env) (s : State) (args : Array Value) (below : List Frame) (meth : Method) (c : Code), G = Go p l e R s m args below meth c n0 Q ∧ p.tables.exec = Jvm.exec ∧ c.code = bytes ∧ c.maxLocals = maxL ∧ s.vm.findClass own = some m.cls ∧ Z.Warmed39 s.vm ∧ meth.sig.returnType = ret ∧ meth.locks = false ∧ meth.name = nm
/-- the contract of a body, asked with these arguments at this heap -/
def MeetsW (l : Launch) (Z : State) (n0 : Nat) (y : MethodName) (bytes : ByteArray) (maxL : Nat) (ret : Option FieldType) (rm : Room) (as' : Array Value) (h0 : Heap) (Q : Option Value → Heap → Prop) : Prop :=
  ∀ ws : List Cond, MetFree l y (head1 (Cond.code y bytes maxL ret :: ws) rm) (fun a U => a = as' ∧ Z.Warmed39 U.vm ∧ U.heap = h0) (fun _ _ _ _ _ => True) (fun _ U o U' => ∃ v L, o = .returned v ∧ (Q v U'.heap ∧ Fr n0 L) ∧ FrameEnd U o U' L rm.cells rm.slots)
/-- an array with just these values -/
def Ary (Z : State) (h : Heap) (a : Addr) (ty : FieldType) (vs : List Value) : Prop := ∃ c : Cell, Arr Z h a c ty ∧ c.slots.toList = vs ∧ vs.length < 2 ^ 31
section Facts
variable {Z : State} {h h' : Heap} {a b : Addr} {ty : FieldType} {vs : List Value} {v : Value} {sl : Nat} {ws : List Addr}
theorem Ary.lt (A : Ary Z h a ty vs) : a < h.size := by obtain ⟨c, A, -⟩ := A; exact A.lt
theorem Ary.ext (A : Ary Z h a ty vs) (E : Ext h h') : Ary Z h' a ty vs := by obtain ⟨c, A, r⟩ := A; exact ⟨c, A.ext E, r⟩
theorem Ary.other (A : Ary Z h b ty vs) (W : Wr h h' a sl v) (q : b ≠ a) : Ary Z h' b ty vs := by obtain ⟨c, A, r⟩ := A; exact ⟨c, A.other W q, r⟩
theorem Ary.keep (A : Ary Z h a ty vs) (K : Keep h h' ws) (q : a ∉ ws) : Ary Z h' a ty vs := by obtain ⟨c, A, r⟩ := A; exact ⟨c, ⟨K.2.1 a c A.1 q, A.2⟩, r⟩
theorem Ary.same (A : Ary Z h a ty vs) (W : Wr h h' a sl v) : Ary Z h' a ty (vs.set sl v) := by
  obtain ⟨c, A, r, r'⟩ := A
  refine ⟨_, A.same W, ?_, by rw [List.length_set]; exact r'⟩
  show (c.slots.setIfInBounds sl v).toList = _
  rw [Array.toList_setIfInBounds, r]
theorem clamp_of {j : Int32} {i : Nat} (hj : j.toInt = i) : j.toNatClampNeg = i := by simp only [Int32.toNatClampNeg, hj]; rfl
theorem in_of {c : Cell} {j : Int32} {i : Nat} (hj : j.toInt = i) (hi : i < c.slots.toList.length) : ¬ (j < 0 ∨ c.slots.size ≤ j.toNatClampNeg) := by
  rw [clamp_of hj]
  have h0 : ¬ j < 0 := by rw [Int32.lt_iff_toInt_lt, hj, show (0 : Int32).toInt = 0 from rfl]; omega
  rw [Array.length_toList] at hi
  intro q; rcases q with q | q
  · exact h0 q
  · omega
theorem at_of {c : Cell} {j : Int32} {i : Nat} {v : Value} (hj : j.toInt = i) (hv : c.slots.toList[i]? = some v) : c.slots[j.toNatClampNeg]? = some v := by
  rw [clamp_of hj, ← Array.getElem?_toList]; exact hv
theorem len_int {n : Nat} (h : n < 2 ^ 31) : n.toInt32.toInt = n := len_toInt h
theorem nar_byte_of {x : Int32} (h : -128 ≤ x.toInt ∧ x.toInt < 128) : nar .byte x = x := by
  apply Int32.toInt_inj.mp
  have q := c_i2b x
  show x.toInt8.toInt32.toInt = _
  omega
theorem nar_char_of {x : Int32} (h : 0 ≤ x.toInt ∧ x.toInt < 65536) : nar .char x = x := by
  apply Int32.toInt_inj.mp
  have q := c_i2c x
  show x.toUInt32.toUInt16.toUInt32.toInt32.toInt = _
  omega
theorem Ary.toArv {d : Value} (A : Ary Z h a ty vs) (hf : ∀ v ∈ vs, fits ty v = true) (hd : fits ty d = true) : ∃ (k : ClassId) (z : Int32), z.toInt = ((vs.length : Nat) : Int) ∧ Arv Z h a k ty z vs d := by
  obtain ⟨c, Ar, rfl, hlt⟩ := A
  have hl : c.slots.size < 2 ^ 31 := by rwa [Array.length_toList] at hlt
  refine ⟨c.cls, c.slots.size.toInt32, by rw [Array.length_toList]; exact len_int hl, c, Ar, rfl, by rw [clamp_of (len_int hl)], ?_, ?_, ?_⟩
  · rw [Int32.lt_iff_toInt_lt, len_int hl, show (0 : Int32).toInt = 0 from rfl]; omega
  · intro k hk; simp [List.getD_eq_getElem?_getD, hk]
  · intro i hi
    have q : c.slots.toList.getD i d = c.slots[i] := by simp [List.getD_eq_getElem?_getD, hi]
    rw [q]; exact hf _ (by simp)
theorem Arv.toAry {d : Value} {k : ClassId} {z : Int32} (F : Arv Z h a k ty z vs d) (hz : z.toInt = (vs.length : Nat)) : Ary Z h a ty vs := by
  obtain ⟨c, Ar, -, S, -, H, -⟩ := F
  rw [clamp_of hz] at S
  refine ⟨c, Ar, ?_, by have := z.toInt_lt; omega⟩
  apply List.ext_getElem?
  intro i
  by_cases hi : i < c.slots.size
  · rw [Array.getElem?_toList, H i hi, List.getD_eq_getElem?_getD]
    have hi' : i < vs.length := by omega
    simp [hi']
  · rw [List.getElem?_eq_none (by rw [Array.length_toList]; omega), List.getElem?_eq_none (by omega)]
theorem Fld.keepO {C n d : String} (F : Fld Z h a C n d v) (K : Keep h h' ws) (q : a ∉ ws) : Fld Z h' a C n d v := F.keep K q
theorem Keep.of_ext (E : Ext h h') : Keep h h' ws := (Keep.refl h ws).ext E
end Facts
section Steps
variable {l : Launch} {R : Room} {Z : State} {n0 : Nat} {Q : Option Value → Heap → Prop} {own nm : String} {bytes : ByteArray} {maxL : Nat} {ret : Option FieldType} {m : MethodId} {G : Heap → Nat → Nat → JFrame → Prop} {h : Heap} {kc ks pc pc' pc1 pc2 : Nat} {L L' : Array Slot} {S : List Value} {a0 : Array Value}
theorem MeetsW.intro {y : MethodName} {rm : Room} {as' : Array Value} {h0 : Heap} (hpl : plainFor y = true) {L0 : Array Slot} (hef : ∀ m, entryFrame m as' maxL = mkF m 0 L0 [])
    (body : ∀ m G, Cx l rm Z n0 Q y.cls y.name bytes maxL ret m G → G h0 0 0 (mkF m 0 L0 [])) : MeetsW l Z n0 y bytes maxL ret rm as' h0 Q := by
  intro ws
  refine MetFree.of_bodySF hpl hisR ?_
  intro p e s m args below meth c s₁ Bd hml0 hP hK
  obtain ⟨rfl, hZ, hh⟩ := hP
  have hnm := (name_of_methodNamed Bd.named Bd.method).1
  have X0 : Stand p l e rm s m args below meth c s₁ [] 0 0 := Stand.of_body Bd
  have e0 : s₁.heap = h0 := by rw [← hh, Bd.state]; rfl
  have q := body m _ ⟨p, e, s, args, below, meth, c, rfl, Bd.exec, Bd.bytes, hml0, findClass_of_methodNamed Bd.named, hZ, Bd.returns, Bd.notSynchronized, hnm⟩ s₁ [] X0 e0 (Fr.nil n0)
  rw [hef]; exact q
theorem Cx.step (K : Cx l R Z n0 Q own nm bytes maxL ret m G) {f f' : JFrame}
    (hs : ∀ (p : Program) (e : Env) (below : List Frame) (T : State) (c : Code), At T m c below → p.tables.exec = Jvm.exec → c.code = bytes → ∀ t, Steps p.tables e below (T.setTop f') t → Steps p.tables e below (T.setTop f) t)
    (hr : G h kc ks f') : G h kc ks f := by
  obtain ⟨p, e, s, args, below, meth, c, rfl, hx, hby, hml, hown, hZ, hret, hlk, hn⟩ := K
  intro T locs X eT N
  obtain ⟨s₂, o, h1, h2⟩ := hr T locs X eT N
  exact ⟨s₂, o, hs p e below T c X.here hx hby _ h1, h2⟩
theorem Cx.stepX (K : Cx l R Z n0 Q own nm bytes maxL ret m G) {f f' : JFrame} {h' : Heap}
    (hs : ∀ (p : Program) (e : Env) (s : State) (args : Array Value) (below : List Frame) (meth : Method) (c : Code) (T : State) (locs : List Loc), Stand p l e R s m args below meth c T locs kc ks → T.heap = h → p.tables.exec = Jvm.exec → c.code = bytes → s.vm.findClass own = some m.cls → Z.Warmed39 s.vm → ∃ T', Stand p l e R s m args below meth c T' locs kc ks ∧ T'.heap = h ∧ ∀ t, Steps p.tables e below (T'.setTop f') t → Steps p.tables e below (T.setTop f) t)
    (hr : G h kc ks f') : G h kc ks f := by
  obtain ⟨p, e, s, args, below, meth, c, rfl, hx, hby, hml, hown, hZ, hret, hlk, hn⟩ := K
  intro T locs X eT N
  obtain ⟨T', X', e', st⟩ := hs p e s args below meth c T locs X eT hx hby hown hZ
  obtain ⟨s₂, o, h1, h2⟩ := hr T' locs X' e' N
  exact ⟨s₂, o, st _ h1, h2⟩
theorem Cx.cast (K : Cx l R Z n0 Q own nm bytes maxL ret m G) {f f' : JFrame} (q : f = f') (hr : G h kc ks f') : G h kc ks f := q ▸ hr
theorem Cx.iloadN (K : Cx l R Z n0 Q own nm bytes maxL ret m G) {k : Fin 4} {v : Int32} (hd : decode bytes pc = .ok (.iload_n k, 1)) (hp : pc + 1 = pc') (hl : L[k.val]? = some (.val (.int v))) (hr : G h kc ks (mkF m pc' L (.int v :: S))) : G h kc ks (mkF m pc L (S)) := by
  subst hp
  exact K.step (fun p e below T c h hx hb0 t hr => XS.iloadN h hx rfl (hb hb0 hd) hl hr) hr
theorem Cx.iload (K : Cx l R Z n0 Q own nm bytes maxL ret m G) {k : Nat} {v : Int32} (hd : decode bytes pc = .ok (.iload k, 2)) (hp : pc + 2 = pc') (hl : L[k]? = some (.val (.int v))) (hr : G h kc ks (mkF m pc' L (.int v :: S))) : G h kc ks (mkF m pc L (S)) := by
  subst hp
  exact K.step (fun p e below T c h hx hb0 t hr => XS.iload h hx rfl (hb hb0 hd) hl hr) hr
theorem Cx.istoreN (K : Cx l R Z n0 Q own nm bytes maxL ret m G) {k : Fin 4} {x : Int32} (hd : decode bytes pc = .ok (.istore_n k, 1)) (hp : pc + 1 = pc') (hl : storeLocals L k.val (.int x) = some L') (hr : G h kc ks (mkF m pc' L' (S))) : G h kc ks (mkF m pc L (.int x :: S)) := by
  subst hp
  exact K.step (fun p e below T c h hx hb0 t hr => XS.istoreN h hx rfl (hb hb0 hd) rfl hl hr) hr
theorem Cx.istore (K : Cx l R Z n0 Q own nm bytes maxL ret m G) {k : Nat} {x : Int32} (hd : decode bytes pc = .ok (.istore k, 2)) (hp : pc + 2 = pc') (hl : storeLocals L k (.int x) = some L') (hr : G h kc ks (mkF m pc' L' (S))) : G h kc ks (mkF m pc L (.int x :: S)) := by
  subst hp
  exact K.step (fun p e below T c h hx hb0 t hr => XS.istore h hx rfl (hb hb0 hd) rfl hl hr) hr
theorem Cx.lloadN (K : Cx l R Z n0 Q own nm bytes maxL ret m G) {k : Fin 4} {v : Int64} (hd : decode bytes pc = .ok (.lload_n k, 1)) (hp : pc + 1 = pc') (hl : L[k.val]? = some (.val (.long v))) (hr : G h kc ks (mkF m pc' L (.long v :: S))) : G h kc ks (mkF m pc L (S)) := by
  subst hp
  exact K.step (fun p e below T c h hx hb0 t hr => XS.lloadN h hx rfl (hb hb0 hd) hl hr) hr
theorem Cx.lload (K : Cx l R Z n0 Q own nm bytes maxL ret m G) {k : Nat} {v : Int64} (hd : decode bytes pc = .ok (.lload k, 2)) (hp : pc + 2 = pc') (hl : L[k]? = some (.val (.long v))) (hr : G h kc ks (mkF m pc' L (.long v :: S))) : G h kc ks (mkF m pc L (S)) := by
  subst hp
  exact K.step (fun p e below T c h hx hb0 t hr => XS.lload h hx rfl (hb hb0 hd) hl hr) hr
theorem Cx.lstoreN (K : Cx l R Z n0 Q own nm bytes maxL ret m G) {k : Fin 4} {x : Int64} (hd : decode bytes pc = .ok (.lstore_n k, 1)) (hp : pc + 1 = pc') (hl : storeLocals L k.val (.long x) = some L') (hr : G h kc ks (mkF m pc' L' (S))) : G h kc ks (mkF m pc L (.long x :: S)) := by
  subst hp
  exact K.step (fun p e below T c h hx hb0 t hr => XS.lstoreN h hx rfl (hb hb0 hd) rfl hl hr) hr
theorem Cx.lstore (K : Cx l R Z n0 Q own nm bytes maxL ret m G) {k : Nat} {x : Int64} (hd : decode bytes pc = .ok (.lstore k, 2)) (hp : pc + 2 = pc') (hl : storeLocals L k (.long x) = some L') (hr : G h kc ks (mkF m pc' L' (S))) : G h kc ks (mkF m pc L (.long x :: S)) := by
  subst hp
  exact K.step (fun p e below T c h hx hb0 t hr => XS.lstore h hx rfl (hb hb0 hd) rfl hl hr) hr
theorem Cx.aloadN (K : Cx l R Z n0 Q own nm bytes maxL ret m G) {k : Fin 4} {v : Value} (hd : decode bytes pc = .ok (.aload_n k, 1)) (hp : pc + 1 = pc') (hl : L[k.val]? = some (.val v)) (hv : v.isRef = true) (hr : G h kc ks (mkF m pc' L (v :: S))) : G h kc ks (mkF m pc L (S)) := by
  subst hp
  exact K.step (fun p e below T c h hx hb0 t hr => XS.aloadN h hx rfl (hb hb0 hd) hl hv hr) hr
theorem Cx.aload (K : Cx l R Z n0 Q own nm bytes maxL ret m G) {k : Nat} {v : Value} (hd : decode bytes pc = .ok (.aload k, 2)) (hp : pc + 2 = pc') (hl : L[k]? = some (.val v)) (hv : v.isRef = true) (hr : G h kc ks (mkF m pc' L (v :: S))) : G h kc ks (mkF m pc L (S)) := by
  subst hp
  exact K.step (fun p e below T c h hx hb0 t hr => XS.aload h hx rfl (hb hb0 hd) hl hv hr) hr
theorem Cx.astoreN (K : Cx l R Z n0 Q own nm bytes maxL ret m G) {k : Fin 4} {x : Value} (hd : decode bytes pc = .ok (.astore_n k, 1)) (hp : pc + 1 = pc') (hv : x.isRef = true) (hl : storeLocals L k.val x = some L') (hr : G h kc ks (mkF m pc' L' (S))) : G h kc ks (mkF m pc L (x :: S)) := by
  subst hp
  exact K.step (fun p e below T c h hx hb0 t hr => XS.astoreN h hx rfl (hb hb0 hd) rfl hv hl hr) hr
theorem Cx.astore (K : Cx l R Z n0 Q own nm bytes maxL ret m G) {k : Nat} {x : Value} (hd : decode bytes pc = .ok (.astore k, 2)) (hp : pc + 2 = pc') (hv : x.isRef = true) (hl : storeLocals L k x = some L') (hr : G h kc ks (mkF m pc' L' (S))) : G h kc ks (mkF m pc L (x :: S)) := by
  subst hp
  exact K.step (fun p e below T c h hx hb0 t hr => XS.astore h hx rfl (hb hb0 hd) rfl hv hl hr) hr
theorem Cx.dloadN (K : Cx l R Z n0 Q own nm bytes maxL ret m G) {k : Fin 4} {v : UInt64} (hd : decode bytes pc = .ok (.dload_n k, 1)) (hp : pc + 1 = pc') (hl : L[k.val]? = some (.val (.double v))) (hr : G h kc ks (mkF m pc' L (.double v :: S))) : G h kc ks (mkF m pc L (S)) := by
  subst hp
  exact K.step (fun p e below T c h hx hb0 t hr => XS.dloadN h hx rfl (hb hb0 hd) hl hr) hr
theorem Cx.dload (K : Cx l R Z n0 Q own nm bytes maxL ret m G) {k : Nat} {v : UInt64} (hd : decode bytes pc = .ok (.dload k, 2)) (hp : pc + 2 = pc') (hl : L[k]? = some (.val (.double v))) (hr : G h kc ks (mkF m pc' L (.double v :: S))) : G h kc ks (mkF m pc L (S)) := by
  subst hp
  exact K.step (fun p e below T c h hx hb0 t hr => XS.dload h hx rfl (hb hb0 hd) hl hr) hr
theorem Cx.dstoreN (K : Cx l R Z n0 Q own nm bytes maxL ret m G) {k : Fin 4} {x : UInt64} (hd : decode bytes pc = .ok (.dstore_n k, 1)) (hp : pc + 1 = pc') (hl : storeLocals L k.val (.double x) = some L') (hr : G h kc ks (mkF m pc' L' (S))) : G h kc ks (mkF m pc L (.double x :: S)) := by
  subst hp
  exact K.step (fun p e below T c h hx hb0 t hr => XS.dstoreN h hx rfl (hb hb0 hd) rfl hl hr) hr
theorem Cx.dstore (K : Cx l R Z n0 Q own nm bytes maxL ret m G) {k : Nat} {x : UInt64} (hd : decode bytes pc = .ok (.dstore k, 2)) (hp : pc + 2 = pc') (hl : storeLocals L k (.double x) = some L') (hr : G h kc ks (mkF m pc' L' (S))) : G h kc ks (mkF m pc L (.double x :: S)) := by
  subst hp
  exact K.step (fun p e below T c h hx hb0 t hr => XS.dstore h hx rfl (hb hb0 hd) rfl hl hr) hr
theorem Cx.dconst0 (K : Cx l R Z n0 Q own nm bytes maxL ret m G) {z : UInt64} (hd : decode bytes pc = .ok (.dconst 0, 1)) (hp : pc + 1 = pc') (hz : FP.dconst0 = z) (hr : G h kc ks (mkF m pc' L (.double z :: S))) : G h kc ks (mkF m pc L (S)) := by
  subst hp hz
  exact K.step (fun p e below T c h hx hb0 t hr => XS.dconst0 h hx rfl (hb hb0 hd) rfl hr) hr
theorem Cx.dconst1 (K : Cx l R Z n0 Q own nm bytes maxL ret m G) {z : UInt64} (hd : decode bytes pc = .ok (.dconst 1, 1)) (hp : pc + 1 = pc') (hz : FP.dconst1 = z) (hr : G h kc ks (mkF m pc' L (.double z :: S))) : G h kc ks (mkF m pc L (S)) := by
  subst hp hz
  exact K.step (fun p e below T c h hx hb0 t hr => XS.dconst1 h hx rfl (hb hb0 hd) rfl hr) hr
theorem Cx.i2d (K : Cx l R Z n0 Q own nm bytes maxL ret m G) {x : Int32} {z : UInt64} (hd : decode bytes pc = .ok (.i2d, 1)) (hp : pc + 1 = pc') (hz : FP.i2d x = z) (hr : G h kc ks (mkF m pc' L (.double z :: S))) : G h kc ks (mkF m pc L (.int x :: S)) := by
  subst hp hz
  exact K.step (fun p e below T c h hx hb0 t hr => XS.i2dS h hx rfl (hb hb0 hd) rfl rfl hr) hr
theorem Cx.l2d (K : Cx l R Z n0 Q own nm bytes maxL ret m G) {x : Int64} {z : UInt64} (hd : decode bytes pc = .ok (.l2d, 1)) (hp : pc + 1 = pc') (hz : FP.l2d x = z) (hr : G h kc ks (mkF m pc' L (.double z :: S))) : G h kc ks (mkF m pc L (.long x :: S)) := by
  subst hp hz
  exact K.step (fun p e below T c h hx hb0 t hr => XS.l2dS h hx rfl (hb hb0 hd) rfl rfl hr) hr
theorem Cx.d2l (K : Cx l R Z n0 Q own nm bytes maxL ret m G) {x : UInt64} {z : Int64} (hd : decode bytes pc = .ok (.d2l, 1)) (hp : pc + 1 = pc') (hz : FP.d2l x = z) (hr : G h kc ks (mkF m pc' L (.long z :: S))) : G h kc ks (mkF m pc L (.double x :: S)) := by
  subst hp hz
  exact K.step (fun p e below T c h hx hb0 t hr => XS.d2lS h hx rfl (hb hb0 hd) rfl rfl hr) hr
theorem Cx.dadd (K : Cx l R Z n0 Q own nm bytes maxL ret m G) {x y z : UInt64} (hd : decode bytes pc = .ok (.dadd, 1)) (hp : pc + 1 = pc') (hn : Jvm.Free.Fl.NoNaN64 (FP.dadd x y)) (hz : FP.dadd x y = z) (hr : G h kc ks (mkF m pc' L (.double z :: S))) : G h kc ks (mkF m pc L (.double y :: .double x :: S)) := by
  subst hp hz
  exact K.step (fun p e below T c h hx hb0 t hr => XS.daddS h hx rfl (hb hb0 hd) rfl hn rfl hr) hr
theorem Cx.dmul (K : Cx l R Z n0 Q own nm bytes maxL ret m G) {x y z : UInt64} (hd : decode bytes pc = .ok (.dmul, 1)) (hp : pc + 1 = pc') (hn : Jvm.Free.Fl.NoNaN64 (FP.dmul x y)) (hz : FP.dmul x y = z) (hr : G h kc ks (mkF m pc' L (.double z :: S))) : G h kc ks (mkF m pc L (.double y :: .double x :: S)) := by
  subst hp hz
  exact K.step (fun p e below T c h hx hb0 t hr => XS.dmulS h hx rfl (hb hb0 hd) rfl hn rfl hr) hr
theorem Cx.ddiv (K : Cx l R Z n0 Q own nm bytes maxL ret m G) {x y z : UInt64} (hd : decode bytes pc = .ok (.ddiv, 1)) (hp : pc + 1 = pc') (hn : Jvm.Free.Fl.NoNaN64 (FP.ddiv x y)) (hz : FP.ddiv x y = z) (hr : G h kc ks (mkF m pc' L (.double z :: S))) : G h kc ks (mkF m pc L (.double y :: .double x :: S)) := by
  subst hp hz
  exact K.step (fun p e below T c h hx hb0 t hr => XS.ddivS h hx rfl (hb hb0 hd) rfl hn rfl hr) hr
theorem Cx.dsub (K : Cx l R Z n0 Q own nm bytes maxL ret m G) {x y z : UInt64} (hd : decode bytes pc = .ok (.dsub, 1)) (hp : pc + 1 = pc') (hn : Jvm.Free.Fl.NoNaN64 (FP.dsub x y)) (hz : FP.dsub x y = z) (hr : G h kc ks (mkF m pc' L (.double z :: S))) : G h kc ks (mkF m pc L (.double y :: .double x :: S)) := by
  subst hp hz
  exact K.step (fun p e below T c h hx hb0 t hr => XS.dsubS h hx rfl (hb hb0 hd) rfl hn rfl hr) hr
theorem Cx.dcmp (K : Cx l R Z n0 Q own nm bytes maxL ret m G) {o : CmpOp} {x y : UInt64} {z : Int32} (hd : decode bytes pc = .ok (.dcmp o, 1)) (hp : pc + 1 = pc') (hz : cmpValue (FP.dcmp x y) o = z) (hr : G h kc ks (mkF m pc' L (.int z :: S))) : G h kc ks (mkF m pc L (.double y :: .double x :: S)) := by
  subst hp hz
  exact K.step (fun p e below T c h hx hb0 t hr => XS.dcmpS h hx rfl (hb hb0 hd) rfl rfl hr) hr
theorem Cx.iconst (K : Cx l R Z n0 Q own nm bytes maxL ret m G) {i : Int} {z : Int32} (hd : decode bytes pc = .ok (.iconst i, 1)) (hp : pc + 1 = pc') (hz : Int32.ofInt i = z) (hr : G h kc ks (mkF m pc' L (.int z :: S))) : G h kc ks (mkF m pc L (S)) := by
  subst hp hz
  exact K.step (fun p e below T c h hx hb0 t hr => XS.iconst h hx rfl (hb hb0 hd) hr) hr
theorem Cx.bipush (K : Cx l R Z n0 Q own nm bytes maxL ret m G) {i : Int} {z : Int32} (hd : decode bytes pc = .ok (.bipush i, 2)) (hp : pc + 2 = pc') (hz : (Int8.ofInt i).toInt32 = z) (hr : G h kc ks (mkF m pc' L (.int z :: S))) : G h kc ks (mkF m pc L (S)) := by
  subst hp hz
  exact K.step (fun p e below T c h hx hb0 t hr => XS.bipush h hx rfl (hb hb0 hd) hr) hr
theorem Cx.sipush (K : Cx l R Z n0 Q own nm bytes maxL ret m G) {i : Int} {z : Int32} (hd : decode bytes pc = .ok (.sipush i, 3)) (hp : pc + 3 = pc') (hz : (Int16.ofInt i).toInt32 = z) (hr : G h kc ks (mkF m pc' L (.int z :: S))) : G h kc ks (mkF m pc L (S)) := by
  subst hp hz
  exact K.step (fun p e below T c h hx hb0 t hr => XS.sipush h hx rfl (hb hb0 hd) hr) hr
theorem Cx.lconst (K : Cx l R Z n0 Q own nm bytes maxL ret m G) {k : Fin 2} {z : Int64} (hd : decode bytes pc = .ok (.lconst k, 1)) (hp : pc + 1 = pc') (hz : Int64.ofNat k = z) (hr : G h kc ks (mkF m pc' L (.long z :: S))) : G h kc ks (mkF m pc L (S)) := by
  subst hp hz
  exact K.step (fun p e below T c h hx hb0 t hr => XS.lconst h hx rfl (hb hb0 hd) hr) hr
theorem Cx.anull (K : Cx l R Z n0 Q own nm bytes maxL ret m G) (hd : decode bytes pc = .ok (.aconst_null, 1)) (hp : pc + 1 = pc')  (hr : G h kc ks (mkF m pc' L (.null :: S))) : G h kc ks (mkF m pc L (S)) := by
  subst hp
  exact K.step (fun p e below T c h hx hb0 t hr => XS.aconstNull h hx rfl (hb hb0 hd) hr) hr
theorem Cx.iadd (K : Cx l R Z n0 Q own nm bytes maxL ret m G) {x y z : Int32} (hd : decode bytes pc = .ok (.iadd, 1)) (hp : pc + 1 = pc') (hz : x + y = z) (hr : G h kc ks (mkF m pc' L (.int z :: S))) : G h kc ks (mkF m pc L (.int y :: .int x :: S)) := by
  subst hp hz
  exact K.step (fun p e below T c h hx hb0 t hr => XS.iadd h hx rfl (hb hb0 hd) rfl hr) hr
theorem Cx.ladd (K : Cx l R Z n0 Q own nm bytes maxL ret m G) {x y z : Int64} (hd : decode bytes pc = .ok (.ladd, 1)) (hp : pc + 1 = pc') (hz : x + y = z) (hr : G h kc ks (mkF m pc' L (.long z :: S))) : G h kc ks (mkF m pc L (.long y :: .long x :: S)) := by
  subst hp hz
  exact K.step (fun p e below T c h hx hb0 t hr => XS.ladd h hx rfl (hb hb0 hd) rfl hr) hr
theorem Cx.isub (K : Cx l R Z n0 Q own nm bytes maxL ret m G) {x y z : Int32} (hd : decode bytes pc = .ok (.isub, 1)) (hp : pc + 1 = pc') (hz : x - y = z) (hr : G h kc ks (mkF m pc' L (.int z :: S))) : G h kc ks (mkF m pc L (.int y :: .int x :: S)) := by
  subst hp hz
  exact K.step (fun p e below T c h hx hb0 t hr => XS.isub h hx rfl (hb hb0 hd) rfl hr) hr
theorem Cx.lsub (K : Cx l R Z n0 Q own nm bytes maxL ret m G) {x y z : Int64} (hd : decode bytes pc = .ok (.lsub, 1)) (hp : pc + 1 = pc') (hz : x - y = z) (hr : G h kc ks (mkF m pc' L (.long z :: S))) : G h kc ks (mkF m pc L (.long y :: .long x :: S)) := by
  subst hp hz
  exact K.step (fun p e below T c h hx hb0 t hr => XS.lsub h hx rfl (hb hb0 hd) rfl hr) hr
theorem Cx.imul (K : Cx l R Z n0 Q own nm bytes maxL ret m G) {x y z : Int32} (hd : decode bytes pc = .ok (.imul, 1)) (hp : pc + 1 = pc') (hz : x * y = z) (hr : G h kc ks (mkF m pc' L (.int z :: S))) : G h kc ks (mkF m pc L (.int y :: .int x :: S)) := by
  subst hp hz
  exact K.step (fun p e below T c h hx hb0 t hr => XS.imul h hx rfl (hb hb0 hd) rfl hr) hr
theorem Cx.lmul (K : Cx l R Z n0 Q own nm bytes maxL ret m G) {x y z : Int64} (hd : decode bytes pc = .ok (.lmul, 1)) (hp : pc + 1 = pc') (hz : x * y = z) (hr : G h kc ks (mkF m pc' L (.long z :: S))) : G h kc ks (mkF m pc L (.long y :: .long x :: S)) := by
  subst hp hz
  exact K.step (fun p e below T c h hx hb0 t hr => XS.lmul h hx rfl (hb hb0 hd) rfl hr) hr
theorem Cx.iand (K : Cx l R Z n0 Q own nm bytes maxL ret m G) {x y z : Int32} (hd : decode bytes pc = .ok (.iand, 1)) (hp : pc + 1 = pc') (hz : x &&& y = z) (hr : G h kc ks (mkF m pc' L (.int z :: S))) : G h kc ks (mkF m pc L (.int y :: .int x :: S)) := by
  subst hp hz
  exact K.step (fun p e below T c h hx hb0 t hr => XS.iand h hx rfl (hb hb0 hd) rfl hr) hr
theorem Cx.land (K : Cx l R Z n0 Q own nm bytes maxL ret m G) {x y z : Int64} (hd : decode bytes pc = .ok (.land, 1)) (hp : pc + 1 = pc') (hz : x &&& y = z) (hr : G h kc ks (mkF m pc' L (.long z :: S))) : G h kc ks (mkF m pc L (.long y :: .long x :: S)) := by
  subst hp hz
  exact K.step (fun p e below T c h hx hb0 t hr => XS.land h hx rfl (hb hb0 hd) rfl hr) hr
theorem Cx.ior (K : Cx l R Z n0 Q own nm bytes maxL ret m G) {x y z : Int32} (hd : decode bytes pc = .ok (.ior, 1)) (hp : pc + 1 = pc') (hz : x ||| y = z) (hr : G h kc ks (mkF m pc' L (.int z :: S))) : G h kc ks (mkF m pc L (.int y :: .int x :: S)) := by
  subst hp hz
  exact K.step (fun p e below T c h hx hb0 t hr => XS.ior h hx rfl (hb hb0 hd) rfl hr) hr
theorem Cx.lor (K : Cx l R Z n0 Q own nm bytes maxL ret m G) {x y z : Int64} (hd : decode bytes pc = .ok (.lor, 1)) (hp : pc + 1 = pc') (hz : x ||| y = z) (hr : G h kc ks (mkF m pc' L (.long z :: S))) : G h kc ks (mkF m pc L (.long y :: .long x :: S)) := by
  subst hp hz
  exact K.step (fun p e below T c h hx hb0 t hr => XS.lor h hx rfl (hb hb0 hd) rfl hr) hr
theorem Cx.ixor (K : Cx l R Z n0 Q own nm bytes maxL ret m G) {x y z : Int32} (hd : decode bytes pc = .ok (.ixor, 1)) (hp : pc + 1 = pc') (hz : x ^^^ y = z) (hr : G h kc ks (mkF m pc' L (.int z :: S))) : G h kc ks (mkF m pc L (.int y :: .int x :: S)) := by
  subst hp hz
  exact K.step (fun p e below T c h hx hb0 t hr => XS.ixor h hx rfl (hb hb0 hd) rfl hr) hr
theorem Cx.lxor (K : Cx l R Z n0 Q own nm bytes maxL ret m G) {x y z : Int64} (hd : decode bytes pc = .ok (.lxor, 1)) (hp : pc + 1 = pc') (hz : x ^^^ y = z) (hr : G h kc ks (mkF m pc' L (.long z :: S))) : G h kc ks (mkF m pc L (.long y :: .long x :: S)) := by
  subst hp hz
  exact K.step (fun p e below T c h hx hb0 t hr => XS.lxor h hx rfl (hb hb0 hd) rfl hr) hr
theorem Cx.ishl (K : Cx l R Z n0 Q own nm bytes maxL ret m G) {x y z : Int32} (hd : decode bytes pc = .ok (.ishl, 1)) (hp : pc + 1 = pc') (hz : x <<< (y &&& 31) = z) (hr : G h kc ks (mkF m pc' L (.int z :: S))) : G h kc ks (mkF m pc L (.int y :: .int x :: S)) := by
  subst hp hz
  exact K.step (fun p e below T c h hx hb0 t hr => XS.ishl h hx rfl (hb hb0 hd) rfl hr) hr
theorem Cx.ishr (K : Cx l R Z n0 Q own nm bytes maxL ret m G) {x y z : Int32} (hd : decode bytes pc = .ok (.ishr, 1)) (hp : pc + 1 = pc') (hz : x >>> (y &&& 31) = z) (hr : G h kc ks (mkF m pc' L (.int z :: S))) : G h kc ks (mkF m pc L (.int y :: .int x :: S)) := by
  subst hp hz
  exact K.step (fun p e below T c h hx hb0 t hr => XS.ishr h hx rfl (hb hb0 hd) rfl hr) hr
theorem Cx.iushr (K : Cx l R Z n0 Q own nm bytes maxL ret m G) {x y z : Int32} (hd : decode bytes pc = .ok (.iushr, 1)) (hp : pc + 1 = pc') (hz : (x.toUInt32 >>> (y &&& 31).toUInt32).toInt32 = z) (hr : G h kc ks (mkF m pc' L (.int z :: S))) : G h kc ks (mkF m pc L (.int y :: .int x :: S)) := by
  subst hp hz
  exact K.step (fun p e below T c h hx hb0 t hr => XS.iushr h hx rfl (hb hb0 hd) rfl hr) hr
theorem Cx.lshl (K : Cx l R Z n0 Q own nm bytes maxL ret m G) {x z : Int64} {y : Int32} (hd : decode bytes pc = .ok (.lshl, 1)) (hp : pc + 1 = pc') (hz : x <<< (y &&& 0x3f).toInt64 = z) (hr : G h kc ks (mkF m pc' L (.long z :: S))) : G h kc ks (mkF m pc L (.int y :: .long x :: S)) := by
  subst hp hz
  exact K.step (fun p e below T c h hx hb0 t hr => XS.lshl h hx rfl (hb hb0 hd) rfl hr) hr
theorem Cx.lshr (K : Cx l R Z n0 Q own nm bytes maxL ret m G) {x z : Int64} {y : Int32} (hd : decode bytes pc = .ok (.lshr, 1)) (hp : pc + 1 = pc') (hz : x >>> (y &&& 0x3f).toInt64 = z) (hr : G h kc ks (mkF m pc' L (.long z :: S))) : G h kc ks (mkF m pc L (.int y :: .long x :: S)) := by
  subst hp hz
  exact K.step (fun p e below T c h hx hb0 t hr => XS.lshr h hx rfl (hb hb0 hd) rfl hr) hr
theorem Cx.lushr (K : Cx l R Z n0 Q own nm bytes maxL ret m G) {x z : Int64} {y : Int32} (hd : decode bytes pc = .ok (.lushr, 1)) (hp : pc + 1 = pc') (hz : (x.toUInt64 >>> (y &&& 0x3f).toInt64.toUInt64).toInt64 = z) (hr : G h kc ks (mkF m pc' L (.long z :: S))) : G h kc ks (mkF m pc L (.int y :: .long x :: S)) := by
  subst hp hz
  exact K.step (fun p e below T c h hx hb0 t hr => XS.lushr h hx rfl (hb hb0 hd) rfl hr) hr
theorem Cx.idiv (K : Cx l R Z n0 Q own nm bytes maxL ret m G) {x y z : Int32} (hd : decode bytes pc = .ok (.idiv, 1)) (hp : pc + 1 = pc') (hy : y ≠ 0) (hz : x / y = z) (hr : G h kc ks (mkF m pc' L (.int z :: S))) : G h kc ks (mkF m pc L (.int y :: .int x :: S)) := by
  subst hp hz
  exact K.step (fun p e below T c h hx hb0 t hr => XS.idiv h hx rfl (hb hb0 hd) rfl hy hr) hr
theorem Cx.ldiv (K : Cx l R Z n0 Q own nm bytes maxL ret m G) {x y z : Int64} (hd : decode bytes pc = .ok (.ldiv, 1)) (hp : pc + 1 = pc') (hy : y ≠ 0) (hz : x / y = z) (hr : G h kc ks (mkF m pc' L (.long z :: S))) : G h kc ks (mkF m pc L (.long y :: .long x :: S)) := by
  subst hp hz
  exact K.step (fun p e below T c h hx hb0 t hr => XS.ldiv h hx rfl (hb hb0 hd) rfl hy hr) hr
theorem Cx.irem (K : Cx l R Z n0 Q own nm bytes maxL ret m G) {x y z : Int32} (hd : decode bytes pc = .ok (.irem, 1)) (hp : pc + 1 = pc') (hy : y ≠ 0) (hz : x % y = z) (hr : G h kc ks (mkF m pc' L (.int z :: S))) : G h kc ks (mkF m pc L (.int y :: .int x :: S)) := by
  subst hp hz
  exact K.step (fun p e below T c h hx hb0 t hr => XS.irem h hx rfl (hb hb0 hd) rfl hy (by rw [irem_eq_mod]; exact hr)) hr
theorem Cx.lrem (K : Cx l R Z n0 Q own nm bytes maxL ret m G) {x y z : Int64} (hd : decode bytes pc = .ok (.lrem, 1)) (hp : pc + 1 = pc') (hy : y ≠ 0) (hz : x % y = z) (hr : G h kc ks (mkF m pc' L (.long z :: S))) : G h kc ks (mkF m pc L (.long y :: .long x :: S)) := by
  subst hp hz
  exact K.step (fun p e below T c h hx hb0 t hr => XS.lrem h hx rfl (hb hb0 hd) rfl hy (by rw [lrem_mod]; exact hr)) hr
theorem Cx.ineg (K : Cx l R Z n0 Q own nm bytes maxL ret m G) {x z : Int32} (hd : decode bytes pc = .ok (.ineg, 1)) (hp : pc + 1 = pc') (hz : -x = z) (hr : G h kc ks (mkF m pc' L (.int z :: S))) : G h kc ks (mkF m pc L (.int x :: S)) := by
  subst hp hz
  exact K.step (fun p e below T c h hx hb0 t hr => XS.ineg h hx rfl (hb hb0 hd) rfl hr) hr
theorem Cx.lneg (K : Cx l R Z n0 Q own nm bytes maxL ret m G) {x z : Int64} (hd : decode bytes pc = .ok (.lneg, 1)) (hp : pc + 1 = pc') (hz : -x = z) (hr : G h kc ks (mkF m pc' L (.long z :: S))) : G h kc ks (mkF m pc L (.long x :: S)) := by
  subst hp hz
  exact K.step (fun p e below T c h hx hb0 t hr => XS.lneg h hx rfl (hb hb0 hd) rfl hr) hr
theorem Cx.i2b (K : Cx l R Z n0 Q own nm bytes maxL ret m G) {x : Int32} {z : Int32} (hd : decode bytes pc = .ok (.i2b, 1)) (hp : pc + 1 = pc') (hz : x.toInt8.toInt32 = z) (hr : G h kc ks (mkF m pc' L (.int z :: S))) : G h kc ks (mkF m pc L (.int x :: S)) := by
  subst hp hz
  exact K.step (fun p e below T c h hx hb0 t hr => XS.i2b h hx rfl (hb hb0 hd) rfl hr) hr
theorem Cx.i2c (K : Cx l R Z n0 Q own nm bytes maxL ret m G) {x : Int32} {z : Int32} (hd : decode bytes pc = .ok (.i2c, 1)) (hp : pc + 1 = pc') (hz : x.toUInt32.toUInt16.toUInt32.toInt32 = z) (hr : G h kc ks (mkF m pc' L (.int z :: S))) : G h kc ks (mkF m pc L (.int x :: S)) := by
  subst hp hz
  exact K.step (fun p e below T c h hx hb0 t hr => XS.i2c h hx rfl (hb hb0 hd) rfl hr) hr
theorem Cx.i2s (K : Cx l R Z n0 Q own nm bytes maxL ret m G) {x : Int32} {z : Int32} (hd : decode bytes pc = .ok (.i2s, 1)) (hp : pc + 1 = pc') (hz : x.toInt16.toInt32 = z) (hr : G h kc ks (mkF m pc' L (.int z :: S))) : G h kc ks (mkF m pc L (.int x :: S)) := by
  subst hp hz
  exact K.step (fun p e below T c h hx hb0 t hr => XS.i2s h hx rfl (hb hb0 hd) rfl hr) hr
theorem Cx.i2l (K : Cx l R Z n0 Q own nm bytes maxL ret m G) {x : Int32} {z : Int64} (hd : decode bytes pc = .ok (.i2l, 1)) (hp : pc + 1 = pc') (hz : x.toInt64 = z) (hr : G h kc ks (mkF m pc' L (.long z :: S))) : G h kc ks (mkF m pc L (.int x :: S)) := by
  subst hp hz
  exact K.step (fun p e below T c h hx hb0 t hr => XS.i2l h hx rfl (hb hb0 hd) rfl hr) hr
theorem Cx.l2i (K : Cx l R Z n0 Q own nm bytes maxL ret m G) {x : Int64} {z : Int32} (hd : decode bytes pc = .ok (.l2i, 1)) (hp : pc + 1 = pc') (hz : x.toInt32 = z) (hr : G h kc ks (mkF m pc' L (.int z :: S))) : G h kc ks (mkF m pc L (.long x :: S)) := by
  subst hp hz
  exact K.step (fun p e below T c h hx hb0 t hr => XS.l2i h hx rfl (hb hb0 hd) rfl hr) hr
theorem Cx.iinc (K : Cx l R Z n0 Q own nm bytes maxL ret m G) {k : Nat} {cst : Int} {x z : Int32} (hd : decode bytes pc = .ok (.iinc k cst, 3)) (hp : pc + 3 = pc') (hl : L[k]? = some (.val (.int x))) (hz : x + Int32.ofInt cst = z) (hl' : storeLocals L k (.int z) = some L') (hr : G h kc ks (mkF m pc' L' (S))) : G h kc ks (mkF m pc L (S)) := by
  subst hp hz
  exact K.step (fun p e below T c h hx hb0 t hr => XS.iinc h hx rfl (hb hb0 hd) hl hl' hr) hr
theorem Cx.dup (K : Cx l R Z n0 Q own nm bytes maxL ret m G) {x : Value} (hd : decode bytes pc = .ok (.dup, 1)) (hp : pc + 1 = pc') (hc : x.category = 1) (hr : G h kc ks (mkF m pc' L (x :: x :: S))) : G h kc ks (mkF m pc L (x :: S)) := by
  subst hp
  exact K.step (fun p e below T c h hx hb0 t hr => XS.dup h hx rfl (hb hb0 hd) rfl hc hr) hr
theorem Cx.pop (K : Cx l R Z n0 Q own nm bytes maxL ret m G) {x : Value} (hd : decode bytes pc = .ok (.pop, 1)) (hp : pc + 1 = pc') (hc : x.category = 1) (hr : G h kc ks (mkF m pc' L (S))) : G h kc ks (mkF m pc L (x :: S)) := by
  subst hp
  exact K.step (fun p e below T c h hx hb0 t hr => XS.pop h hx rfl (hb hb0 hd) rfl hc hr) hr
theorem Cx.dupX1 (K : Cx l R Z n0 Q own nm bytes maxL ret m G) {x y : Value} (hd : decode bytes pc = .ok (.dup_x1, 1)) (hp : pc + 1 = pc') (hc : x.category = 1) (hc2 : y.category = 1) (hr : G h kc ks (mkF m pc' L (x :: y :: x :: S))) : G h kc ks (mkF m pc L (x :: y :: S)) := by
  subst hp
  exact K.step (fun p e below T c h hx hb0 t hr => XS.dupX1 h hx rfl (hb hb0 hd) rfl hc hc2 hr) hr
theorem Cx.goto (K : Cx l R Z n0 Q own nm bytes maxL ret m G) {o : Int} (hd : decode bytes pc = .ok (.goto o, 3)) (ho : 0 ≤ (pc : Int) + o) (hp : ((pc : Int) + o).toNat = pc') (hr : G h kc ks (mkF m pc' L S)) : G h kc ks (mkF m pc L S) :=
  K.step (fun p e below T c h hx hb0 t hr => XS.goto h hx rfl (pc0 := pc) (pc' := pc') rfl (hb hb0 hd) ho hp hr) hr
theorem icmpW (cd : ClassFile.Cond) {x y : Int32} {a b : Int} (ha : x.toInt = a) (hb : y.toInt = b) : if_icmp.holds cd x y = (match cd with | .lt => decide (a < b) | .ge => decide (b ≤ a) | .gt => decide (b < a) | .le => decide (a ≤ b) | .eq => decide (a = b) | .ne => decide (a ≠ b)) := by
  subst ha hb
  cases cd <;> rw [Bool.eq_iff_iff] <;> simp [if_icmp.holds, Int32.lt_iff_toInt_lt, Int32.le_iff_toInt_le, Int32.toInt_inj]
theorem lcmpW0 (cd : ClassFile.Cond) {x y : Int64} {a b : Int} (ha : x.toInt = a) (hb : y.toInt = b) : ifCond.holds cd (if x > y then 1 else if x = y then 0 else -1) = (match cd with | .lt => decide (a < b) | .ge => decide (b ≤ a) | .gt => decide (b < a) | .le => decide (a ≤ b) | .eq => decide (a = b) | .ne => decide (a ≠ b)) := by
  subst ha hb
  rcases Int.lt_trichotomy x.toInt y.toInt with h | h | h
  · have e : (if x > y then (1 : Int32) else if x = y then 0 else -1) = -1 := by rw [if_neg (by rw [gt_iff_lt, Int64.lt_iff_toInt_lt]; omega), if_neg (by rw [← Int64.toInt_inj]; omega)]
    rw [e, if0, icmpW cd (a := -1) (b := 0) rfl rfl]
    cases cd <;> exact decide_eq_decide.mpr (by omega)
  · have e : (if x > y then (1 : Int32) else if x = y then 0 else -1) = 0 := by rw [if_neg (by rw [gt_iff_lt, Int64.lt_iff_toInt_lt]; omega), if_pos (by rw [← Int64.toInt_inj]; omega)]
    rw [e, if0, icmpW cd (a := 0) (b := 0) rfl rfl]
    cases cd <;> exact decide_eq_decide.mpr (by omega)
  · have e : (if x > y then (1 : Int32) else if x = y then 0 else -1) = 1 := by rw [if_pos (by rw [gt_iff_lt, Int64.lt_iff_toInt_lt]; omega)]
    rw [e, if0, icmpW cd (a := 1) (b := 0) rfl rfl]
    cases cd <;> exact decide_eq_decide.mpr (by omega)
theorem Cx.icmp_lt (K : Cx l R Z n0 Q own nm bytes maxL ret m G) {o : Int} {x y : Int32} {a b : Int} (hd : decode bytes pc = .ok (.if_icmp .lt o, 3)) (hp : pc + 3 = pc1) (ho : 0 ≤ (pc : Int) + o) (hq : ((pc : Int) + o).toNat = pc2) (ha : x.toInt = a) (hb' : y.toInt = b) (ht : a < b → G h kc ks (mkF m pc2 L S)) (hf : b ≤ a → G h kc ks (mkF m pc1 L S)) : G h kc ks (mkF m pc L (.int y :: .int x :: S)) := by
  subst hp
  have q := icmpW .lt ha hb'
  by_cases hc : a < b
  · exact K.step (fun p e below T c h hx hb0 t hr => XS.icmpYes h hx rfl (pc0 := pc) (pc' := pc2) rfl (hb hb0 hd) rfl (q.trans (decide_eq_true hc)) ho hq hr) (ht hc)
  · exact K.step (fun p e below T c h hx hb0 t hr => XS.icmpNo h hx rfl (hb hb0 hd) rfl (q.trans (decide_eq_false hc)) hr) (hf (by omega))
theorem Cx.if_lt (K : Cx l R Z n0 Q own nm bytes maxL ret m G) {o : Int} {x : Int32} {a : Int} (hd : decode bytes pc = .ok (.ifCond .lt o, 3)) (hp : pc + 3 = pc1) (ho : 0 ≤ (pc : Int) + o) (hq : ((pc : Int) + o).toNat = pc2) (ha : x.toInt = a) (ht : a < 0 → G h kc ks (mkF m pc2 L S)) (hf : 0 ≤ a → G h kc ks (mkF m pc1 L S)) : G h kc ks (mkF m pc L (.int x :: S)) := by
  subst hp
  have q := (if0 .lt x).trans (icmpW .lt ha (b := 0) rfl)
  by_cases hc : a < 0
  · exact K.step (fun p e below T c h hx hb0 t hr => XS.ifYes h hx rfl (pc0 := pc) (pc' := pc2) rfl (hb hb0 hd) rfl (q.trans (decide_eq_true hc)) ho hq hr) (ht hc)
  · exact K.step (fun p e below T c h hx hb0 t hr => XS.ifNo h hx rfl (hb hb0 hd) rfl (q.trans (decide_eq_false hc)) hr) (hf (by omega))
theorem Cx.lcmp_lt (K : Cx l R Z n0 Q own nm bytes maxL ret m G) {o : Int} {x y : Int64} {a b : Int} (hd0 : decode bytes pc = .ok (.lcmp, 1)) (hd : decode bytes (pc + 1) = .ok (.ifCond .lt o, 3)) (hp : pc + 4 = pc1) (ho : 0 ≤ ((pc + 1 : Nat) : Int) + o) (hq : (((pc + 1 : Nat) : Int) + o).toNat = pc2) (ha : x.toInt = a) (hb' : y.toInt = b) (ht : a < b → G h kc ks (mkF m pc2 L S)) (hf : b ≤ a → G h kc ks (mkF m pc1 L S)) : G h kc ks (mkF m pc L (.long y :: .long x :: S)) := by
  subst hp
  have q := lcmpW0 .lt ha hb'
  refine K.step (f' := mkF m (pc + 1) L (.int (if x > y then 1 else if x = y then 0 else -1) :: S)) (fun p e below T c h hx hb0 t hr => XS.lcmp h hx rfl (hb hb0 hd0) rfl hr) ?_
  by_cases hc : a < b
  · exact K.step (fun p e below T c h hx hb0 t hr => XS.ifYes h hx rfl (pc0 := pc + 1) (pc' := pc2) rfl (hb hb0 hd) rfl (q.trans (decide_eq_true hc)) ho hq hr) (ht hc)
  · exact K.step (fun p e below T c h hx hb0 t hr => XS.ifNo h hx rfl (hb hb0 hd) rfl (q.trans (decide_eq_false hc)) hr) (hf (by omega))
theorem Cx.icmp_ge (K : Cx l R Z n0 Q own nm bytes maxL ret m G) {o : Int} {x y : Int32} {a b : Int} (hd : decode bytes pc = .ok (.if_icmp .ge o, 3)) (hp : pc + 3 = pc1) (ho : 0 ≤ (pc : Int) + o) (hq : ((pc : Int) + o).toNat = pc2) (ha : x.toInt = a) (hb' : y.toInt = b) (ht : b ≤ a → G h kc ks (mkF m pc2 L S)) (hf : a < b → G h kc ks (mkF m pc1 L S)) : G h kc ks (mkF m pc L (.int y :: .int x :: S)) := by
  subst hp
  have q := icmpW .ge ha hb'
  by_cases hc : b ≤ a
  · exact K.step (fun p e below T c h hx hb0 t hr => XS.icmpYes h hx rfl (pc0 := pc) (pc' := pc2) rfl (hb hb0 hd) rfl (q.trans (decide_eq_true hc)) ho hq hr) (ht hc)
  · exact K.step (fun p e below T c h hx hb0 t hr => XS.icmpNo h hx rfl (hb hb0 hd) rfl (q.trans (decide_eq_false hc)) hr) (hf (by omega))
theorem Cx.if_ge (K : Cx l R Z n0 Q own nm bytes maxL ret m G) {o : Int} {x : Int32} {a : Int} (hd : decode bytes pc = .ok (.ifCond .ge o, 3)) (hp : pc + 3 = pc1) (ho : 0 ≤ (pc : Int) + o) (hq : ((pc : Int) + o).toNat = pc2) (ha : x.toInt = a) (ht : 0 ≤ a → G h kc ks (mkF m pc2 L S)) (hf : a < 0 → G h kc ks (mkF m pc1 L S)) : G h kc ks (mkF m pc L (.int x :: S)) := by
  subst hp
  have q := (if0 .ge x).trans (icmpW .ge ha (b := 0) rfl)
  by_cases hc : 0 ≤ a
  · exact K.step (fun p e below T c h hx hb0 t hr => XS.ifYes h hx rfl (pc0 := pc) (pc' := pc2) rfl (hb hb0 hd) rfl (q.trans (decide_eq_true hc)) ho hq hr) (ht hc)
  · exact K.step (fun p e below T c h hx hb0 t hr => XS.ifNo h hx rfl (hb hb0 hd) rfl (q.trans (decide_eq_false hc)) hr) (hf (by omega))
theorem Cx.lcmp_ge (K : Cx l R Z n0 Q own nm bytes maxL ret m G) {o : Int} {x y : Int64} {a b : Int} (hd0 : decode bytes pc = .ok (.lcmp, 1)) (hd : decode bytes (pc + 1) = .ok (.ifCond .ge o, 3)) (hp : pc + 4 = pc1) (ho : 0 ≤ ((pc + 1 : Nat) : Int) + o) (hq : (((pc + 1 : Nat) : Int) + o).toNat = pc2) (ha : x.toInt = a) (hb' : y.toInt = b) (ht : b ≤ a → G h kc ks (mkF m pc2 L S)) (hf : a < b → G h kc ks (mkF m pc1 L S)) : G h kc ks (mkF m pc L (.long y :: .long x :: S)) := by
  subst hp
  have q := lcmpW0 .ge ha hb'
  refine K.step (f' := mkF m (pc + 1) L (.int (if x > y then 1 else if x = y then 0 else -1) :: S)) (fun p e below T c h hx hb0 t hr => XS.lcmp h hx rfl (hb hb0 hd0) rfl hr) ?_
  by_cases hc : b ≤ a
  · exact K.step (fun p e below T c h hx hb0 t hr => XS.ifYes h hx rfl (pc0 := pc + 1) (pc' := pc2) rfl (hb hb0 hd) rfl (q.trans (decide_eq_true hc)) ho hq hr) (ht hc)
  · exact K.step (fun p e below T c h hx hb0 t hr => XS.ifNo h hx rfl (hb hb0 hd) rfl (q.trans (decide_eq_false hc)) hr) (hf (by omega))
theorem Cx.icmp_gt (K : Cx l R Z n0 Q own nm bytes maxL ret m G) {o : Int} {x y : Int32} {a b : Int} (hd : decode bytes pc = .ok (.if_icmp .gt o, 3)) (hp : pc + 3 = pc1) (ho : 0 ≤ (pc : Int) + o) (hq : ((pc : Int) + o).toNat = pc2) (ha : x.toInt = a) (hb' : y.toInt = b) (ht : b < a → G h kc ks (mkF m pc2 L S)) (hf : a ≤ b → G h kc ks (mkF m pc1 L S)) : G h kc ks (mkF m pc L (.int y :: .int x :: S)) := by
  subst hp
  have q := icmpW .gt ha hb'
  by_cases hc : b < a
  · exact K.step (fun p e below T c h hx hb0 t hr => XS.icmpYes h hx rfl (pc0 := pc) (pc' := pc2) rfl (hb hb0 hd) rfl (q.trans (decide_eq_true hc)) ho hq hr) (ht hc)
  · exact K.step (fun p e below T c h hx hb0 t hr => XS.icmpNo h hx rfl (hb hb0 hd) rfl (q.trans (decide_eq_false hc)) hr) (hf (by omega))
theorem Cx.if_gt (K : Cx l R Z n0 Q own nm bytes maxL ret m G) {o : Int} {x : Int32} {a : Int} (hd : decode bytes pc = .ok (.ifCond .gt o, 3)) (hp : pc + 3 = pc1) (ho : 0 ≤ (pc : Int) + o) (hq : ((pc : Int) + o).toNat = pc2) (ha : x.toInt = a) (ht : 0 < a → G h kc ks (mkF m pc2 L S)) (hf : a ≤ 0 → G h kc ks (mkF m pc1 L S)) : G h kc ks (mkF m pc L (.int x :: S)) := by
  subst hp
  have q := (if0 .gt x).trans (icmpW .gt ha (b := 0) rfl)
  by_cases hc : 0 < a
  · exact K.step (fun p e below T c h hx hb0 t hr => XS.ifYes h hx rfl (pc0 := pc) (pc' := pc2) rfl (hb hb0 hd) rfl (q.trans (decide_eq_true hc)) ho hq hr) (ht hc)
  · exact K.step (fun p e below T c h hx hb0 t hr => XS.ifNo h hx rfl (hb hb0 hd) rfl (q.trans (decide_eq_false hc)) hr) (hf (by omega))
theorem Cx.lcmp_gt (K : Cx l R Z n0 Q own nm bytes maxL ret m G) {o : Int} {x y : Int64} {a b : Int} (hd0 : decode bytes pc = .ok (.lcmp, 1)) (hd : decode bytes (pc + 1) = .ok (.ifCond .gt o, 3)) (hp : pc + 4 = pc1) (ho : 0 ≤ ((pc + 1 : Nat) : Int) + o) (hq : (((pc + 1 : Nat) : Int) + o).toNat = pc2) (ha : x.toInt = a) (hb' : y.toInt = b) (ht : b < a → G h kc ks (mkF m pc2 L S)) (hf : a ≤ b → G h kc ks (mkF m pc1 L S)) : G h kc ks (mkF m pc L (.long y :: .long x :: S)) := by
  subst hp
  have q := lcmpW0 .gt ha hb'
  refine K.step (f' := mkF m (pc + 1) L (.int (if x > y then 1 else if x = y then 0 else -1) :: S)) (fun p e below T c h hx hb0 t hr => XS.lcmp h hx rfl (hb hb0 hd0) rfl hr) ?_
  by_cases hc : b < a
  · exact K.step (fun p e below T c h hx hb0 t hr => XS.ifYes h hx rfl (pc0 := pc + 1) (pc' := pc2) rfl (hb hb0 hd) rfl (q.trans (decide_eq_true hc)) ho hq hr) (ht hc)
  · exact K.step (fun p e below T c h hx hb0 t hr => XS.ifNo h hx rfl (hb hb0 hd) rfl (q.trans (decide_eq_false hc)) hr) (hf (by omega))
theorem Cx.icmp_le (K : Cx l R Z n0 Q own nm bytes maxL ret m G) {o : Int} {x y : Int32} {a b : Int} (hd : decode bytes pc = .ok (.if_icmp .le o, 3)) (hp : pc + 3 = pc1) (ho : 0 ≤ (pc : Int) + o) (hq : ((pc : Int) + o).toNat = pc2) (ha : x.toInt = a) (hb' : y.toInt = b) (ht : a ≤ b → G h kc ks (mkF m pc2 L S)) (hf : b < a → G h kc ks (mkF m pc1 L S)) : G h kc ks (mkF m pc L (.int y :: .int x :: S)) := by
  subst hp
  have q := icmpW .le ha hb'
  by_cases hc : a ≤ b
  · exact K.step (fun p e below T c h hx hb0 t hr => XS.icmpYes h hx rfl (pc0 := pc) (pc' := pc2) rfl (hb hb0 hd) rfl (q.trans (decide_eq_true hc)) ho hq hr) (ht hc)
  · exact K.step (fun p e below T c h hx hb0 t hr => XS.icmpNo h hx rfl (hb hb0 hd) rfl (q.trans (decide_eq_false hc)) hr) (hf (by omega))
theorem Cx.if_le (K : Cx l R Z n0 Q own nm bytes maxL ret m G) {o : Int} {x : Int32} {a : Int} (hd : decode bytes pc = .ok (.ifCond .le o, 3)) (hp : pc + 3 = pc1) (ho : 0 ≤ (pc : Int) + o) (hq : ((pc : Int) + o).toNat = pc2) (ha : x.toInt = a) (ht : a ≤ 0 → G h kc ks (mkF m pc2 L S)) (hf : 0 < a → G h kc ks (mkF m pc1 L S)) : G h kc ks (mkF m pc L (.int x :: S)) := by
  subst hp
  have q := (if0 .le x).trans (icmpW .le ha (b := 0) rfl)
  by_cases hc : a ≤ 0
  · exact K.step (fun p e below T c h hx hb0 t hr => XS.ifYes h hx rfl (pc0 := pc) (pc' := pc2) rfl (hb hb0 hd) rfl (q.trans (decide_eq_true hc)) ho hq hr) (ht hc)
  · exact K.step (fun p e below T c h hx hb0 t hr => XS.ifNo h hx rfl (hb hb0 hd) rfl (q.trans (decide_eq_false hc)) hr) (hf (by omega))
theorem Cx.lcmp_le (K : Cx l R Z n0 Q own nm bytes maxL ret m G) {o : Int} {x y : Int64} {a b : Int} (hd0 : decode bytes pc = .ok (.lcmp, 1)) (hd : decode bytes (pc + 1) = .ok (.ifCond .le o, 3)) (hp : pc + 4 = pc1) (ho : 0 ≤ ((pc + 1 : Nat) : Int) + o) (hq : (((pc + 1 : Nat) : Int) + o).toNat = pc2) (ha : x.toInt = a) (hb' : y.toInt = b) (ht : a ≤ b → G h kc ks (mkF m pc2 L S)) (hf : b < a → G h kc ks (mkF m pc1 L S)) : G h kc ks (mkF m pc L (.long y :: .long x :: S)) := by
  subst hp
  have q := lcmpW0 .le ha hb'
  refine K.step (f' := mkF m (pc + 1) L (.int (if x > y then 1 else if x = y then 0 else -1) :: S)) (fun p e below T c h hx hb0 t hr => XS.lcmp h hx rfl (hb hb0 hd0) rfl hr) ?_
  by_cases hc : a ≤ b
  · exact K.step (fun p e below T c h hx hb0 t hr => XS.ifYes h hx rfl (pc0 := pc + 1) (pc' := pc2) rfl (hb hb0 hd) rfl (q.trans (decide_eq_true hc)) ho hq hr) (ht hc)
  · exact K.step (fun p e below T c h hx hb0 t hr => XS.ifNo h hx rfl (hb hb0 hd) rfl (q.trans (decide_eq_false hc)) hr) (hf (by omega))
theorem Cx.icmp_eq (K : Cx l R Z n0 Q own nm bytes maxL ret m G) {o : Int} {x y : Int32} {a b : Int} (hd : decode bytes pc = .ok (.if_icmp .eq o, 3)) (hp : pc + 3 = pc1) (ho : 0 ≤ (pc : Int) + o) (hq : ((pc : Int) + o).toNat = pc2) (ha : x.toInt = a) (hb' : y.toInt = b) (ht : a = b → G h kc ks (mkF m pc2 L S)) (hf : a ≠ b → G h kc ks (mkF m pc1 L S)) : G h kc ks (mkF m pc L (.int y :: .int x :: S)) := by
  subst hp
  have q := icmpW .eq ha hb'
  by_cases hc : a = b
  · exact K.step (fun p e below T c h hx hb0 t hr => XS.icmpYes h hx rfl (pc0 := pc) (pc' := pc2) rfl (hb hb0 hd) rfl (q.trans (decide_eq_true hc)) ho hq hr) (ht hc)
  · exact K.step (fun p e below T c h hx hb0 t hr => XS.icmpNo h hx rfl (hb hb0 hd) rfl (q.trans (decide_eq_false hc)) hr) (hf (by omega))
theorem Cx.if_eq (K : Cx l R Z n0 Q own nm bytes maxL ret m G) {o : Int} {x : Int32} {a : Int} (hd : decode bytes pc = .ok (.ifCond .eq o, 3)) (hp : pc + 3 = pc1) (ho : 0 ≤ (pc : Int) + o) (hq : ((pc : Int) + o).toNat = pc2) (ha : x.toInt = a) (ht : a = 0 → G h kc ks (mkF m pc2 L S)) (hf : a ≠ 0 → G h kc ks (mkF m pc1 L S)) : G h kc ks (mkF m pc L (.int x :: S)) := by
  subst hp
  have q := (if0 .eq x).trans (icmpW .eq ha (b := 0) rfl)
  by_cases hc : a = 0
  · exact K.step (fun p e below T c h hx hb0 t hr => XS.ifYes h hx rfl (pc0 := pc) (pc' := pc2) rfl (hb hb0 hd) rfl (q.trans (decide_eq_true hc)) ho hq hr) (ht hc)
  · exact K.step (fun p e below T c h hx hb0 t hr => XS.ifNo h hx rfl (hb hb0 hd) rfl (q.trans (decide_eq_false hc)) hr) (hf (by omega))
theorem Cx.lcmp_eq (K : Cx l R Z n0 Q own nm bytes maxL ret m G) {o : Int} {x y : Int64} {a b : Int} (hd0 : decode bytes pc = .ok (.lcmp, 1)) (hd : decode bytes (pc + 1) = .ok (.ifCond .eq o, 3)) (hp : pc + 4 = pc1) (ho : 0 ≤ ((pc + 1 : Nat) : Int) + o) (hq : (((pc + 1 : Nat) : Int) + o).toNat = pc2) (ha : x.toInt = a) (hb' : y.toInt = b) (ht : a = b → G h kc ks (mkF m pc2 L S)) (hf : a ≠ b → G h kc ks (mkF m pc1 L S)) : G h kc ks (mkF m pc L (.long y :: .long x :: S)) := by
  subst hp
  have q := lcmpW0 .eq ha hb'
  refine K.step (f' := mkF m (pc + 1) L (.int (if x > y then 1 else if x = y then 0 else -1) :: S)) (fun p e below T c h hx hb0 t hr => XS.lcmp h hx rfl (hb hb0 hd0) rfl hr) ?_
  by_cases hc : a = b
  · exact K.step (fun p e below T c h hx hb0 t hr => XS.ifYes h hx rfl (pc0 := pc + 1) (pc' := pc2) rfl (hb hb0 hd) rfl (q.trans (decide_eq_true hc)) ho hq hr) (ht hc)
  · exact K.step (fun p e below T c h hx hb0 t hr => XS.ifNo h hx rfl (hb hb0 hd) rfl (q.trans (decide_eq_false hc)) hr) (hf (by omega))
theorem Cx.icmp_ne (K : Cx l R Z n0 Q own nm bytes maxL ret m G) {o : Int} {x y : Int32} {a b : Int} (hd : decode bytes pc = .ok (.if_icmp .ne o, 3)) (hp : pc + 3 = pc1) (ho : 0 ≤ (pc : Int) + o) (hq : ((pc : Int) + o).toNat = pc2) (ha : x.toInt = a) (hb' : y.toInt = b) (ht : a ≠ b → G h kc ks (mkF m pc2 L S)) (hf : a = b → G h kc ks (mkF m pc1 L S)) : G h kc ks (mkF m pc L (.int y :: .int x :: S)) := by
  subst hp
  have q := icmpW .ne ha hb'
  by_cases hc : a ≠ b
  · exact K.step (fun p e below T c h hx hb0 t hr => XS.icmpYes h hx rfl (pc0 := pc) (pc' := pc2) rfl (hb hb0 hd) rfl (q.trans (decide_eq_true hc)) ho hq hr) (ht hc)
  · exact K.step (fun p e below T c h hx hb0 t hr => XS.icmpNo h hx rfl (hb hb0 hd) rfl (q.trans (decide_eq_false hc)) hr) (hf (by omega))
theorem Cx.if_ne (K : Cx l R Z n0 Q own nm bytes maxL ret m G) {o : Int} {x : Int32} {a : Int} (hd : decode bytes pc = .ok (.ifCond .ne o, 3)) (hp : pc + 3 = pc1) (ho : 0 ≤ (pc : Int) + o) (hq : ((pc : Int) + o).toNat = pc2) (ha : x.toInt = a) (ht : a ≠ 0 → G h kc ks (mkF m pc2 L S)) (hf : a = 0 → G h kc ks (mkF m pc1 L S)) : G h kc ks (mkF m pc L (.int x :: S)) := by
  subst hp
  have q := (if0 .ne x).trans (icmpW .ne ha (b := 0) rfl)
  by_cases hc : a ≠ 0
  · exact K.step (fun p e below T c h hx hb0 t hr => XS.ifYes h hx rfl (pc0 := pc) (pc' := pc2) rfl (hb hb0 hd) rfl (q.trans (decide_eq_true hc)) ho hq hr) (ht hc)
  · exact K.step (fun p e below T c h hx hb0 t hr => XS.ifNo h hx rfl (hb hb0 hd) rfl (q.trans (decide_eq_false hc)) hr) (hf (by omega))
theorem Cx.lcmp_ne (K : Cx l R Z n0 Q own nm bytes maxL ret m G) {o : Int} {x y : Int64} {a b : Int} (hd0 : decode bytes pc = .ok (.lcmp, 1)) (hd : decode bytes (pc + 1) = .ok (.ifCond .ne o, 3)) (hp : pc + 4 = pc1) (ho : 0 ≤ ((pc + 1 : Nat) : Int) + o) (hq : (((pc + 1 : Nat) : Int) + o).toNat = pc2) (ha : x.toInt = a) (hb' : y.toInt = b) (ht : a ≠ b → G h kc ks (mkF m pc2 L S)) (hf : a = b → G h kc ks (mkF m pc1 L S)) : G h kc ks (mkF m pc L (.long y :: .long x :: S)) := by
  subst hp
  have q := lcmpW0 .ne ha hb'
  refine K.step (f' := mkF m (pc + 1) L (.int (if x > y then 1 else if x = y then 0 else -1) :: S)) (fun p e below T c h hx hb0 t hr => XS.lcmp h hx rfl (hb hb0 hd0) rfl hr) ?_
  by_cases hc : a ≠ b
  · exact K.step (fun p e below T c h hx hb0 t hr => XS.ifYes h hx rfl (pc0 := pc + 1) (pc' := pc2) rfl (hb hb0 hd) rfl (q.trans (decide_eq_true hc)) ho hq hr) (ht hc)
  · exact K.step (fun p e below T c h hx hb0 t hr => XS.ifNo h hx rfl (hb hb0 hd) rfl (q.trans (decide_eq_false hc)) hr) (hf (by omega))
theorem Cx.ifneB (K : Cx l R Z n0 Q own nm bytes maxL ret m G) {o : Int} {P : Prop} [Decidable P] (hd : decode bytes pc = .ok (.ifCond .ne o, 3)) (hp : pc + 3 = pc1) (ho : 0 ≤ (pc : Int) + o) (hq : ((pc : Int) + o).toNat = pc2) (ht : P → G h kc ks (mkF m pc2 L S)) (hf : ¬ P → G h kc ks (mkF m pc1 L S)) : G h kc ks (mkF m pc L (.int (b2 P) :: S)) :=
  K.if_ne hd hp ho hq rfl (fun q => ht ((b2_ne0 P).mp q)) (fun q => hf ((b2_eq0 P).mp q))
theorem Cx.ifeqB (K : Cx l R Z n0 Q own nm bytes maxL ret m G) {o : Int} {P : Prop} [Decidable P] (hd : decode bytes pc = .ok (.ifCond .eq o, 3)) (hp : pc + 3 = pc1) (ho : 0 ≤ (pc : Int) + o) (hq : ((pc : Int) + o).toNat = pc2) (ht : ¬ P → G h kc ks (mkF m pc2 L S)) (hf : P → G h kc ks (mkF m pc1 L S)) : G h kc ks (mkF m pc L (.int (b2 P) :: S)) :=
  K.if_eq hd hp ho hq rfl (fun q => ht ((b2_eq0 P).mp q)) (fun q => hf ((b2_ne0 P).mp q))
theorem Cx.icmpneB (K : Cx l R Z n0 Q own nm bytes maxL ret m G) {o : Int} {P P' : Prop} [Decidable P] [Decidable P'] (hd : decode bytes pc = .ok (.if_icmp .ne o, 3)) (hp : pc + 3 = pc1) (ho : 0 ≤ (pc : Int) + o) (hq : ((pc : Int) + o).toNat = pc2) (ht : ¬ (P ↔ P') → G h kc ks (mkF m pc2 L S)) (hf : (P ↔ P') → G h kc ks (mkF m pc1 L S)) : G h kc ks (mkF m pc L (.int (b2 P') :: .int (b2 P) :: S)) :=
  K.icmp_ne hd hp ho hq rfl rfl (fun q => ht (fun z => q ((b2_inj P P').mpr z))) (fun q => hf ((b2_inj P P').mp q))
theorem Cx.icmpeqB (K : Cx l R Z n0 Q own nm bytes maxL ret m G) {o : Int} {P P' : Prop} [Decidable P] [Decidable P'] (hd : decode bytes pc = .ok (.if_icmp .eq o, 3)) (hp : pc + 3 = pc1) (ho : 0 ≤ (pc : Int) + o) (hq : ((pc : Int) + o).toNat = pc2) (ht : (P ↔ P') → G h kc ks (mkF m pc2 L S)) (hf : ¬ (P ↔ P') → G h kc ks (mkF m pc1 L S)) : G h kc ks (mkF m pc L (.int (b2 P') :: .int (b2 P) :: S)) :=
  K.icmp_eq hd hp ho hq rfl rfl (fun q => ht ((b2_inj P P').mp q)) (fun q => hf (fun z => q ((b2_inj P P').mpr z)))
theorem Cx.ifnull0 (K : Cx l R Z n0 Q own nm bytes maxL ret m G) {o : Int} (hd : decode bytes pc = .ok (.ifnull o, 3)) (ho : 0 ≤ (pc : Int) + o) (hq : ((pc : Int) + o).toNat = pc2) (hr : G h kc ks (mkF m pc2 L S)) : G h kc ks (mkF m pc L (.null :: S)) :=
  K.step (fun p e below T c h hx hb0 t hr => XS.ifnullYes h hx rfl (pc0 := pc) (pc' := pc2) rfl (hb hb0 hd) rfl ho hq hr) hr
theorem Cx.ifnull1 (K : Cx l R Z n0 Q own nm bytes maxL ret m G) {o : Int} {b : Addr} (hd : decode bytes pc = .ok (.ifnull o, 3)) (hp : pc + 3 = pc') (hr : G h kc ks (mkF m pc' L S)) : G h kc ks (mkF m pc L (.ref b :: S)) := by
  subst hp
  exact K.step (fun p e below T c h hx hb0 t hr => XS.ifnullNo h hx rfl (hb hb0 hd) rfl hr) hr
theorem Cx.ifnonnull1 (K : Cx l R Z n0 Q own nm bytes maxL ret m G) {o : Int} {b : Addr} (hd : decode bytes pc = .ok (.ifnonnull o, 3)) (ho : 0 ≤ (pc : Int) + o) (hq : ((pc : Int) + o).toNat = pc2) (hr : G h kc ks (mkF m pc2 L S)) : G h kc ks (mkF m pc L (.ref b :: S)) :=
  K.step (fun p e below T c h hx hb0 t hr => XS.ifnonnullYes h hx rfl (pc0 := pc) (pc' := pc2) rfl (hb hb0 hd) rfl ho hq hr) hr
theorem Cx.ifnonnull0 (K : Cx l R Z n0 Q own nm bytes maxL ret m G) {o : Int} (hd : decode bytes pc = .ok (.ifnonnull o, 3)) (hp : pc + 3 = pc') (hr : G h kc ks (mkF m pc' L S)) : G h kc ks (mkF m pc L (.null :: S)) := by
  subst hp
  exact K.step (fun p e below T c h hx hb0 t hr => XS.ifnonnullNo h hx rfl (hb hb0 hd) rfl hr) hr
theorem Cx.acmpNe (K : Cx l R Z n0 Q own nm bytes maxL ret m G) {o : Int} {a b : Addr} (hd : decode bytes pc = .ok (.if_acmp .ne o, 3)) (hp : pc + 3 = pc1) (ho : 0 ≤ (pc : Int) + o) (hq : ((pc : Int) + o).toNat = pc2) (ht : a ≠ b → G h kc ks (mkF m pc2 L S)) (hf : a = b → G h kc ks (mkF m pc1 L S)) : G h kc ks (mkF m pc L (.ref b :: .ref a :: S)) := by
  subst hp
  by_cases hc : a = b
  · exact K.step (fun p e below T c h hx hb0 t hr => XS.acmpNo h hx rfl (hb hb0 hd) rfl (by simp [if_acmp.holds, hc]) hr) (hf hc)
  · exact K.step (fun p e below T c h hx hb0 t hr => XS.acmpYes h hx rfl (pc0 := pc) (pc' := pc2) rfl (hb hb0 hd) rfl (by simp [if_acmp.holds, hc]) ho hq hr) (ht hc)
theorem Cx.acmpEq (K : Cx l R Z n0 Q own nm bytes maxL ret m G) {o : Int} {a b : Addr} (hd : decode bytes pc = .ok (.if_acmp .eq o, 3)) (hp : pc + 3 = pc1) (ho : 0 ≤ (pc : Int) + o) (hq : ((pc : Int) + o).toNat = pc2) (ht : a = b → G h kc ks (mkF m pc2 L S)) (hf : a ≠ b → G h kc ks (mkF m pc1 L S)) : G h kc ks (mkF m pc L (.ref b :: .ref a :: S)) := by
  subst hp
  by_cases hc : a = b
  · exact K.step (fun p e below T c h hx hb0 t hr => XS.acmpYes h hx rfl (pc0 := pc) (pc' := pc2) rfl (hb hb0 hd) rfl (by simp [if_acmp.holds, hc]) ho hq hr) (ht hc)
  · exact K.step (fun p e below T c h hx hb0 t hr => XS.acmpNo h hx rfl (hb hb0 hd) rfl (by simp [if_acmp.holds, hc]) hr) (hf hc)
theorem Cx.lsHit (K : Cx l R Z n0 Q own nm bytes maxL ret m G) {dflt : Int} {pairs : Array (Int × Int)} {len : Nat} {k : Int32} {a off : Int} (hd : decode bytes pc = .ok (.lookupswitch dflt pairs, len)) (hsorted : (pairs.toList.zip (pairs.toList.drop 1)).all (fun (a, next) => a.1 < next.1) = true) (hfind : pairs.find? (·.1 == k.toInt) = some (a, off)) (ho : 0 ≤ (pc : Int) + off) (hq : ((pc : Int) + off).toNat = pc2) (hr : G h kc ks (mkF m pc2 L S)) : G h kc ks (mkF m pc L (.int k :: S)) := by
  subst hq
  exact K.stepX (h' := h) (fun p e s args below meth c T locs X eT hx hb0 hown hZ => ⟨T, X, eT, fun t hr => X.lookupswitchHit hx (g := mkF m pc L (.int k :: S)) rfl rfl (hb hb0 hd) hsorted hfind ho _ hr⟩) hr
theorem Cx.lsMiss (K : Cx l R Z n0 Q own nm bytes maxL ret m G) {dflt : Int} {pairs : Array (Int × Int)} {len : Nat} {k : Int32} (hd : decode bytes pc = .ok (.lookupswitch dflt pairs, len)) (hsorted : (pairs.toList.zip (pairs.toList.drop 1)).all (fun (a, next) => a.1 < next.1) = true) (hfind : ∀ p ∈ pairs.toList, p.1 ≠ k.toInt) (ho : 0 ≤ (pc : Int) + dflt) (hq : ((pc : Int) + dflt).toNat = pc2) (hr : G h kc ks (mkF m pc2 L S)) : G h kc ks (mkF m pc L (.int k :: S)) := by
  subst hq
  exact K.stepX (h' := h) (fun p e s args below meth c T locs X eT hx hb0 hown hZ => ⟨T, X, eT, fun t hr => X.lookupswitchMiss hx (g := mkF m pc L (.int k :: S)) rfl rfl (hb hb0 hd) hsorted (find_miss hfind) ho _ hr⟩) hr
theorem Cx.ldcI (K : Cx l R Z n0 Q own nm bytes maxL ret m G) {index : Nat} {v : Int32} (hd : decode bytes pc = .ok (.ldc index, 2)) (hp : pc + 2 = pc') (w : (Cond.constant own index v).before a0 Z = true) (hr : G h kc ks (mkF m pc' L (.int v :: S))) : G h kc ks (mkF m pc L S) := by
  subst hp
  exact K.stepX (h' := h) (fun p e s args below meth c T locs X eT hx hb0 hown hZ => ⟨T, X, eT, X.ldcInt hx hown (mvT hZ w) (g := mkF m pc L S) rfl (hb hb0 hd)⟩) hr
theorem Cx.ldcwI (K : Cx l R Z n0 Q own nm bytes maxL ret m G) {index : Nat} {v : Int32} (hd : decode bytes pc = .ok (.ldc_w index, 3)) (hp : pc + 3 = pc') (w : (Cond.constant own index v).before a0 Z = true) (hr : G h kc ks (mkF m pc' L (.int v :: S))) : G h kc ks (mkF m pc L S) := by
  subst hp
  exact K.stepX (h' := h) (fun p e s args below meth c T locs X eT hx hb0 hown hZ => ⟨T, X, eT, X.ldcwInt hx hown (mvT hZ w) (g := mkF m pc L S) rfl (hb hb0 hd)⟩) hr
theorem Cx.ldc2J (K : Cx l R Z n0 Q own nm bytes maxL ret m G) {index : Nat} {v : Int64} (hd : decode bytes pc = .ok (.ldc2_w index, 3)) (hp : pc + 3 = pc') (w : (Cond.constantLong own index v).before a0 Z = true) (hr : G h kc ks (mkF m pc' L (.long v :: S))) : G h kc ks (mkF m pc L S) := by
  subst hp
  exact K.stepX (h' := h) (fun p e s args below meth c T locs X eT hx hb0 hown hZ => ⟨T, X, eT, X.ldc2Long hx hown (mvT hZ w) (g := mkF m pc L S) rfl (hb hb0 hd)⟩) hr
theorem Cx.ldc2D (K : Cx l R Z n0 Q own nm bytes maxL ret m G) {index : Nat} {v : UInt64} (hd : decode bytes pc = .ok (.ldc2_w index, 3)) (hp : pc + 3 = pc') (w : (Cond.constantDouble own index v).before a0 Z = true) (hr : G h kc ks (mkF m pc' L (.double v :: S))) : G h kc ks (mkF m pc L S) := by
  subst hp
  exact K.stepX (h' := h) (fun p e s args below meth c T locs X eT hx hb0 hown hZ => ⟨T, X, eT, X.ldc2DoubleC hx hown (mvT hZ w) (g := mkF m pc L S) rfl (hb hb0 hd)⟩) hr
theorem Cx.getf (K : Cx l R Z n0 Q own nm bytes maxL ret m G) {R0 O n d host : String} {index : Nat} {a : Addr} {v : Value} (hd : decode bytes pc = .ok (.getfield index, 3)) (hp : pc + 3 = pc') (w : (Cond.fieldLink own index R0 n d).before a0 Z = true ∨ (Cond.fieldLinkNest own index R0 n d host).before a0 Z = true) (via : Via Z R0 O n d) (F : Fld Z h a O n d v) (hr : G h kc ks (mkF m pc' L (v :: S))) : G h kc ks (mkF m pc L (.ref a :: S)) := by
  subst hp
  exact K.stepX (h' := h) (fun p e s args below meth c T locs X eT hx hb0 hown hZ => RoadKit.getF X hx hZ hown w via eT F (g := mkF m pc L (.ref a :: S)) rfl rfl (hb hb0 hd)) hr
theorem Cx.gets (K : Cx l R Z n0 Q own nm bytes maxL ret m G) {R0 O n d host : String} {index : Nat} {v : Value} (hd : decode bytes pc = .ok (.getstatic index, 3)) (hp : pc + 3 = pc') (w : (Cond.fieldLink own index R0 n d).before a0 Z = true ∨ (Cond.fieldLinkNest own index R0 n d host).before a0 Z = true) (via : Via Z R0 O n d) (F : Sta Z h O n d v) (hr : G h kc ks (mkF m pc' L (v :: S))) : G h kc ks (mkF m pc L S) := by
  subst hp
  exact K.stepX (h' := h) (fun p e s args below meth c T locs X eT hx hb0 hown hZ => RoadKit.getS2 X hx hZ hown w via eT F (g := mkF m pc L S) rfl (hb hb0 hd)) hr
theorem Cx.putf (K : Cx l R Z n0 Q own nm bytes maxL ret m G) {R0 O n d host C : String} {index kk : Nat} {ty : FieldType} {a : Addr} {v old : Value} (hd : decode bytes pc = .ok (.putfield index, 3)) (hp : pc + 3 = pc') (w : (Cond.fieldLink own index R0 n d).before a0 Z = true ∨ (Cond.fieldLinkNest own index R0 n d host).before a0 Z = true) (via : Via Z R0 O n d) (F : Fld Z h a O n d old) (E : Exa Z h a C)
    (LL : (Cond.lays C O n d).before a0 Z = true ∨ ((Cond.laysFinal C O n d).before a0 Z = true ∧ own = O ∧ nm = "<init>")) (wi : (Cond.instantiable C kk).before a0 Z = true) (hty : parseFieldDescriptor d = some ty) (hn : narrow ty v = v) (hf : fits ty v = true) (ga : n0 ≤ a)
    (hr : ∀ h', Wr h h' a (Jvm.RoadKit.slotOf Z O n d) v → G h' kc ks (mkF m pc' L S)) : G h kc ks (mkF m pc L (v :: .ref a :: S)) := by
  obtain ⟨p, e, s, args, below, meth, c, rfl, hx, hby, hml, hown, hZ, hret, hlk, hnm⟩ := K
  subst hp
  intro T locs X eT N
  obtain ⟨T', h', X', e', W, st⟩ := RoadKit.putF X hx hZ hown w via eT F E (LL.imp id fun q => ⟨q.1, q.2.1, hnm.trans q.2.2⟩) wi hty hn hf (g := mkF m pc L (v :: .ref a :: S)) rfl rfl (hb hby hd)
  obtain ⟨s₂, o, h1, h2⟩ := hr h' W T' _ X' e' (Fr.snoc X' N ga)
  exact ⟨s₂, o, st _ h1, h2⟩
theorem Cx.newo (K : Cx l R Z n0 Q own nm bytes maxL ret m G) {C : String} {index n : Nat} (hd : decode bytes pc = .ok (.new index, 3)) (hp : pc + 3 = pc') (w : (Cond.classLink own index C).before a0 Z = true) (wi : (Cond.instantiable C n).before a0 Z = true) (wz : (Cond.initialized C).before a0 Z = true) (hc : kc + 1 ≤ R.cells) (hl : ks + n ≤ R.slots)
    (hr : ∀ h' a, a = h.size → Ext h h' → Exa Z h' a C → (∀ {O nm d : String} {ty : FieldType}, Laid Z a0 C O nm d → parseFieldDescriptor d = some ty → Fld Z h' a O nm d (defaultValue ty)) → G h' (kc + 1) (ks + n) (mkF m pc' L (.ref a :: S))) : G h kc ks (mkF m pc L S) := by
  obtain ⟨p, e, s, args, below, meth, c, rfl, hx, hby, hml, hown, hZ, hret, hlk, hnm⟩ := K
  subst hp
  intro T locs X eT N
  obtain ⟨T', h', X', e', E, A, D, -, st⟩ := RoadKit.newO X hx hZ hown w wi wz eT (g := mkF m pc L S) rfl (hb hby hd) hc hl
  obtain ⟨s₂, o, h1, h2⟩ := hr h' _ rfl E A D T' _ X' e' N
  exact ⟨s₂, o, st _ h1, h2⟩
theorem Cx.newa (K : Cx l R Z n0 Q own nm bytes maxL ret m G) {aty : ArrayType} {n : Int32} {k cap : Nat} (hd : decode bytes pc = .ok (.newarray aty, 2)) (hp : pc + 2 = pc') (w : (Cond.arrayClass (newarray.typeOf aty)).before a0 Z = true) (hn : n.toInt = (k : Nat)) (hk : k ≤ cap) (hbig : cap * 8 ≤ 536870912) (hc : kc + 1 ≤ R.cells) (hl : ks + cap ≤ R.slots) {ad : String} (had : "[" ++ (newarray.typeOf aty).toString = ad)
    (hr : ∀ h' a, a = h.size → Ext h h' → Ary Z h' a (newarray.typeOf aty) (List.replicate k (defaultValue (newarray.typeOf aty))) → Exa Z h' a ad → G h' (kc + 1) (ks + cap) (mkF m pc' L (.ref a :: S))) : G h kc ks (mkF m pc L (.int n :: S)) := by
  obtain ⟨p, e, s, args, below, meth, c, rfl, hx, hby, hml, hown, hZ, hret, hlk, hnm⟩ := K
  subst hp
  intro T locs X eT N
  have hn0 : ¬ n < 0 := by rw [Int32.lt_iff_toInt_lt, hn, show (0 : Int32).toInt = 0 from rfl]; omega
  obtain ⟨T', h', cA, X', e', E, A, EX, st⟩ := RoadKit.newPE X hx hZ w eT (g := mkF m pc L (.int n :: S)) rfl (hb hby hd) rfl hn0 (cap := cap) (by rw [clamp_of hn]; exact hk) hbig hc hl had
  obtain ⟨s₂, o, h1, h2⟩ := hr h' _ rfl E ⟨_, A, by simp [newA, clamp_of hn], by rw [List.length_replicate]; have := n.toInt_lt; omega⟩ EX T' _ X' e' N
  exact ⟨s₂, o, st _ h1, h2⟩
theorem Cx.iald (K : Cx l R Z n0 Q own nm bytes maxL ret m G) {a : Addr} {vs : List Value} {j : Int32} {i : Nat} {v : Value} (hd : decode bytes pc = .ok (.iaload, 1)) (hp : pc + 1 = pc') (A : Ary Z h a .int vs) (hj : j.toInt = (i : Nat)) (hv : vs[i]? = some v) (hr : G h kc ks (mkF m pc' L (v :: S))) : G h kc ks (mkF m pc L (.int j :: .ref a :: S)) := by
  subst hp
  obtain ⟨cl, Ar, rfl, hlt⟩ := A
  have hi : i < cl.slots.toList.length := (List.getElem?_eq_some_iff.mp hv).1
  exact K.stepX (h' := h) (fun p e s args below meth c T locs X eT hx hb0 hown hZ => ⟨T, X, eT, fun t hr => X.iaload hx (j := j) (v := v) (by rw [eT]; exact Ar.1) (State.isArrayOf_alike hZ.alike Ar.2.1) Ar.2.2 (in_of hj hi) (at_of hj hv) (g := mkF m pc L (.int j :: .ref a :: S)) rfl rfl (hb hb0 hd) _ hr⟩) hr
theorem Cx.lald (K : Cx l R Z n0 Q own nm bytes maxL ret m G) {a : Addr} {vs : List Value} {j : Int32} {i : Nat} {v : Value} (hd : decode bytes pc = .ok (.laload, 1)) (hp : pc + 1 = pc') (A : Ary Z h a .long vs) (hj : j.toInt = (i : Nat)) (hv : vs[i]? = some v) (hr : G h kc ks (mkF m pc' L (v :: S))) : G h kc ks (mkF m pc L (.int j :: .ref a :: S)) := by
  subst hp
  obtain ⟨cl, Ar, rfl, hlt⟩ := A
  have hi : i < cl.slots.toList.length := (List.getElem?_eq_some_iff.mp hv).1
  exact K.stepX (h' := h) (fun p e s args below meth c T locs X eT hx hb0 hown hZ => ⟨T, X, eT, fun t hr => X.laload hx (j := j) (v := v) (by rw [eT]; exact Ar.1) (State.isArrayOf_alike hZ.alike Ar.2.1) Ar.2.2 (in_of hj hi) (at_of hj hv) (g := mkF m pc L (.int j :: .ref a :: S)) rfl rfl (hb hb0 hd) _ hr⟩) hr
theorem Cx.cald (K : Cx l R Z n0 Q own nm bytes maxL ret m G) {a : Addr} {vs : List Value} {j : Int32} {i : Nat} {v : Value} (hd : decode bytes pc = .ok (.caload, 1)) (hp : pc + 1 = pc') (A : Ary Z h a .char vs) (hj : j.toInt = (i : Nat)) (hv : vs[i]? = some v) (hr : G h kc ks (mkF m pc' L (v :: S))) : G h kc ks (mkF m pc L (.int j :: .ref a :: S)) := by
  subst hp
  obtain ⟨cl, Ar, rfl, hlt⟩ := A
  have hi : i < cl.slots.toList.length := (List.getElem?_eq_some_iff.mp hv).1
  exact K.stepX (h' := h) (fun p e s args below meth c T locs X eT hx hb0 hown hZ => ⟨T, X, eT, fun t hr => X.caload hx (j := j) (v := v) (by rw [eT]; exact Ar.1) (State.isArrayOf_alike hZ.alike Ar.2.1) Ar.2.2 (in_of hj hi) (at_of hj hv) (g := mkF m pc L (.int j :: .ref a :: S)) rfl rfl (hb hb0 hd) _ hr⟩) hr
theorem Cx.bald (K : Cx l R Z n0 Q own nm bytes maxL ret m G) {a : Addr} {vs : List Value} {j : Int32} {i : Nat} {v : Value} (hd : decode bytes pc = .ok (.baload, 1)) (hp : pc + 1 = pc') (A : Ary Z h a .byte vs) (hj : j.toInt = (i : Nat)) (hv : vs[i]? = some v) (hr : G h kc ks (mkF m pc' L (v :: S))) : G h kc ks (mkF m pc L (.int j :: .ref a :: S)) := by
  subst hp
  obtain ⟨cl, Ar, rfl, hlt⟩ := A
  have hi : i < cl.slots.toList.length := (List.getElem?_eq_some_iff.mp hv).1
  exact K.stepX (h' := h) (fun p e s args below meth c T locs X eT hx hb0 hown hZ => ⟨T, X, eT, fun t hr => X.baloadBytes hx (j := j) (v := v) (by rw [eT]; exact Ar.1) (State.isArrayOf_alike hZ.alike Ar.2.1) Ar.2.2 (in_of hj hi) (at_of hj hv) (g := mkF m pc L (.int j :: .ref a :: S)) rfl rfl (hb hb0 hd) _ hr⟩) hr
theorem Cx.alen (K : Cx l R Z n0 Q own nm bytes maxL ret m G) {a : Addr} {vs : List Value} {ty : FieldType} (hd : decode bytes pc = .ok (.arraylength, 1)) (hp : pc + 1 = pc') (A : Ary Z h a ty vs) (hr : ∀ z : Int32, z.toInt = (vs.length : Nat) → G h kc ks (mkF m pc' L (.int z :: S))) : G h kc ks (mkF m pc L (.ref a :: S)) := by
  subst hp
  obtain ⟨cl, Ar, rfl, hlt⟩ := A
  refine K.stepX (h' := h) (f' := mkF m (pc + 1) L (.int cl.slots.size.toInt32 :: S)) (fun p e s args below meth c T locs X eT hx hb0 hown hZ => ⟨T, X, eT, fun t hr => X.arraylength hx (by rw [eT]; exact Ar.1) (State.isArrayOf_alike hZ.alike Ar.2.1) (g := mkF m pc L (.ref a :: S)) rfl rfl (hb hb0 hd) _ hr⟩) (hr _ ?_)
  rw [Array.length_toList] at hlt ⊢
  exact len_int hlt
theorem Cx.iast (K : Cx l R Z n0 Q own nm bytes maxL ret m G) {a : Addr} {vs : List Value} {j : Int32} {x : Int32} {i : Nat} (hd : decode bytes pc = .ok (.iastore, 1)) (hp : pc + 1 = pc') (A : Ary Z h a .int vs) (hj : j.toInt = (i : Nat)) (hi : i < vs.length) (ga : n0 ≤ a) (hr : ∀ h', Wr h h' a i (.int x) → Ary Z h' a .int (vs.set i (.int x)) → G h' kc ks (mkF m pc' L S)) : G h kc ks (mkF m pc L (.int x :: .int j :: .ref a :: S)) := by
  obtain ⟨p, e, s, args, below, meth, c, rfl, hx, hby, hml, hown, hZ, hret, hlk, hnm⟩ := K
  subst hp
  intro T locs X eT N
  have A0 := A
  obtain ⟨cl, Ar, rfl, hlt⟩ := A
  obtain ⟨T', h', X', e', W, st⟩ := RoadKit.stI X hx hZ eT Ar (j := j) (in_of hj hi) (g := mkF m pc L (.int x :: .int j :: .ref a :: S)) rfl rfl (hb hby hd)
  have W' := W
  rw [clamp_of hj] at W'
  obtain ⟨s₂, o, h1, h2⟩ := hr h' W' (A0.same W') T' _ X' e' (Fr.snoc X' N ga)
  exact ⟨s₂, o, st _ h1, h2⟩
theorem Cx.last (K : Cx l R Z n0 Q own nm bytes maxL ret m G) {a : Addr} {vs : List Value} {j : Int32} {x : Int64} {i : Nat} (hd : decode bytes pc = .ok (.lastore, 1)) (hp : pc + 1 = pc') (A : Ary Z h a .long vs) (hj : j.toInt = (i : Nat)) (hi : i < vs.length) (ga : n0 ≤ a) (hr : ∀ h', Wr h h' a i (.long x) → Ary Z h' a .long (vs.set i (.long x)) → G h' kc ks (mkF m pc' L S)) : G h kc ks (mkF m pc L (.long x :: .int j :: .ref a :: S)) := by
  obtain ⟨p, e, s, args, below, meth, c, rfl, hx, hby, hml, hown, hZ, hret, hlk, hnm⟩ := K
  subst hp
  intro T locs X eT N
  have A0 := A
  obtain ⟨cl, Ar, rfl, hlt⟩ := A
  obtain ⟨T', h', X', e', W, st⟩ := RoadKit.stJ X hx hZ eT Ar (j := j) (in_of hj hi) (g := mkF m pc L (.long x :: .int j :: .ref a :: S)) rfl rfl (hb hby hd)
  have W' := W
  rw [clamp_of hj] at W'
  obtain ⟨s₂, o, h1, h2⟩ := hr h' W' (A0.same W') T' _ X' e' (Fr.snoc X' N ga)
  exact ⟨s₂, o, st _ h1, h2⟩
theorem Cx.cast_ (K : Cx l R Z n0 Q own nm bytes maxL ret m G) {a : Addr} {vs : List Value} {j : Int32} {x : Int32} {i : Nat} (hd : decode bytes pc = .ok (.castore, 1)) (hp : pc + 1 = pc') (A : Ary Z h a .char vs) (hj : j.toInt = (i : Nat)) (hi : i < vs.length) (ga : n0 ≤ a) (hr : ∀ h', Wr h h' a i (.int (nar .char x)) → Ary Z h' a .char (vs.set i (.int (nar .char x))) → G h' kc ks (mkF m pc' L S)) : G h kc ks (mkF m pc L (.int x :: .int j :: .ref a :: S)) := by
  obtain ⟨p, e, s, args, below, meth, c, rfl, hx, hby, hml, hown, hZ, hret, hlk, hnm⟩ := K
  subst hp
  intro T locs X eT N
  have A0 := A
  obtain ⟨cl, Ar, rfl, hlt⟩ := A
  obtain ⟨T', h', X', e', W, st⟩ := RoadKit.stC X hx hZ eT Ar (j := j) (in_of hj hi) (g := mkF m pc L (.int x :: .int j :: .ref a :: S)) rfl rfl (hb hby hd)
  have W' := W
  rw [clamp_of hj] at W'
  obtain ⟨s₂, o, h1, h2⟩ := hr h' W' (A0.same W') T' _ X' e' (Fr.snoc X' N ga)
  exact ⟨s₂, o, st _ h1, h2⟩
theorem Cx.bast (K : Cx l R Z n0 Q own nm bytes maxL ret m G) {a : Addr} {vs : List Value} {j : Int32} {x : Int32} {i : Nat} (hd : decode bytes pc = .ok (.bastore, 1)) (hp : pc + 1 = pc') (A : Ary Z h a .byte vs) (hj : j.toInt = (i : Nat)) (hi : i < vs.length) (ga : n0 ≤ a) (hr : ∀ h', Wr h h' a i (.int (nar .byte x)) → Ary Z h' a .byte (vs.set i (.int (nar .byte x))) → G h' kc ks (mkF m pc' L S)) : G h kc ks (mkF m pc L (.int x :: .int j :: .ref a :: S)) := by
  obtain ⟨p, e, s, args, below, meth, c, rfl, hx, hby, hml, hown, hZ, hret, hlk, hnm⟩ := K
  subst hp
  intro T locs X eT N
  have A0 := A
  obtain ⟨cl, Ar, rfl, hlt⟩ := A
  obtain ⟨T', h', X', e', W, st⟩ := RoadKit.stB X hx hZ eT Ar (j := j) (in_of hj hi) (g := mkF m pc L (.int x :: .int j :: .ref a :: S)) rfl rfl (hb hby hd)
  have W' := W
  rw [clamp_of hj] at W'
  obtain ⟨s₂, o, h1, h2⟩ := hr h' W' (A0.same W') T' _ X' e' (Fr.snoc X' N ga)
  exact ⟨s₂, o, st _ h1, h2⟩
theorem Cx.init0 (K : Cx l R Z n0 Q own nm bytes maxL ret m G) {idx W : Nat} {a : Addr} (hd : decode bytes pc = .ok (.invokespecial idx, 3)) (hp : pc + 3 = pc') (w1 : (Cond.methodLink own idx Lib.objectInit).before a0 Z = true) (w2 : (Cond.instanceMethod Lib.objectInit).before a0 Z = true) (w3 : (Cond.code Lib.objectInit ⟨#[0xb1]⟩ 1 none).before a0 Z = true) (hL : L.size = maxL) (hf : 1 ≤ R.frames) (hW : (S.map fun v => v.category).sum ≤ W) (hl : W + 12 ≤ R.locals)
    (hr : G h kc ks (mkF m pc' L S)) : G h kc ks (mkF m pc L (.ref a :: S)) := by
  obtain ⟨p, e, s, args, below, meth, c, rfl, hx, hby, hml, hown, hZ, hret, hlk, hnm⟩ := K
  subst hp
  intro T locs X eT N
  obtain ⟨T', X', e', st⟩ := RoadKit.initO X hx hZ hown w1 w2 w3 eT (g := mkF m pc L (.ref a :: S)) rfl (by rw [hml]; exact hL) rfl (hb hby hd) hf (W := W) (by show 2 * 0 + _ ≤ _; omega) hl
  obtain ⟨s₂, o, h1, h2⟩ := hr T' _ X' e' N
  exact ⟨s₂, o, st _ h1, h2⟩
theorem Cx.calls (K : Cx l R Z n0 Q own nm bytes maxL ret m G) {y : MethodName} {b' : ByteArray} {ml' : Nat} {rt' r : Option FieldType} {rm : Room} {Qc : Option Value → Heap → Prop} {index : Nat} {argsL rest : List Value} {W : Nat} {ps : List FieldType} (hd : decode bytes pc = .ok (.invokestatic index, 3)) (hp : pc + 3 = pc') (M : MeetsW l Z n0 y b' ml' rt' rm argsL.toArray h Qc) (w1 : (Cond.methodLink own index y).before a0 Z = true) (w2 : (Cond.static y).before a0 Z = true) (w3 : (Cond.initialized y.cls).before a0 Z = true) (w4 : (Cond.code y b' ml' rt').before a0 Z = true) (hy : y.cls ≠ "java/lang/invoke/MethodHandle" ∧ y.cls ≠ "java/lang/invoke/VarHandle") (hpd : parseMethodDescriptor y.desc = some ⟨ps, r⟩) (hlen : argsL.length = ps.length) (hL : L.size = maxL) (hW : (rest.map fun v => v.category).sum ≤ W) (hf : rm.frames + 1 ≤ R.frames) (hl : W + (ml' + 11) + rm.locals ≤ R.locals) (hc : kc + rm.cells ≤ R.cells) (hsl : ks + rm.slots ≤ R.slots) (hr : ∀ v h', Qc v h' → G h' (kc + rm.cells) (ks + rm.slots) (mkF m pc' L (v.toList ++ rest))) : G h kc ks (mkF m pc L (argsL.reverse ++ rest)) := by
  obtain ⟨p, e, s, args, below, meth, c, rfl, hx, hby, hml, hown, hZ, hret, hlk, hnm⟩ := K
  subst hp
  intro T locs X eT N
  obtain ⟨v, _, ⟨T', Lo, ko, no⟩, -, X', ⟨Lc, hQ, l', y', z'⟩, st⟩ := Jvm.LawKit.callS X hx (y := y) hown (mvT hZ w1) (mvT hZ w2) (mvT hZ w3) (mvT hZ w4) hy (backOf (Q := fun v h L => Qc v h ∧ Fr n0 L) (W := W) (M []) hZ w4 w3 hf hl) (g := mkF m pc L (argsL.reverse ++ rest)) rfl (by rw [hml]; exact hL) (argsL := argsL) (rest := rest) (lenOf hpd hlen) rfl (by show 2 * 0 + _ ≤ _; omega) (hb hby hd) (fun _ _ => ⟨rfl, eT, hc, hsl⟩)
  dsimp only [Pt.U, Pt.locs, Pt.cells, Pt.slots] at X' l' y' z' st hQ
  subst l' y' z'
  obtain ⟨s₂, o, h1, h2⟩ := hr v T'.heap hQ.1 T' _ X' rfl (Fr.app N hQ.2)
  exact ⟨s₂, o, st _ h1, h2⟩
theorem Cx.callc (K : Cx l R Z n0 Q own nm bytes maxL ret m G) {y : MethodName} {b' : ByteArray} {ml' : Nat} {r : Option FieldType} {rm : Room} {Qc : Option Value → Heap → Prop} {index : Nat} {argsL rest : List Value} {W : Nat} {ps : List FieldType} {a : Addr} (hd : decode bytes pc = .ok (.invokespecial index, 3)) (hp : pc + 3 = pc') (hi : y.name = "<init>") (M : MeetsW l Z n0 y b' ml' none rm (Value.ref a :: argsL).toArray h Qc) (w1 : (Cond.methodLink own index y).before a0 Z = true) (w2 : (Cond.instanceMethod y).before a0 Z = true) (w3 : (Cond.initialized y.cls).before a0 Z = true) (w4 : (Cond.code y b' ml' none).before a0 Z = true) (hy : y.cls ≠ "java/lang/invoke/MethodHandle" ∧ y.cls ≠ "java/lang/invoke/VarHandle") (hpd : parseMethodDescriptor y.desc = some ⟨ps, r⟩) (hlen : argsL.length = ps.length) (hL : L.size = maxL) (hW : (rest.map fun v => v.category).sum ≤ W) (hf : rm.frames + 1 ≤ R.frames) (hl : W + (ml' + 11) + rm.locals ≤ R.locals) (hc : kc + rm.cells ≤ R.cells) (hsl : ks + rm.slots ≤ R.slots) (hr : ∀ v h', Qc v h' → G h' (kc + rm.cells) (ks + rm.slots) (mkF m pc' L (v.toList ++ rest))) : G h kc ks (mkF m pc L (argsL.reverse ++ .ref a :: rest)) := by
  obtain ⟨p, e, s, args, below, meth, c, rfl, hx, hby, hml, hown, hZ, hret, hlk, hnm⟩ := K
  subst hp
  intro T locs X eT N
  obtain ⟨v, _, ⟨T', Lo, ko, no⟩, -, X', ⟨Lc, hQ, l', y', z'⟩, st⟩ := X.specialBack hx (y := y) hi hown (mvT hZ w1) (mvT hZ w2) (mvT hZ w4) hy (backOf (Q := fun v h L => Qc v h ∧ Fr n0 L) (W := W) (M []) hZ w4 w3 hf hl) (g := mkF m pc L (argsL.reverse ++ .ref a :: rest)) rfl (by rw [hml]; exact hL) (Steps.refl _) (a := a) (argsL := argsL) (rest := rest) (lenOf hpd hlen) rfl (by show 2 * 0 + _ ≤ _; omega) (hb hby hd) (fun _ _ => ⟨rfl, eT, hc, hsl⟩)
  dsimp only [Pt.U, Pt.locs, Pt.cells, Pt.slots] at X' l' y' z' st hQ
  subst l' y' z'
  obtain ⟨s₂, o, h1, h2⟩ := hr v T'.heap hQ.1 T' _ X' rfl (Fr.app N hQ.2)
  exact ⟨s₂, o, st.trans h1, h2⟩
theorem Cx.callv (K : Cx l R Z n0 Q own nm bytes maxL ret m G) {y z : MethodName} {b' : ByteArray} {ml' : Nat} {rt' r : Option FieldType} {rm : Room} {Qc : Option Value → Heap → Prop} {index : Nat} {argsL rest : List Value} {W : Nat} {ps : List FieldType} {C : String} {a : Addr} (hd : decode bytes pc = .ok (.invokevirtual index, 3)) (hp : pc + 3 = pc') (M : MeetsW l Z n0 z b' ml' rt' rm (Value.ref a :: argsL).toArray h Qc) (E : Exa Z h a C) (w1 : (Cond.methodLink own index y).before a0 Z = true) (w5 : (Cond.declares y).before a0 Z = true) (nf : ∀ s : State, Z.Warmed39 s.vm → NotFace s y) (w6 : (Cond.selects C y z).before a0 Z = true) (w2 : (Cond.instanceMethod z).before a0 Z = true) (w3 : (Cond.initialized z.cls).before a0 Z = true) (w4 : (Cond.code z b' ml' rt').before a0 Z = true) (hy : y.cls ≠ "java/lang/invoke/MethodHandle" ∧ y.cls ≠ "java/lang/invoke/VarHandle") (hpd : parseMethodDescriptor y.desc = some ⟨ps, r⟩) (hlen : argsL.length = ps.length) (hL : L.size = maxL) (hW : (rest.map fun v => v.category).sum ≤ W) (hf : rm.frames + 1 ≤ R.frames) (hl : W + (ml' + 11) + rm.locals ≤ R.locals) (hc : kc + rm.cells ≤ R.cells) (hsl : ks + rm.slots ≤ R.slots) (hr : ∀ v h', Qc v h' → G h' (kc + rm.cells) (ks + rm.slots) (mkF m pc' L (v.toList ++ rest))) : G h kc ks (mkF m pc L (argsL.reverse ++ .ref a :: rest)) := by
  obtain ⟨p, e, s, args, below, meth, c, rfl, hx, hby, hml, hown, hZ, hret, hlk, hnm⟩ := K
  subst hp
  intro T locs X eT N
  obtain ⟨cq, kq, qa, qb, qc⟩ := isOf hZ eT E
  obtain ⟨v, _, ⟨T', Lo, ko, no⟩, -, X', ⟨Lc, hQ, l', y', z'⟩, st⟩ := X.virtualBack hx (y := y) (z := z) hown (mvT hZ w1) (mvT hZ w5) (nf s hZ) (mvT hZ w6) (mvT hZ w2) hy (backOf (Q := fun v h L => Qc v h ∧ Fr n0 L) (W := W) (M []) hZ w4 w3 hf hl) qa qc (g := mkF m pc L (argsL.reverse ++ .ref a :: rest)) rfl (by rw [hml]; exact hL) (Steps.refl _) (argsL := argsL) (rest := rest) (lenOf hpd hlen) rfl (by show 2 * 0 + _ ≤ _; omega) (hb hby hd) (fun _ _ => ⟨rfl, eT, hc, hsl⟩)
  dsimp only [Pt.U, Pt.locs, Pt.cells, Pt.slots] at X' l' y' z' st hQ
  subst l' y' z'
  obtain ⟨s₂, o, h1, h2⟩ := hr v T'.heap hQ.1 T' _ X' rfl (Fr.app N hQ.2)
  exact ⟨s₂, o, st.trans h1, h2⟩
theorem nf_sel {y z : MethodName} {C : String} (w : (Cond.selects C y z).before a0 Z = true) (hyz : y = z) : ∀ s : State, Z.Warmed39 s.vm → NotFace s y := fun s hZ => by subst hyz; exact notFace_of_selects (args := #[]) (mvT hZ w)
theorem Cx.callp (K : Cx l R Z n0 Q own nm bytes maxL ret m G) {y : MethodName} {b' : ByteArray} {ml' : Nat} {rt' r : Option FieldType} {rm : Room} {Qc : Option Value → Heap → Prop} {index : Nat} {argsL rest : List Value} {W : Nat} {ps : List FieldType} {C : String} {a : Addr} (hd : decode bytes pc = .ok (.invokevirtual index, 3)) (hp : pc + 3 = pc') (M : MeetsW l Z n0 y b' ml' rt' rm (Value.ref a :: argsL).toArray h Qc) (E : Exa Z h a C) (w1 : (Cond.methodLink own index y).before a0 Z = true) (w2 : (Cond.instanceMethod y).before a0 Z = true) {kk : Nat} (wi : (Cond.instantiable y.cls kk).before a0 Z = true) (w7 : (Cond.privateMethod y).before a0 Z = true) (w3 : (Cond.initialized y.cls).before a0 Z = true) (w4 : (Cond.code y b' ml' rt').before a0 Z = true) (hy : y.cls ≠ "java/lang/invoke/MethodHandle" ∧ y.cls ≠ "java/lang/invoke/VarHandle") (hpd : parseMethodDescriptor y.desc = some ⟨ps, r⟩) (hlen : argsL.length = ps.length) (hL : L.size = maxL) (hW : (rest.map fun v => v.category).sum ≤ W) (hf : rm.frames + 1 ≤ R.frames) (hl : W + (ml' + 11) + rm.locals ≤ R.locals) (hc : kc + rm.cells ≤ R.cells) (hsl : ks + rm.slots ≤ R.slots) (hr : ∀ v h', Qc v h' → G h' (kc + rm.cells) (ks + rm.slots) (mkF m pc' L (v.toList ++ rest))) : G h kc ks (mkF m pc L (argsL.reverse ++ .ref a :: rest)) := by
  obtain ⟨p, e, s, args, below, meth, c, rfl, hx, hby, hml, hown, hZ, hret, hlk, hnm⟩ := K
  subst hp
  intro T locs X eT N
  obtain ⟨cq, q1, q2⟩ := E.cell
  have hpriv : s.PrivateAt y := Cond.privateMethod_at (mvP hZ w7 (args := #[]))
  obtain ⟨c0, k0, i1, i2, i3, i4, -⟩ := Cond.instantiable_spec (show (Cond.instantiable y.cls kk).before args s = true from mvT hZ wi)
  have w6 : (Cond.selects y.cls y y).before args s = true := selects_self_of_private i1 i2 (by simp only [Bool.or_eq_false_iff] at i4; exact i4.1) hpriv (mvT hZ w2) hy
  obtain ⟨v, _, ⟨T', Lo, ko, no⟩, -, X', ⟨Lc, hQ, l', y', z'⟩, st⟩ := X.privateBack hx (y := y) hown (mvT hZ w1) (mvT hZ w2) w6 hpriv (mvT hZ w4) hy (backOf (Q := fun v h L => Qc v h ∧ Fr n0 L) (W := W) (M []) hZ w4 w3 hf hl) (g := mkF m pc L (argsL.reverse ++ .ref a :: rest)) rfl (by rw [hml]; exact hL) (Steps.refl _) (a := a) (by rw [eT]; exact q1) q2 (argsL := argsL) (rest := rest) (lenOf hpd hlen) rfl (by show 2 * 0 + _ ≤ _; omega) (hb hby hd) (fun _ _ => ⟨rfl, eT, hc, hsl⟩)
  dsimp only [Pt.U, Pt.locs, Pt.cells, Pt.slots] at X' l' y' z' st hQ
  subst l' y' z'
  obtain ⟨s₂, o, h1, h2⟩ := hr v T'.heap hQ.1 T' _ X' rfl (Fr.app N hQ.2)
  exact ⟨s₂, o, st.trans h1, h2⟩
theorem Cx.acopy (K : Cx l R Z n0 Q own nm bytes maxL ret m G) {index W i j k : Nat} {a b : Addr} {ty : FieldType} {vs vd : List Value} {sp dp nn : Int32} (dv : Value) (hd : decode bytes pc = .ok (.invokestatic index, 3)) (hp : pc + 3 = pc') (w1 : (Cond.methodLink own index Jvm.Stand.acN).before a0 Z = true) (w2 : (Cond.native Jvm.Stand.acN).before a0 Z = true) (w3 : (Cond.static Jvm.Stand.acN).before a0 Z = true) (w4 : (Cond.initialized "java/lang/System").before a0 Z = true)
    (A : Ary Z h a ty vs) (B : Ary Z h b ty vd) (hpr : refKind ty = false) (hfa : ∀ v ∈ vs, fits ty v = true) (hfb : ∀ v ∈ vd, fits ty v = true) (hdv : fits ty dv = true) (hi : sp.toInt = (i : Nat)) (hj : dp.toInt = (j : Nat)) (hk : nn.toInt = (k : Nat)) (h4 : i + k ≤ vs.length) (h5 : j + k ≤ vd.length) (gb : n0 ≤ b)
    (hL : L.size = maxL) (hf : 1 ≤ R.frames) (hW : (S.map fun v => v.category).sum ≤ W) (hlo : W + (nativeFrameWords "java/lang/System" "arraycopy" 5 + 11) ≤ R.locals)
    (hr : ∀ h', Keep h h' [b] → Ary Z h' b ty (vd.take j ++ ((List.range k).map fun t => vs.getD (i + t) dv) ++ vd.drop (j + k)) → G h' kc ks (mkF m pc' L S)) : G h kc ks (mkF m pc L (.int nn :: .int dp :: .ref b :: .int sp :: .ref a :: S)) := by
  obtain ⟨p, e, s, args, below, meth, c, rfl, hx, hby, hml, hown, hZ, hret, hlk, hnm⟩ := K
  subst hp
  intro T locs X eT N
  obtain ⟨ka, za, ea, VA⟩ := A.toArv hfa hdv
  obtain ⟨kb, zb, eb, VB⟩ := B.toArv hfb hdv
  have neg : ∀ {x : Int32} {n : Nat}, x.toInt = (n : Nat) → ¬ x < 0 := fun {x n} q => by rw [Int32.lt_iff_toInt_lt, q, show (0 : Int32).toInt = 0 from rfl]; omega
  obtain ⟨T', h', Lc, X', e', N', Kp, V, st⟩ := RoadKit.cpA X hx hZ hown w1 w2 w3 w4 eT VA VB (Or.inl ⟨rfl, hpr⟩) (neg hi) (neg hj) (neg hk) (by rw [clamp_of hi, clamp_of hk, clamp_of ea]; exact h4) (by rw [clamp_of hj, clamp_of hk, clamp_of eb]; exact h5) rfl (by rw [clamp_of hj, clamp_of hk]; exact h5) N gb (g := mkF m pc L (.int nn :: .int dp :: .ref b :: .int sp :: .ref a :: S)) rfl (by rw [hml]; exact hL) rfl (hb hby hd) hf (W := W) (by show 2 * 0 + _ ≤ _; omega) hlo
  rw [clamp_of hi, clamp_of hj, clamp_of hk] at V
  obtain ⟨s₂, o, h1, h2⟩ := hr h' Kp (Arv.toAry V (by rw [eb]; simp; omega)) T' _ X' e' N'
  exact ⟨s₂, o, st _ h1, h2⟩
theorem Cx.clone (K : Cx l R Z n0 Q own nm bytes maxL ret m G) {index W cap : Nat} {a : Addr} {ad : String} {ty : FieldType} {vs : List Value} (dv : Value) (hd : decode bytes pc = .ok (.invokevirtual index, 3)) (hp : pc + 3 = pc')
    (w1 : (Cond.methodLink own index ⟨ad, "clone", "()Ljava/lang/Object;"⟩).before a0 Z = true) (w2 : (Cond.sameMethod ad "java/lang/Object" "clone" "()Ljava/lang/Object;").before a0 Z = true) (w3 : (Cond.native ⟨"java/lang/Object", "clone", "()Ljava/lang/Object;"⟩).before a0 Z = true)
    (w4 : (Cond.instanceMethod ⟨"java/lang/Object", "clone", "()Ljava/lang/Object;"⟩).before a0 Z = true) (w5 : (Cond.selects ad ⟨ad, "clone", "()Ljava/lang/Object;"⟩ ⟨"java/lang/Object", "clone", "()Ljava/lang/Object;"⟩).before a0 Z = true) (w6 : (Cond.castable ad "java/lang/Cloneable").before a0 Z = true)
    (A : Ary Z h a ty vs) (E : Exa Z h a ad) (hfv : ∀ v ∈ vs, fits ty v = true) (hdv : fits ty dv = true) (hL : L.size = maxL) (hf : 1 ≤ R.frames) (hW : (S.map fun v => v.category).sum ≤ W) (hl : W + 14 ≤ R.locals) (hcap : vs.length ≤ cap) (hc : kc + 1 ≤ R.cells) (hsl : ks + cap ≤ R.slots)
    (hr : ∀ h' b, b = h.size → Ext h h' → Ary Z h' b ty vs → Exa Z h' b ad → G h' (kc + 1) (ks + cap) (mkF m pc' L (.ref b :: S))) : G h kc ks (mkF m pc L (.ref a :: S)) := by
  obtain ⟨p, e, s, args, below, meth, c, rfl, hx, hby, hml, hown, hZ, hret, hlk, hnm⟩ := K
  subst hp
  intro T locs X eT N
  obtain ⟨ka, za, ea, VA⟩ := A.toArv hfv hdv
  obtain ⟨T', h', X', e', Ex', V, EX, st⟩ := RoadKit.cloneH X hx hZ hown w1 w2 w3 w4 w5 w6 eT VA.arh E (g := mkF m pc L (.ref a :: S)) rfl (by rw [hml]; exact hL) rfl (hb hby hd) hf (W := W) (cap := cap) (by show 2 * 0 + _ ≤ _; omega) hl (by rw [clamp_of ea]; exact hcap) hc hsl
  obtain ⟨s₂, o, h1, h2⟩ := hr h' _ rfl Ex' (Arv.toAry (show Arv Z h' h.size ka ty za vs dv from V) ea) EX T' _ X' e' N
  exact ⟨s₂, o, st _ h1, h2⟩
theorem Cx.ccast (K : Cx l R Z n0 Q own nm bytes maxL ret m G) {index : Nat} {Kc : String} {a : Addr} (hd : decode bytes pc = .ok (.checkcast index, 3)) (hp : pc + 3 = pc') (w : (Cond.classLink own index Kc).before a0 Z = true) (F : Ins Z h a Kc true) (hr : G h kc ks (mkF m pc' L (.ref a :: S))) : G h kc ks (mkF m pc L (.ref a :: S)) := by
  subst hp
  exact K.stepX (h' := h) (fun p e s args below meth c T locs X eT hx hb0 hown hZ => RoadKit.castY X hx hZ hown w eT F (g := mkF m pc L (.ref a :: S)) rfl rfl (hb hb0 hd)) hr
theorem Cx.reti (K : Cx l R Z n0 Q own nm bytes maxL (some .int) m G) {z : Int32} (hd : decode bytes pc = .ok (.ireturn, 1)) (hc : kc ≤ R.cells) (hs : ks ≤ R.slots) (hQ : Q (some (.int z)) h) : G h kc ks (mkF m pc L (.int z :: S)) := by
  obtain ⟨p, e, s, args, below, meth, c, rfl, hx, hby, hml, hown, hZ, hret, hlk, hnm⟩ := K
  intro T locs X eT N
  obtain ⟨fs, hr, hrun, hended, hW, hsame⟩ := X.leave (v := some (.int z)) (fun h => by rw [hret] at h; cases h) hlk
  refine ⟨_, _, ?_, hrun, hended, _, _, rfl, ⟨?_, N⟩, ⟨_, rfl⟩, hW, hsame.mono hc hs⟩
  · exact retOut X hx hret rfl (Or.inl ⟨rfl, Or.inl rfl, _, rfl⟩) (hb hby hd) hr
  · show Q _ T.heap
    rw [eT]; exact hQ
theorem Cx.retz (K : Cx l R Z n0 Q own nm bytes maxL (some .boolean) m G) {z : Int32} (hd : decode bytes pc = .ok (.ireturn, 1)) (hz : z = 0 ∨ z = 1) (hc : kc ≤ R.cells) (hs : ks ≤ R.slots) (hQ : Q (some (.int z)) h) : G h kc ks (mkF m pc L (.int z :: S)) := by
  obtain ⟨p, e, s, args, below, meth, c, rfl, hx, hby, hml, hown, hZ, hret, hlk, hnm⟩ := K
  intro T locs X eT N
  obtain ⟨fs, hr, hrun, hended, hW, hsame⟩ := X.leave (v := some (.int z)) (fun h => by rw [hret] at h; cases h) hlk
  refine ⟨_, _, ?_, hrun, hended, _, _, rfl, ⟨?_, N⟩, ⟨_, rfl⟩, hW, hsame.mono hc hs⟩
  · exact retOut X hx hret (by rcases hz with rfl | rfl <;> rfl) (Or.inl ⟨rfl, Or.inr (Or.inl rfl), _, rfl⟩) (hb hby hd) hr
  · show Q _ T.heap
    rw [eT]; exact hQ
theorem Cx.retl (K : Cx l R Z n0 Q own nm bytes maxL (some .long) m G) {z : Int64} (hd : decode bytes pc = .ok (.lreturn, 1)) (hc : kc ≤ R.cells) (hs : ks ≤ R.slots) (hQ : Q (some (.long z)) h) : G h kc ks (mkF m pc L (.long z :: S)) := by
  obtain ⟨p, e, s, args, below, meth, c, rfl, hx, hby, hml, hown, hZ, hret, hlk, hnm⟩ := K
  intro T locs X eT N
  obtain ⟨fs, hr, hrun, hended, hW, hsame⟩ := X.leave (v := some (.long z)) (fun h => by rw [hret] at h; cases h) hlk
  refine ⟨_, _, ?_, hrun, hended, _, _, rfl, ⟨?_, N⟩, ⟨_, rfl⟩, hW, hsame.mono hc hs⟩
  · exact retOut X hx hret rfl (Or.inr (Or.inl ⟨rfl, rfl, _, rfl⟩)) (hb hby hd) hr
  · show Q _ T.heap
    rw [eT]; exact hQ
theorem Cx.reta {t : FieldType} (K : Cx l R Z n0 Q own nm bytes maxL (some t) m G) {v : Value} (hd : decode bytes pc = .ok (.areturn, 1)) (ht : t.isReference = true) (hn : narrow t v = v) (hv : v.isRef = true) (hc : kc ≤ R.cells) (hs : ks ≤ R.slots) (hQ : Q (some v) h) : G h kc ks (mkF m pc L (v :: S)) := by
  obtain ⟨p, e, s, args, below, meth, c, rfl, hx, hby, hml, hown, hZ, hret, hlk, hnm⟩ := K
  intro T locs X eT N
  obtain ⟨fs, hr, hrun, hended, hW, hsame⟩ := X.leave (v := some v) (fun h => by rw [hret] at h; cases h) hlk
  refine ⟨_, _, ?_, hrun, hended, _, _, rfl, ⟨?_, N⟩, ⟨_, rfl⟩, hW, hsame.mono hc hs⟩
  · exact retOut X hx hret hn (Or.inr (Or.inr (Or.inr (Or.inr ⟨rfl, ht, hv⟩)))) (hb hby hd) hr
  · show Q _ T.heap
    rw [eT]; exact hQ
theorem Cx.retd (K : Cx l R Z n0 Q own nm bytes maxL (some .double) m G) {z : UInt64} (hd : decode bytes pc = .ok (.dreturn, 1)) (hc : kc ≤ R.cells) (hs : ks ≤ R.slots) (hQ : Q (some (.double z)) h) : G h kc ks (mkF m pc L (.double z :: S)) := by
  obtain ⟨p, e, s, args, below, meth, c, rfl, hx, hby, hml, hown, hZ, hret, hlk, hnm⟩ := K
  intro T locs X eT N
  obtain ⟨fs, hr, hrun, hended, hW, hsame⟩ := X.leave (v := some (.double z)) (fun h => by rw [hret] at h; cases h) hlk
  refine ⟨_, _, ?_, hrun, hended, _, _, rfl, ⟨?_, N⟩, ⟨_, rfl⟩, hW, hsame.mono hc hs⟩
  · exact retOut X hx hret rfl (Or.inr (Or.inr (Or.inl ⟨rfl, rfl, _, rfl⟩))) (hb hby hd) hr
  · show Q _ T.heap
    rw [eT]; exact hQ
theorem Cx.ret0 (K : Cx l R Z n0 Q own nm bytes maxL none m G) (hd : decode bytes pc = .ok (.return_, 1)) (hc : kc ≤ R.cells) (hs : ks ≤ R.slots) (hQ : Q none h) : G h kc ks (mkF m pc L []) := by
  obtain ⟨p, e, s, args, below, meth, c, rfl, hx, hby, hml, hown, hZ, hret, hlk, hnm⟩ := K
  intro T locs X eT N
  obtain ⟨fs, hr, hrun, hended, hW, hsame⟩ := X.leave (v := none) (fun h => rfl) hlk
  refine ⟨_, _, ?_, hrun, hended, _, _, rfl, ⟨?_, N⟩, ⟨_, rfl⟩, hW, hsame.mono hc hs⟩
  · exact X.returnOut hx hret (hb hby hd) hr
  · show Q _ T.heap
    rw [eT]; exact hQ
end Steps
end Jvm.Wk
namespace Jvm.Wk
open ClassFile Sem Op Lib Jvm.Stand Jvm.Free Jvm.LawKit Jvm.RoadKit
theorem initWarm {tb : Tables} [Ours tb] {e : Env} {below : List Frame} {s U : State} {mm : MethodId} {cc : Code} (h : At U mm cc below) (hexec : tb.exec = Jvm.exec) (hW : s.WarmedH U.vm) {own : String} (hown : s.vm.findClass own = some mm.cls) {idx : Nat} {t : MethodName} (ht1 : t.name = "<init>")
    (hnot : t.cls ≠ "java/lang/invoke/MethodHandle" ∧ t.cls ≠ "java/lang/invoke/VarHandle") {args : Array Value} {bytes : ByteArray} {maxL : Nat} (href : (Cond.methodRef own idx t).before args s = true) (hinst : (Cond.instanceMethod t).before args s = true) (hcode : (Cond.code t bytes maxL none).before args s = true)
    {f : JFrame} (hf : f.method = mm) {a : Addr} {argsL rest : List Value} (hlen : ∀ sig, parseMethodDescriptor t.desc = some sig → argsL.length = sig.parameters.length) (hstack : f.stack = argsL.reverse ++ .ref a :: rest) (hd : decode cc.code f.pc = .ok (.invokespecial idx, 3)) :
    ∃ tm, s.methodNamed? t = some tm ∧ ∀ target, (∀ acts, Steps tb e below (doInvoke e (U.setTop { f with stack := rest }) acts tm (.ref a :: argsL).toArray).1 target) → Steps tb e below (U.setTop f) target := by
  subst hf
  obtain ⟨obj, methO, hnO, hmO, hstO, habO⟩ := Cond.instanceMethod_spec hinst
  obtain ⟨methO', cO, hmO', -, -, -, -, -, -, hsigO⟩ := Cond.code_spec hnO hcode
  cases hmO.symm.trans hmO'
  obtain ⟨kO, hkO, -⟩ := className_of_methodNamed hnO
  obtain ⟨hnameMO, hdescO⟩ := name_of_methodNamed hnO hmO
  have hrefU := Cond.methodRef_warmed hW hnO hnot href
  have hownU : (s.setVm U.vm).vm.findClass own = some f.method.cls := by rw [State.vm_setVm, hW.alike.findClass]; exact hown
  have hnU : (s.setVm U.vm).methodNamed? t = some obj := by rw [State.methodNamed?_setVm hW.alike]; exact hnO
  obtain ⟨m', c', hm', hready, hfc, hnr⟩ := Cond.methodRef_named e hownU hrefU
  cases (State.methodFound?_of_named hnU hnot).symm.trans hm'
  cases (findClass_of_methodNamed hnU).symm.trans hfc
  obtain ⟨kO₂, hkO₂, -⟩ := hW.alike.2.2 _ _ hkO
  have hmO₂ : U.vm.method? obj = some methO := by rw [hW.alike.method?]; exact hmO
  have hfound : lookupSpecial U.vm obj.cls "<init>" methO.desc = .method obj := by
    rw [hW.alike.lookupSpecial, hdescO, ← ht1]; exact lookupSpecial_of_named hnO hmO hstO
  refine ⟨obj, hnO, fun target hrest => ?_⟩
  jvm_step h [hexec, hd, invokespecial.wp_init (e := e) (s := U) (k := kO₂) (meth := methO) (m := obj) (a := a) (args := argsL) (rest := rest) (f := f) h.top hnr hready hkO₂ hmO₂ (by rw [hnameMO]; exact ht1) hstO habO hfound (hlen _ hsigO) hstack]
  exact hrest
section
variable {p : Program} {l : Launch} {e : Env} {R : Room} {s : State} {m : MethodId} {args : Array Value} {below : List Frame} {meth : Method} {c : Code} {T : State} {locs : List Loc} {cells slots : Nat}
theorem specialWarm (X : Stand p l e R s m args below meth c T locs cells slots) (hexec : p.tables.exec = Jvm.exec) {own : String} {index : Nat} {y : MethodName} (hy1 : y.name = "<init>")
    (hown : s.vm.findClass own = some m.cls) (href : (Cond.methodRef own index y).before args s = true) (hinst : (Cond.instanceMethod y).before args s = true) {bytes : ByteArray} {maxL : Nat} (hcode : (Cond.code y bytes maxL none).before args s = true)
    (hy : y.cls ≠ "java/lang/invoke/MethodHandle" ∧ y.cls ≠ "java/lang/invoke/VarHandle") {W : Nat} {Pre : Pt → Array Value → Prop} {Post : Pt → Array Value → Option Value → Pt → Prop} (hK : Back l R p e below s args y 3 W Pre Post)
    {g : JFrame} (hg : g.method = m) (hsize : g.locals.size = c.maxLocals) {a : Addr} {argsL rest : List Value} (hlen : ∀ sig, parseMethodDescriptor y.desc = some sig → argsL.length = sig.parameters.length) (hstack : g.stack = argsL.reverse ++ .ref a :: rest) (hW : 2 * g.monitorRoom + (rest.map fun v => v.category).sum ≤ W)
    (hdg : decode c.code g.pc = .ok (.invokespecial index, 3)) (hpre : Pre ⟨T, locs, cells, slots⟩ (.ref a :: argsL).toArray) :
    ∃ (v : Option Value) (B : Pt), Stand p l e R s m args below meth c B.U B.locs B.cells B.slots ∧ Post ⟨T, locs, cells, slots⟩ (.ref a :: argsL).toArray v B ∧ Steps p.tables e below (T.setTop g) (B.U.setTop { g with pc := g.pc + 3, stack := v.toList ++ rest }) := by
  obtain ⟨mk, hnamed, hstep⟩ := initWarm (e := e) X.here hexec X.warmed hown hy1 hy href hinst hcode (f := g) hg hlen hstack hdg
  obtain ⟨v, B, X', hpost, hsteps⟩ := hK m meth c ⟨T, locs, cells, slots⟩ { g with stack := rest } (.invokespecial index) mk (.ref a :: argsL).toArray X hg hsize hdg hW (X.named hnamed) hpre
  exact ⟨v, B, X', hpost, (hstep _ fun acts => by rw [doInvoke_state]; exact Steps.refl _).trans hsteps⟩
end
section
variable {p : Program} {l : Launch} {e : Env} {R : Room} {s : State} {m : MethodId} {args : Array Value} {below : List Frame} {meth : Method} {c : Code} {T : State} {locs : List Loc} {cells slots : Nat} {Z : State} {h : Heap} {a0 : Array Value}
theorem mvMR (hZ : Z.Warmed39 s.vm) {own : String} {index : Nat} {y : MethodName} {mk : MethodId} (hn : Z.methodNamed? y = some mk) (hy : y.cls ≠ "java/lang/invoke/MethodHandle" ∧ y.cls ≠ "java/lang/invoke/VarHandle") (w : (Cond.methodRef own index y).before a0 Z = true) : (Cond.methodRef own index y).before args s = true :=
  Cond.methodRef_warmed39 hZ hn hy w
theorem putFR (X : Stand p l e R s m args below meth c T locs cells slots) (hx : p.tables.exec = Jvm.exec) (hZ : Z.Warmed39 s.vm) {own O n d C : String} {index kk : Nat} {ty : FieldType} (hown : s.vm.findClass own = some m.cls) (w : (Cond.fieldRef own index O n d).before a0 Z = true)
    (eT : T.heap = h) {a : Addr} {v old : Value} (F : Fld Z h a O n d old) (E : Exa Z h a C) (L : (Cond.lays C O n d).before a0 Z = true) (wi : (Cond.instantiable C kk).before a0 Z = true)
    (hty : parseFieldDescriptor d = some ty) (hn : narrow ty v = v) (hf : fits ty v = true) {g : JFrame} (hg : g.method = m) {rest : List Value} (hs : g.stack = v :: .ref a :: rest) (hd : decode c.code g.pc = .ok (.putfield index, 3)) :
    ∃ T' h', Stand p l e R s m args below meth c T' (locs ++ [⟨a, Jvm.RoadKit.slotOf Z O n d⟩]) cells slots ∧ T'.heap = h' ∧ Wr h h' a (Jvm.RoadKit.slotOf Z O n d) v ∧ ∀ target, Steps p.tables e below (T'.setTop { g with pc := g.pc + 3, stack := rest }) target → Steps p.tables e below (T.setTop g) target := by
  obtain ⟨cell, cf, k, i, f, h1, h2, h3, h4, h5, -, h7⟩ := F
  obtain ⟨cell', kc, e1, e2, e3, -⟩ := E
  cases h1.symm.trans e1
  obtain ⟨c1, k1, cf1, kf1, i1, f1, a1, a2, a3, -, -, a6, -⟩ := Laid.spec (Or.inl L)
  cases h2.symm.trans a3
  obtain ⟨_, _, _, _, _, _, -, -, b3, -, b5, -⟩ := Cond.lays_spec L
  cases h2.symm.trans b3
  cases e2.symm.trans a1
  obtain ⟨c2, k2, i1, i2, i3, -⟩ := Cond.instantiable_spec wi
  cases e2.symm.trans i1
  cases a2.symm.trans i2
  have ht := (State.fieldFound?_type h2 hty).2
  have hal : Z.vm.Alike T.vm := hZ.alike.trans X.warmed.alike
  have hfit : Z.fitsSlot cell.cls cell.vm f.slot v = true := by
    have q : Z.slotType? cell.cls cell.vm f.slot = some ty := by
      simp only [State.slotType?, a2, Option.bind_eq_bind, Option.bind_some, i3]
      cases hq : cell.vm <;> first | (rw [hq] at h5; exact Bool.noConfusion h5) | (rw [a6, ht])
    simp [State.fitsSlot, q, hf]
  have hfit' : T.fitsSlot cell.cls cell.vm f.slot v = true := by rw [← State.fitsSlot_setVm hal] at hfit; exact hfit
  have ws : (Cond.fieldRef own index O n d).before args s = true := Cond.fieldRef_warmed39 hZ w
  have wT : (Cond.fieldRef own index O n d).before args (s.setVm T.vm) = true := Cond.fieldRef_warmed X.warmed ws
  obtain ⟨c3, k3, i3', f3, q1, q2⟩ := Cond.fieldRef_spec (s := s.setVm T.vm) (by rw [State.vm_setVm, X.warmed.alike.findClass]; exact hown) wT
  obtain ⟨k', hi, -⟩ := State.fieldFound?_setVm (s := Z) hal h2
  have hi2 : (s.setVm T.vm).fieldFound? O n d = some (cf, k', i, f) := hi
  cases q1.symm.trans hi2
  have hlt : f.slot < cell.slots.size := by
    rcases Nat.lt_or_ge f.slot cell.slots.size with q | q
    · exact q
    · rw [Array.getElem?_eq_none q] at h7; cases h7
  obtain ⟨X', st⟩ := X.putfieldReady hx (f := f) q2 h3 (Or.inl b5) (cell := cell) (v := v) (by rw [eT]; exact h1) h4 hlt (by rw [ht]; exact hn) hfit' hg hs hd
  have hsl : Jvm.RoadKit.slotOf Z O n d = f.slot := by simp [Jvm.RoadKit.slotOf, h2]
  rw [hsl]
  exact ⟨_, _, X', rfl, ⟨cell, h1, h5, hlt, by rw [← eT]; rfl⟩, st⟩
end
end Jvm.Wk
namespace Jvm.Wk
open Sem ClassFile Op Lib Jvm.Stand Jvm.Free Jvm.LawKit Jvm.RoadKit
section
variable {l : Launch} {R : Room} {Z : State} {n0 : Nat} {Q : Option Value → Heap → Prop} {own nm : String} {bytes : ByteArray} {maxL : Nat} {ret : Option FieldType} {m : MethodId} {G : Heap → Nat → Nat → JFrame → Prop} {h : Heap} {kc ks pc pc' pc1 pc2 : Nat} {L L' : Array Slot} {S : List Value} {a0 : Array Value}
theorem Cx.callcW (K : Cx l R Z n0 Q own nm bytes maxL ret m G) {y : MethodName} {b' : ByteArray} {ml' : Nat} {r : Option FieldType} {rm : Room} {Qc : Option Value → Heap → Prop} {index : Nat} {argsL rest : List Value} {W : Nat} {ps : List FieldType} {a : Addr} (hd : decode bytes pc = .ok (.invokespecial index, 3)) (hp : pc + 3 = pc') (hi : y.name = "<init>") (M : MeetsW l Z n0 y b' ml' none rm (Value.ref a :: argsL).toArray h Qc) (w1 : (Cond.methodRef own index y).before a0 Z = true) (w2 : (Cond.instanceMethod y).before a0 Z = true) (w3 : (Cond.initialized y.cls).before a0 Z = true) (w4 : (Cond.code y b' ml' none).before a0 Z = true) (hy : y.cls ≠ "java/lang/invoke/MethodHandle" ∧ y.cls ≠ "java/lang/invoke/VarHandle") (hpd : parseMethodDescriptor y.desc = some ⟨ps, r⟩) (hlen : argsL.length = ps.length) (hL : L.size = maxL) (hW : (rest.map fun v => v.category).sum ≤ W) (hf : rm.frames + 1 ≤ R.frames) (hl : W + (ml' + 11) + rm.locals ≤ R.locals) (hc : kc + rm.cells ≤ R.cells) (hsl : ks + rm.slots ≤ R.slots) (hr : ∀ v h', Qc v h' → G h' (kc + rm.cells) (ks + rm.slots) (mkF m pc' L (v.toList ++ rest))) : G h kc ks (mkF m pc L (argsL.reverse ++ .ref a :: rest)) := by
  obtain ⟨p, e, s, args, below, meth, c, rfl, hx, hby, hml, hown, hZ, hret, hlk, hnm⟩ := K
  subst hp
  intro T locs X eT N
  obtain ⟨mk, _, hnk, -⟩ := Cond.instanceMethod_spec w2
  obtain ⟨v, ⟨T', Lo, ko, no⟩, X', ⟨Lc, hQ, l', y', z'⟩, st⟩ := specialWarm X hx (y := y) hi hown (mvMR hZ hnk hy w1) (mvT hZ w2) (mvT hZ w4) hy (backOf (Q := fun v h L => Qc v h ∧ Fr n0 L) (W := W) (M []) hZ w4 w3 hf hl) (g := mkF m pc L (argsL.reverse ++ .ref a :: rest)) rfl (by rw [hml]; exact hL) (a := a) (argsL := argsL) (rest := rest) (lenOf hpd hlen) rfl (by show 2 * 0 + _ ≤ _; omega) (hb hby hd) ⟨rfl, eT, hc, hsl⟩
  dsimp only [Pt.U, Pt.locs, Pt.cells, Pt.slots] at X' l' y' z' st hQ
  subst l' y' z'
  obtain ⟨s₂, o, h1, h2⟩ := hr v T'.heap hQ.1 T' _ X' rfl (Fr.app N hQ.2)
  exact ⟨s₂, o, st.trans h1, h2⟩
theorem Cx.putfR (K : Cx l R Z n0 Q own nm bytes maxL ret m G) {O n d C : String} {index kk : Nat} {ty : FieldType} {a : Addr} {v old : Value} (hd : decode bytes pc = .ok (.putfield index, 3)) (hp : pc + 3 = pc') (w : (Cond.fieldRef own index O n d).before a0 Z = true) (F : Fld Z h a O n d old) (E : Exa Z h a C) (LL : (Cond.lays C O n d).before a0 Z = true) (wi : (Cond.instantiable C kk).before a0 Z = true) (hty : parseFieldDescriptor d = some ty) (hn : narrow ty v = v) (hf : fits ty v = true) (ga : n0 ≤ a) (hr : ∀ h', Wr h h' a (Jvm.RoadKit.slotOf Z O n d) v → G h' kc ks (mkF m pc' L S)) : G h kc ks (mkF m pc L (v :: .ref a :: S)) := by
  obtain ⟨p, e, s, args, below, meth, c, rfl, hx, hby, hml, hown, hZ, hret, hlk, hnm⟩ := K
  subst hp
  intro T locs X eT N
  obtain ⟨T', h', X', e', W, st⟩ := putFR X hx hZ hown w eT F E LL wi hty hn hf (g := mkF m pc L (v :: .ref a :: S)) rfl rfl (hb hby hd)
  obtain ⟨s₂, o, h1, h2⟩ := hr h' W T' _ X' e' (Fr.snoc X' N ga)
  exact ⟨s₂, o, st _ h1, h2⟩
theorem Cx.calli (K : Cx l R Z n0 Q own nm bytes maxL ret m G) {y z : MethodName} {b' : ByteArray} {ml' : Nat} {rt' r : Option FieldType} {rm : Room} {Qc : Option Value → Heap → Prop} {index : Nat} {argsL rest : List Value} {W : Nat} {ps : List FieldType} {C : String} {a : Addr} {cnt : Nat} (hd : decode bytes pc = .ok (.invokeinterface index cnt, 5)) (hp : pc + 5 = pc') (M : MeetsW l Z n0 z b' ml' rt' rm (Value.ref a :: argsL).toArray h Qc) (E : Exa Z h a C) (w1 : (Cond.methodLink own index y).before a0 Z = true) (w5 : (Cond.declares y).before a0 Z = true) (w7 : (Cond.interfaceMethod y.cls y.cls y.name y.desc).before a0 Z = true) (k7 : ((Cond.interfaceMethod y.cls y.cls y.name y.desc).onTables && (Cond.interfaceMethod y.cls y.cls y.name y.desc).keepsFace) = true) (w6 : (Cond.selects C y z).before a0 Z = true) (w2 : (Cond.instanceMethod z).before a0 Z = true) (w8 : (Cond.publicMethod z).before a0 Z = true) (w9 : (Cond.unhidden C y.name y.desc).before a0 Z = true) (w10 : (Cond.castable C y.cls).before a0 Z = true) (w3 : (Cond.initialized z.cls).before a0 Z = true) (w4 : (Cond.code z b' ml' rt').before a0 Z = true) (hy : y.cls ≠ "java/lang/invoke/MethodHandle" ∧ y.cls ≠ "java/lang/invoke/VarHandle") (hpd : parseMethodDescriptor y.desc = some ⟨ps, r⟩) (hlen : argsL.length = ps.length) (hL : L.size = maxL) (hW : (rest.map fun v => v.category).sum ≤ W) (hf : rm.frames + 1 ≤ R.frames) (hl : W + (ml' + 11) + rm.locals ≤ R.locals) (hc : kc + rm.cells ≤ R.cells) (hsl : ks + rm.slots ≤ R.slots) (hr : ∀ v h', Qc v h' → G h' (kc + rm.cells) (ks + rm.slots) (mkF m pc' L (v.toList ++ rest))) : G h kc ks (mkF m pc L (argsL.reverse ++ .ref a :: rest)) := by
  obtain ⟨p, e, s, args, below, meth, c, rfl, hx, hby, hml, hown, hZ, hret, hlk, hnm⟩ := K
  subst hp
  intro T locs X eT N
  obtain ⟨cq, kq, qa, qb, qc⟩ := isOf hZ eT E
  obtain ⟨v, _, ⟨T', Lo, ko, no⟩, -, X', ⟨Lc, hQ, l', y', z'⟩, st⟩ := X.interfaceBack hx (xi := y) (y := z) hown (mvT hZ w1) (mvT hZ w5) (mvT hZ w7 k7) (mvT hZ w6) (mvT hZ w2) (mvT hZ w8) (mvT hZ w9) (mvT hZ w10) hy (backOf (Q := fun v h L => Qc v h ∧ Fr n0 L) (W := W) (M []) hZ w4 w3 hf hl) qa qb qc (g := mkF m pc L (argsL.reverse ++ .ref a :: rest)) rfl (by rw [hml]; exact hL) (Steps.refl _) (argsL := argsL) (rest := rest) (lenOf hpd hlen) rfl (by show 2 * 0 + _ ≤ _; omega) (hb hby hd) (fun _ _ => ⟨rfl, eT, hc, hsl⟩)
  dsimp only [Pt.U, Pt.locs, Pt.cells, Pt.slots] at X' l' y' z' st hQ
  subst l' y' z'
  obtain ⟨s₂, o, h1, h2⟩ := hr v T'.heap hQ.1 T' _ X' rfl (Fr.app N hQ.2)
  exact ⟨s₂, o, st.trans h1, h2⟩
theorem Cx.aald (K : Cx l R Z n0 Q own nm bytes maxL ret m G) {a : Addr} {cl : Cell} {ty : FieldType} {j : Int32} {v : Value} (hd : decode bytes pc = .ok (.aaload, 1)) (hp : pc + 1 = pc') (A : Arr Z h a cl ty) (hty : ty.isReference = true) (hin : ¬ (j < 0 ∨ cl.slots.size ≤ j.toNatClampNeg)) (hv : cl.slots[j.toNatClampNeg]? = some v) (hr : G h kc ks (mkF m pc' L (v :: S))) : G h kc ks (mkF m pc L (.int j :: .ref a :: S)) := by
  subst hp
  exact K.stepX (h' := h) (fun p e s args below meth c T locs X eT hx hb0 hown hZ => ⟨T, X, eT, fun t hr => X.aaload hx (cell := cl) (by rw [eT]; exact A.1) (State.isArrayOf_alike hZ.alike A.2.1) hty A.2.2 hin hv (g := mkF m pc L (.int j :: .ref a :: S)) rfl rfl (hb hb0 hd) t hr⟩) hr
end
end Jvm.Wk
namespace Jvm.Pilot.@@N@@
open Jvm Jvm.ClassFile Sem Op Lib Jvm.Free Jvm.Stand Jvm.LawKit Jvm.RoadKit Jvm.Wk Bundle Jvm.Pilot.@@N@@.Jvm.D
abbrev vi (x : Int32) : Slot := .val (.int x)
abbrev vr (x : Addr) : Slot := .val (.ref x)
abbrev sC : String := "com/example/quadrille/quadrille/formats/Chain"
abbrev sL : String := "com/example/quadrille/quadrille/formats/Chain$Link"
abbrev sI : String := "com/example/quadrille/quadrille/formats/Chain$1"
abbrev dL : String := "Lcom/example/quadrille/quadrille/formats/Chain$Link;"
abbrev sN : String := "java/lang/Integer"
abbrev sW : String := "com/example/quadrille/quadrille/formats/ChainMoveAllPinLaw"
theorem bx_in {cc : Cell} {j : Int32} (h0 : 0 ≤ j.toInt) (h1 : j.toInt < 256) (hs : cc.slots.size = (256 : Int32).toNatClampNeg) : ¬ (j < 0 ∨ cc.slots.size ≤ j.toNatClampNeg) := by
  have e : (256 : Int32).toNatClampNeg = 256 := by decide
  rw [hs, e]
  intro q
  rcases q with q | q
  · rw [Int32.lt_iff_toInt_lt, show (0 : Int32).toInt = 0 from rfl] at q; omega
  · unfold Int32.toNatClampNeg at q; omega
theorem j_back {p j : Int32} (h : j.toInt = p.toInt + 128) : j - 128 = p := by
  apply eqI
  have q := c_isub j 128
  have g := rng32 (j - 128)
  have g2 := rng32 p
  have e : (128 : Int32).toInt = 128 := rfl
  rw [e] at q
  omega
theorem d2_0 : decode jdk_22_method_1_code 0 = .ok (.aload_n 0, 1) := by decide +kernel
theorem d2_1 : decode jdk_22_method_1_code 1 = .ok (.invokespecial 1, 3) := by decide +kernel
theorem d2_4 : decode jdk_22_method_1_code 4 = .ok (.return_, 1) := by decide +kernel
theorem pn_java_util_AbstractCollection : plainName "java/util/AbstractCollection" = true := by first | (simp [plainName, overriddenIn]; done) | decide +kernel
set_option maxRecDepth 65536 in
set_option maxHeartbeats 40000000 in
theorem c_abs (l : Launch) (Z : State) (a0 : Array Value) (hw : ∀ d ∈ tables_1, d.before a0 Z = true) (n0 : Nat) (h : Heap) (a : Addr)  : MeetsW l Z n0 (⟨"java/util/AbstractCollection", "<init>", "()V"⟩ : MethodName) jdk_22_method_1_code 1 none ({ frames := 1, cells := 0, slots := 0, locals := 12 } : Room) #[(.ref a)] h (fun v h' => v = none ∧ h = h') := by
  refine MeetsW.intro (plainFor_of_name pn_java_util_AbstractCollection) (L0 := #[vr a]) (fun m => by first | (simp [entryFrame, mkF, argsToLocals, Value.category]; done) | rfl) ?_
  intro m G K0
  have K : Cx l ({ frames := 1, cells := 0, slots := 0, locals := 12 } : Room) Z n0 _ "java/util/AbstractCollection" "<init>" jdk_22_method_1_code 1 none m G := K0
  have hw12 := hw _ (List.mem_of_getElem? (i := 12) rfl)
  have hw13 := hw _ (List.mem_of_getElem? (i := 13) rfl)
  have hw14 := hw _ (List.mem_of_getElem? (i := 14) rfl)
  refine K.aloadN d2_0 (pc' := 1) rfl rfl rfl ?_
  refine K.init0 d2_1 (pc' := 4) rfl hw12 hw13 hw14 rfl (by decide) (W := 0) (by simp [Value.category]) (by decide) ?_
  exact K.ret0 d2_4 (by decide) (by decide) ⟨rfl, rfl⟩
theorem d16_0 : decode jdk_18_method_1_code 0 = .ok (.aload_n 0, 1) := by decide +kernel
theorem d16_1 : decode jdk_18_method_1_code 1 = .ok (.invokespecial 1, 3) := by decide +kernel
theorem d16_4 : decode jdk_18_method_1_code 4 = .ok (.return_, 1) := by decide +kernel
theorem pn_java_lang_Number : plainName "java/lang/Number" = true := by first | (simp [plainName, overriddenIn]; done) | decide +kernel
set_option maxRecDepth 65536 in
set_option maxHeartbeats 40000000 in
theorem c_num (l : Launch) (Z : State) (a0 : Array Value) (hw : ∀ d ∈ tables_1, d.before a0 Z = true) (n0 : Nat) (h : Heap) (a : Addr)  : MeetsW l Z n0 (⟨"java/lang/Number", "<init>", "()V"⟩ : MethodName) jdk_18_method_1_code 1 none ({ frames := 1, cells := 0, slots := 0, locals := 12 } : Room) #[(.ref a)] h (fun v h' => v = none ∧ h = h') := by
  refine MeetsW.intro (plainFor_of_name pn_java_lang_Number) (L0 := #[vr a]) (fun m => by first | (simp [entryFrame, mkF, argsToLocals, Value.category]; done) | rfl) ?_
  intro m G K0
  have K : Cx l ({ frames := 1, cells := 0, slots := 0, locals := 12 } : Room) Z n0 _ "java/lang/Number" "<init>" jdk_18_method_1_code 1 none m G := K0
  have hw13 := hw _ (List.mem_of_getElem? (i := 13) rfl)
  have hw14 := hw _ (List.mem_of_getElem? (i := 14) rfl)
  have hw115 := hw _ (List.mem_of_getElem? (i := 115) rfl)
  refine K.aloadN d16_0 (pc' := 1) rfl rfl rfl ?_
  refine K.init0 d16_1 (pc' := 4) rfl hw115 hw13 hw14 rfl (by decide) (W := 0) (by simp [Value.category]) (by decide) ?_
  exact K.ret0 d16_4 (by decide) (by decide) ⟨rfl, rfl⟩
theorem d15_0 : decode jdk_33_method_23_code 0 = .ok (.aload_n 0, 1) := by decide +kernel
theorem d15_1 : decode jdk_33_method_23_code 1 = .ok (.invokespecial 202, 3) := by decide +kernel
theorem pd_0 : parseMethodDescriptor "()V" = some ⟨[], none⟩ := by decide +kernel
theorem d15_4 : decode jdk_33_method_23_code 4 = .ok (.aload_n 0, 1) := by decide +kernel
theorem d15_5 : decode jdk_33_method_23_code 5 = .ok (.iload_n 1, 1) := by decide +kernel
theorem d15_6 : decode jdk_33_method_23_code 6 = .ok (.putfield 205, 3) := by decide +kernel
theorem d15_9 : decode jdk_33_method_23_code 9 = .ok (.return_, 1) := by decide +kernel
theorem pn_java_lang_Integer : plainName sN = true := by first | (simp [plainName, overriddenIn]; done) | decide +kernel
set_option maxRecDepth 65536 in
set_option maxHeartbeats 40000000 in
theorem c_int (l : Launch) (Z : State) (a0 : Array Value) (hw : ∀ d ∈ tables_1, d.before a0 Z = true) (n0 : Nat) (h : Heap) (a : Addr) (p : Int32) (P1 : Exa Z h a sN) (P2 : Fld Z h a sN "value" "I" (.int (0 : Int32))) (P3 : n0 ≤ a) : MeetsW l Z n0 (⟨sN, "<init>", "(I)V"⟩ : MethodName) jdk_33_method_23_code 2 none ({ frames := 2, cells := 0, slots := 0, locals := 24 } : Room) #[(.ref a), (.int p)] h (fun v h' => v = none ∧ Keep h h' [a] ∧ Fld Z h' a sN "value" "I" (.int p)) := by
  refine MeetsW.intro (plainFor_of_name pn_java_lang_Integer) (L0 := #[vr a, vi p]) (fun m => by first | (simp [entryFrame, mkF, argsToLocals, Value.category]; done) | rfl) ?_
  intro m G K0
  have K : Cx l ({ frames := 2, cells := 0, slots := 0, locals := 24 } : Room) Z n0 _ sN "<init>" jdk_33_method_23_code 2 none m G := K0
  have hw100 := hw _ (List.mem_of_getElem? (i := 100) rfl)
  have hw101 := hw _ (List.mem_of_getElem? (i := 101) rfl)
  have hw105 := hw _ (List.mem_of_getElem? (i := 105) rfl)
  have hw109 := hw _ (List.mem_of_getElem? (i := 109) rfl)
  have hw110 := hw _ (List.mem_of_getElem? (i := 110) rfl)
  have hw113 := hw _ (List.mem_of_getElem? (i := 113) rfl)
  have hw114 := hw _ (List.mem_of_getElem? (i := 114) rfl)
  refine K.aloadN d15_0 (pc' := 1) rfl rfl rfl ?_
  refine K.callc (argsL := []) (rest := []) d15_1 (pc' := 4) rfl rfl (c_num l Z a0 hw n0 h (a := a) ) hw109 hw110 hw113 hw114 (by decide) pd_0 rfl rfl (W := 0) (by simp [Value.category]) (by decide) (by decide) (by decide) (by decide) (fun v_3 h_1 q_2 => ?_)
  obtain ⟨rfl, rfl⟩ := q_2
  show G h 0 0 (mkF m 4 #[vr a, vi p] [])
  refine K.aloadN d15_4 (pc' := 5) rfl rfl rfl ?_
  refine K.iloadN d15_5 (pc' := 6) rfl rfl ?_
  refine K.putf d15_6 (pc' := 9) rfl (host := "") (Or.inl hw100) Via.refl P2 P1 (Or.inr ⟨hw101, rfl, rfl⟩) hw105 (ty := .int) (by decide) rfl rfl P3 (fun h_5 W_6 => ?_)
  have f_7 : Fld Z h_5 a sN "value" "I" (.int p) := P2.same W_6
  have kp_8 : Keep h h_5 [a] := (Keep.refl h [a]).wr W_6 (Or.inl (by simp))
  exact K.ret0 d15_9 (by decide) (by decide) ⟨rfl, kp_8, f_7⟩
theorem d9_0 : decode jdk_33_method_22_code 0 = .ok (.iload_n 0, 1) := by decide +kernel
theorem d9_1 : decode jdk_33_method_22_code 1 = .ok (.bipush (-128), 2) := by decide +kernel
theorem d9_3 : decode jdk_33_method_22_code 3 = .ok (.if_icmp .lt 20, 3) := by decide +kernel
theorem d9_23 : decode jdk_33_method_22_code 23 = .ok (.new 1, 3) := by decide +kernel
theorem d9_26 : decode jdk_33_method_22_code 26 = .ok (.dup, 1) := by decide +kernel
theorem d9_27 : decode jdk_33_method_22_code 27 = .ok (.iload_n 0, 1) := by decide +kernel
theorem d9_28 : decode jdk_33_method_22_code 28 = .ok (.invokespecial 199, 3) := by decide +kernel
theorem pd_1 : parseMethodDescriptor "(I)V" = some ⟨[.int], none⟩ := by decide +kernel
theorem d9_31 : decode jdk_33_method_22_code 31 = .ok (.areturn, 1) := by decide +kernel
theorem d9_6 : decode jdk_33_method_22_code 6 = .ok (.iload_n 0, 1) := by decide +kernel
theorem d9_7 : decode jdk_33_method_22_code 7 = .ok (.getstatic 191, 3) := by decide +kernel
theorem d9_10 : decode jdk_33_method_22_code 10 = .ok (.if_icmp .gt 13, 3) := by decide +kernel
theorem d9_13 : decode jdk_33_method_22_code 13 = .ok (.getstatic 195, 3) := by decide +kernel
theorem d9_16 : decode jdk_33_method_22_code 16 = .ok (.iload_n 0, 1) := by decide +kernel
theorem d9_17 : decode jdk_33_method_22_code 17 = .ok (.sipush 128, 3) := by decide +kernel
theorem d9_20 : decode jdk_33_method_22_code 20 = .ok (.iadd, 1) := by decide +kernel
theorem d9_21 : decode jdk_33_method_22_code 21 = .ok (.aaload, 1) := by decide +kernel
theorem d9_22 : decode jdk_33_method_22_code 22 = .ok (.areturn, 1) := by decide +kernel
set_option maxRecDepth 65536 in
set_option maxHeartbeats 40000000 in
theorem c_val (l : Launch) (Z : State) (a0 : Array Value) (hw : ∀ d ∈ tables_1, d.before a0 Z = true) (n0 : Nat) (h : Heap) (p : Int32) (ca : Addr) (cc : Cell) (Z0 : n0 ≤ h.size) (P2 : Old Z n0 h) (P3 : Sta Z Z.heap "java/lang/Integer$IntegerCache" "high" "I" (.int (127 : Int32))) (P4 : Sta Z Z.heap "java/lang/Integer$IntegerCache" "cache" "[Ljava/lang/Integer;" (.ref ca)) (hbx : Bxs Z ca cc sN "I" 256 (fun j => .int (j - 128))) : MeetsW l Z n0 (⟨sN, "valueOf", "(I)Ljava/lang/Integer;"⟩ : MethodName) jdk_33_method_22_code 1 (some (.object sN)) ({ frames := 3, cells := 1, slots := 1, locals := 38 } : Room) #[(.int p)] h (fun v h' => ∃ o : Addr, v = some (.ref o) ∧ Keep h h' [] ∧ Exa Z h' o sN ∧ Fld Z h' o sN "value" "I" (.int p) ∧ (o < n0 ∨ h.size ≤ o)) := by
  refine MeetsW.intro (plainFor_of_name pn_java_lang_Integer) (L0 := #[vi p]) (fun m => by first | (simp [entryFrame, mkF, argsToLocals, Value.category]; done) | rfl) ?_
  intro m G K0
  have K : Cx l ({ frames := 3, cells := 1, slots := 1, locals := 38 } : Room) Z n0 _ sN "valueOf" jdk_33_method_22_code 1 (some (.object sN)) m G := K0
  have hw57 := hw _ (List.mem_of_getElem? (i := 57) rfl)
  have hw59 := hw _ (List.mem_of_getElem? (i := 59) rfl)
  have hw61 := hw _ (List.mem_of_getElem? (i := 61) rfl)
  have hw101 := hw _ (List.mem_of_getElem? (i := 101) rfl)
  have hw104 := hw _ (List.mem_of_getElem? (i := 104) rfl)
  have hw105 := hw _ (List.mem_of_getElem? (i := 105) rfl)
  have hw106 := hw _ (List.mem_of_getElem? (i := 106) rfl)
  have hw107 := hw _ (List.mem_of_getElem? (i := 107) rfl)
  have hw108 := hw _ (List.mem_of_getElem? (i := 108) rfl)
  refine K.iloadN d9_0 (pc' := 1) rfl rfl ?_
  refine K.bipush d9_1 (pc' := 3) rfl (z := -128) rfl ?_
  refine K.icmp_lt d9_3 (pc1 := 6) rfl (by decide) (pc2 := 23) (by decide) (a := p.toInt) (b := (-128)) rfl rfl (fun c3 => ?_) (fun c3 => ?_)
  · refine K.newo d9_23 (pc' := 26) rfl hw104 hw105 hw57 (by decide) (by decide) (fun h_2 o_1 g_o_1 E_3 x_o_1 D_o_1 => ?_)
    have ge_o_1 : n0 ≤ o_1 := g_o_1 ▸ Z0
    have sb_o_1 : h.size ≤ o_1 := g_o_1 ▸ (Keep.refl h []).1
    have kp_4 : Keep h h_2 [] := (Keep.refl h []).ext E_3
    have f_5 : Fld Z h_2 o_1 sN "value" "I" (.int (0 : Int32)) := D_o_1 (Or.inr hw101) (ty := .int) (by decide)
    refine K.dup d9_26 (pc' := 27) rfl rfl ?_
    refine K.iloadN d9_27 (pc' := 28) rfl rfl ?_
    refine K.callc (argsL := [(.int p)]) (rest := [(.ref o_1)]) d9_28 (pc' := 31) rfl rfl (c_int l Z a0 hw n0 h_2 (a := o_1) (p := p) x_o_1 f_5 ge_o_1) hw106 hw107 hw57 hw108 (by decide) pd_1 rfl rfl (W := 1) (by simp [Value.category]) (by decide) (by decide) (by decide) (by decide) (fun v_8 h_6 q_7 => ?_)
    obtain ⟨rfl, K_10, f_11⟩ := q_7
    have kp_12 : Keep h h_6 [] := kp_4.trans K_10 (allS (Or.inr sb_o_1) all0)
    show G h_6 1 1 (mkF m 31 #[vi p] [(.ref o_1)])
    have f_13 : Exa Z h_6 o_1 sN := (x_o_1.keep K_10)
    exact K.reta d9_31 rfl rfl rfl (by decide) (by decide) ⟨o_1, rfl, kp_12, f_13, f_11, (Or.inr sb_o_1)⟩
  · refine K.iloadN d9_6 (pc' := 7) rfl rfl ?_
    refine K.gets d9_7 (pc' := 10) rfl (host := "") (Or.inl hw59) Via.refl (P3.ext P2.2) ?_
    refine K.icmp_gt d9_10 (pc1 := 13) rfl (by decide) (pc2 := 23) (by decide) (a := p.toInt) (b := 127) rfl rfl (fun c10 => ?_) (fun c10 => ?_)
    · refine K.newo d9_23 (pc' := 26) rfl hw104 hw105 hw57 (by decide) (by decide) (fun h_15 o_14 g_o_14 E_16 x_o_14 D_o_14 => ?_)
      have ge_o_14 : n0 ≤ o_14 := g_o_14 ▸ Z0
      have sb_o_14 : h.size ≤ o_14 := g_o_14 ▸ (Keep.refl h []).1
      have kp_17 : Keep h h_15 [] := (Keep.refl h []).ext E_16
      have f_18 : Fld Z h_15 o_14 sN "value" "I" (.int (0 : Int32)) := D_o_14 (Or.inr hw101) (ty := .int) (by decide)
      refine K.dup d9_26 (pc' := 27) rfl rfl ?_
      refine K.iloadN d9_27 (pc' := 28) rfl rfl ?_
      refine K.callc (argsL := [(.int p)]) (rest := [(.ref o_14)]) d9_28 (pc' := 31) rfl rfl (c_int l Z a0 hw n0 h_15 (a := o_14) (p := p) x_o_14 f_18 ge_o_14) hw106 hw107 hw57 hw108 (by decide) pd_1 rfl rfl (W := 1) (by simp [Value.category]) (by decide) (by decide) (by decide) (by decide) (fun v_21 h_19 q_20 => ?_)
      obtain ⟨rfl, K_23, f_24⟩ := q_20
      have kp_25 : Keep h h_19 [] := kp_17.trans K_23 (allS (Or.inr sb_o_14) all0)
      show G h_19 1 1 (mkF m 31 #[vi p] [(.ref o_14)])
      have f_26 : Exa Z h_19 o_14 sN := (x_o_14.keep K_23)
      exact K.reta d9_31 rfl rfl rfl (by decide) (by decide) ⟨o_14, rfl, kp_25, f_26, f_24, (Or.inr sb_o_14)⟩
    · refine K.gets d9_13 (pc' := 16) rfl (host := "") (Or.inl hw61) Via.refl (P4.ext P2.2) ?_
      refine K.iloadN d9_16 (pc' := 17) rfl rfl ?_
      refine K.sipush d9_17 (pc' := 20) rfl (z := 128) rfl ?_
      obtain ⟨j, e_j⟩ : ∃ z, p + (128 : Int32) = z := ⟨_, rfl⟩
      have r_j : (j.toInt - (p.toInt + 128)) % 4294967296 = 0 := by have q := c_iadd p (128 : Int32); rw [e_j] at q; exact q
      have g_j := rng32 j
      have t_j : j.toInt = p.toInt + 128 := by omega
      clear r_j
      clear g_j
      refine K.iadd d9_20 (pc' := 21) rfl e_j ?_
      obtain ⟨bo, hb1, hb2, hb3⟩ := hbx.2.2.2 j (bx_in (by omega) (by omega) hbx.2.1)
      have hE := hb2.ext P2.2
      have hF := hb3.ext P2.2
      rw [show (fun j : Int32 => Value.int (j - 128)) j = Value.int p from by show Value.int (j - 128) = _; rw [j_back t_j]] at hF
      have hM : bo < n0 ∨ h.size ≤ bo := Or.inl (P2.1 ▸ hb2.lt)
      refine K.aald d9_21 (pc' := 22) rfl (hbx.ext P2.2).1 rfl (bx_in (by omega) (by omega) hbx.2.1) hb1 ?_
      exact K.reta d9_22 rfl rfl rfl (by decide) (by decide) ⟨bo, rfl, (Keep.refl h []), hE, hF, (hM)⟩
theorem d11_0 : decode prog_57_method_1_code 0 = .ok (.aload_n 0, 1) := by decide +kernel
theorem d11_1 : decode prog_57_method_1_code 1 = .ok (.invokespecial 1, 3) := by decide +kernel
theorem d11_4 : decode prog_57_method_1_code 4 = .ok (.aload_n 0, 1) := by decide +kernel
theorem d11_5 : decode prog_57_method_1_code 5 = .ok (.aload_n 1, 1) := by decide +kernel
theorem d11_6 : decode prog_57_method_1_code 6 = .ok (.putfield 7, 3) := by decide +kernel
theorem d11_9 : decode prog_57_method_1_code 9 = .ok (.return_, 1) := by decide +kernel
theorem pn_com_example_quadrille_quadrille_formats_Chain_Link : plainName sL = true := by first | (simp [plainName, overriddenIn]; done) | decide +kernel
set_option maxRecDepth 65536 in
set_option maxHeartbeats 40000000 in
theorem c_lnk (l : Launch) (Z : State) (a0 : Array Value) (hw : ∀ d ∈ tables_1, d.before a0 Z = true) (n0 : Nat) (h : Heap) (a : Addr) (e : Addr) (P1 : Exa Z h a sL) (P2 : Fld Z h a sL "element" "Ljava/lang/Object;" .null) (P3 : Fld Z h a sL "next" dL .null) (P4 : n0 ≤ a) : MeetsW l Z n0 (⟨sL, "<init>", "(Ljava/lang/Object;)V"⟩ : MethodName) prog_57_method_1_code 2 none ({ frames := 1, cells := 0, slots := 0, locals := 12 } : Room) #[(.ref a), (.ref e)] h (fun v h' => v = none ∧ Keep h h' [a] ∧ Fld Z h' a sL "element" "Ljava/lang/Object;" (.ref e) ∧ Fld Z h' a sL "next" dL .null) := by
  refine MeetsW.intro (plainFor_of_name pn_com_example_quadrille_quadrille_formats_Chain_Link) (L0 := #[vr a, vr e]) (fun m => by first | (simp [entryFrame, mkF, argsToLocals, Value.category]; done) | rfl) ?_
  intro m G K0
  have K : Cx l ({ frames := 1, cells := 0, slots := 0, locals := 12 } : Room) Z n0 _ sL "<init>" prog_57_method_1_code 2 none m G := K0
  have hw13 := hw _ (List.mem_of_getElem? (i := 13) rfl)
  have hw14 := hw _ (List.mem_of_getElem? (i := 14) rfl)
  have hw68 := hw _ (List.mem_of_getElem? (i := 68) rfl)
  have hw73 := hw _ (List.mem_of_getElem? (i := 73) rfl)
  have hw74 := hw _ (List.mem_of_getElem? (i := 74) rfl)
  have hw75 := hw _ (List.mem_of_getElem? (i := 75) rfl)
  have hw92 := hw _ (List.mem_of_getElem? (i := 92) rfl)
  refine K.aloadN d11_0 (pc' := 1) rfl rfl rfl ?_
  refine K.init0 d11_1 (pc' := 4) rfl hw73 hw13 hw14 rfl (by decide) (W := 0) (by simp [Value.category]) (by decide) ?_
  refine K.aloadN d11_4 (pc' := 5) rfl rfl rfl ?_
  refine K.aloadN d11_5 (pc' := 6) rfl rfl rfl ?_
  refine K.putf d11_6 (pc' := 9) rfl (host := "") (Or.inl hw74) Via.refl P2 P1 (Or.inr ⟨hw75, rfl, rfl⟩) hw68 (ty := (.object "java/lang/Object")) (by decide) rfl rfl P4 (fun h_1 W_2 => ?_)
  have f_3 : Fld Z h_1 a sL "element" "Ljava/lang/Object;" (.ref e) := P2.same W_2
  have f_4 : Fld Z h_1 a sL "next" dL .null := P3.other W_2 (Or.inr (slot_ne (Or.inl hw92) (Or.inr hw75) (by decide) (t := (.object sL)) (t' := (.object "java/lang/Object")) (by decide) (by decide)))
  have kp_5 : Keep h h_1 [a] := (Keep.refl h [a]).wr W_2 (Or.inl (by simp))
  exact K.ret0 d11_9 (by decide) (by decide) ⟨rfl, kp_5, f_3, f_4⟩
theorem d1_0 : decode prog_55_method_1_code 0 = .ok (.aload_n 0, 1) := by decide +kernel
theorem d1_1 : decode prog_55_method_1_code 1 = .ok (.invokespecial 1, 3) := by decide +kernel
theorem d1_4 : decode prog_55_method_1_code 4 = .ok (.return_, 1) := by decide +kernel
theorem pn_com_example_quadrille_quadrille_formats_Chain : plainName sC = true := by first | (simp [plainName, overriddenIn]; done) | decide +kernel
set_option maxRecDepth 65536 in
set_option maxHeartbeats 40000000 in
theorem c_chn (l : Launch) (Z : State) (a0 : Array Value) (hw : ∀ d ∈ tables_1, d.before a0 Z = true) (n0 : Nat) (h : Heap) (a : Addr)  : MeetsW l Z n0 (⟨sC, "<init>", "()V"⟩ : MethodName) prog_55_method_1_code 1 none ({ frames := 2, cells := 0, slots := 0, locals := 24 } : Room) #[(.ref a)] h (fun v h' => v = none ∧ h = h') := by
  refine MeetsW.intro (plainFor_of_name pn_com_example_quadrille_quadrille_formats_Chain) (L0 := #[vr a]) (fun m => by first | (simp [entryFrame, mkF, argsToLocals, Value.category]; done) | rfl) ?_
  intro m G K0
  have K : Cx l ({ frames := 2, cells := 0, slots := 0, locals := 24 } : Room) Z n0 _ sC "<init>" prog_55_method_1_code 1 none m G := K0
  have hw7 := hw _ (List.mem_of_getElem? (i := 7) rfl)
  have hw8 := hw _ (List.mem_of_getElem? (i := 8) rfl)
  have hw10 := hw _ (List.mem_of_getElem? (i := 10) rfl)
  have hw11 := hw _ (List.mem_of_getElem? (i := 11) rfl)
  refine K.aloadN d1_0 (pc' := 1) rfl rfl rfl ?_
  refine K.callc (argsL := []) (rest := []) d1_1 (pc' := 4) rfl rfl (c_abs l Z a0 hw n0 h (a := a) ) hw7 hw8 hw10 hw11 (by decide) pd_0 rfl rfl (W := 0) (by simp [Value.category]) (by decide) (by decide) (by decide) (by decide) (fun v_3 h_1 q_2 => ?_)
  obtain ⟨rfl, rfl⟩ := q_2
  show G h 0 0 (mkF m 4 #[vr a] [])
  exact K.ret0 d1_4 (by decide) (by decide) ⟨rfl, rfl⟩
theorem d10_0 : decode prog_55_method_2_code 0 = .ok (.new 7, 3) := by decide +kernel
theorem d10_3 : decode prog_55_method_2_code 3 = .ok (.dup, 1) := by decide +kernel
theorem d10_4 : decode prog_55_method_2_code 4 = .ok (.aload_n 1, 1) := by decide +kernel
theorem d10_5 : decode prog_55_method_2_code 5 = .ok (.invokespecial 9, 3) := by decide +kernel
theorem pd_2 : parseMethodDescriptor "(Ljava/lang/Object;)V" = some ⟨[(.object "java/lang/Object")], none⟩ := by decide +kernel
theorem d10_8 : decode prog_55_method_2_code 8 = .ok (.astore_n 2, 1) := by decide +kernel
theorem d10_9 : decode prog_55_method_2_code 9 = .ok (.aload_n 0, 1) := by decide +kernel
theorem d10_10 : decode prog_55_method_2_code 10 = .ok (.getfield 12, 3) := by decide +kernel
theorem d10_13 : decode prog_55_method_2_code 13 = .ok (.ifnonnull 11, 3) := by decide +kernel
theorem d10_16 : decode prog_55_method_2_code 16 = .ok (.aload_n 0, 1) := by decide +kernel
theorem d10_17 : decode prog_55_method_2_code 17 = .ok (.aload_n 2, 1) := by decide +kernel
theorem d10_18 : decode prog_55_method_2_code 18 = .ok (.putfield 18, 3) := by decide +kernel
theorem d10_21 : decode prog_55_method_2_code 21 = .ok (.goto 11, 3) := by decide +kernel
theorem d10_32 : decode prog_55_method_2_code 32 = .ok (.aload_n 0, 1) := by decide +kernel
theorem d10_33 : decode prog_55_method_2_code 33 = .ok (.aload_n 2, 1) := by decide +kernel
theorem d10_34 : decode prog_55_method_2_code 34 = .ok (.putfield 12, 3) := by decide +kernel
theorem d10_37 : decode prog_55_method_2_code 37 = .ok (.aload_n 0, 1) := by decide +kernel
theorem d10_38 : decode prog_55_method_2_code 38 = .ok (.dup, 1) := by decide +kernel
theorem d10_39 : decode prog_55_method_2_code 39 = .ok (.getfield 24, 3) := by decide +kernel
theorem d10_42 : decode prog_55_method_2_code 42 = .ok (.iconst 1, 1) := by decide +kernel
theorem d10_43 : decode prog_55_method_2_code 43 = .ok (.iadd, 1) := by decide +kernel
theorem d10_44 : decode prog_55_method_2_code 44 = .ok (.putfield 24, 3) := by decide +kernel
theorem d10_47 : decode prog_55_method_2_code 47 = .ok (.iconst 1, 1) := by decide +kernel
theorem d10_48 : decode prog_55_method_2_code 48 = .ok (.ireturn, 1) := by decide +kernel
set_option maxRecDepth 65536 in
set_option maxHeartbeats 40000000 in
theorem c_add0 (l : Launch) (Z : State) (a0 : Array Value) (hw : ∀ d ∈ tables_1, d.before a0 Z = true) (n0 : Nat) (h : Heap) (a : Addr) (e : Addr) (n : Int32) (Z0 : n0 ≤ h.size) (P2 : Exa Z h a sC) (P3 : n0 ≤ a) (P4 : Fld Z h a sC "first" dL .null) (P5 : Fld Z h a sC "last" dL .null) (P6 : Fld Z h a sC "size" "I" (.int n)) (hn : 0 ≤ n.toInt ∧ n.toInt < 100) : MeetsW l Z n0 (⟨sC, "add", "(Ljava/lang/Object;)Z"⟩ : MethodName) prog_55_method_2_code 3 (some .boolean) ({ frames := 2, cells := 1, slots := 2, locals := 26 } : Room) #[(.ref a), (.ref e)] h (fun v h' => ∃ (lk : Addr) (n1 : Int32), v = some (.int (b2 (True))) ∧ Keep h h' [a] ∧ (n1.toInt = n.toInt + 1) ∧ h.size ≤ lk ∧ n0 ≤ lk ∧ Exa Z h' lk sL ∧ Fld Z h' lk sL "element" "Ljava/lang/Object;" (.ref e) ∧ Fld Z h' lk sL "next" dL .null ∧ Fld Z h' a sC "first" dL (.ref lk) ∧ Fld Z h' a sC "last" dL (.ref lk) ∧ Fld Z h' a sC "size" "I" (.int n1)) := by
  refine MeetsW.intro (plainFor_of_name pn_com_example_quadrille_quadrille_formats_Chain) (L0 := #[vr a, vr e, .unset]) (fun m => by first | (simp [entryFrame, mkF, argsToLocals, Value.category]; done) | rfl) ?_
  intro m G K0
  have K : Cx l ({ frames := 2, cells := 1, slots := 2, locals := 26 } : Room) Z n0 _ sC "add" prog_55_method_2_code 3 (some .boolean) m G := K0
  have hw2 := hw _ (List.mem_of_getElem? (i := 2) rfl)
  have hw20 := hw _ (List.mem_of_getElem? (i := 20) rfl)
  have hw21 := hw _ (List.mem_of_getElem? (i := 21) rfl)
  have hw27 := hw _ (List.mem_of_getElem? (i := 27) rfl)
  have hw28 := hw _ (List.mem_of_getElem? (i := 28) rfl)
  have hw67 := hw _ (List.mem_of_getElem? (i := 67) rfl)
  have hw68 := hw _ (List.mem_of_getElem? (i := 68) rfl)
  have hw69 := hw _ (List.mem_of_getElem? (i := 69) rfl)
  have hw70 := hw _ (List.mem_of_getElem? (i := 70) rfl)
  have hw71 := hw _ (List.mem_of_getElem? (i := 71) rfl)
  have hw72 := hw _ (List.mem_of_getElem? (i := 72) rfl)
  have hw75 := hw _ (List.mem_of_getElem? (i := 75) rfl)
  have hw76 := hw _ (List.mem_of_getElem? (i := 76) rfl)
  have hw77 := hw _ (List.mem_of_getElem? (i := 77) rfl)
  have hw92 := hw _ (List.mem_of_getElem? (i := 92) rfl)
  refine K.newo d10_0 (pc' := 3) rfl hw67 hw68 hw69 (by decide) (by decide) (fun h_2 o_1 g_o_1 E_3 x_o_1 D_o_1 => ?_)
  have ge_o_1 : n0 ≤ o_1 := g_o_1 ▸ Z0
  have sb_o_1 : h.size ≤ o_1 := g_o_1 ▸ (Keep.refl h [a]).1
  have kp_4 : Keep h h_2 [a] := (Keep.refl h [a]).ext E_3
  have f_5 : Fld Z h_2 o_1 sL "element" "Ljava/lang/Object;" .null := D_o_1 (Or.inr hw75) (ty := (.object "java/lang/Object")) (by decide)
  have f_6 : Fld Z h_2 o_1 sL "next" dL .null := D_o_1 (Or.inl hw92) (ty := (.object sL)) (by decide)
  refine K.dup d10_3 (pc' := 4) rfl rfl ?_
  refine K.aloadN d10_4 (pc' := 5) rfl rfl rfl ?_
  refine K.callcW (argsL := [(.ref e)]) (rest := [(.ref o_1)]) d10_5 (pc' := 8) rfl rfl (c_lnk l Z a0 hw n0 h_2 (a := o_1) (e := e) x_o_1 f_5 f_6 ge_o_1) hw70 hw71 hw69 hw72 (by decide) pd_2 rfl rfl (W := 1) (by simp [Value.category]) (by decide) (by decide) (by decide) (by decide) (fun v_9 h_7 q_8 => ?_)
  obtain ⟨rfl, K_11, f_12, f_13⟩ := q_8
  have kp_14 : Keep h h_7 [a] := kp_4.trans K_11 (allS (Or.inr sb_o_1) all0)
  show G h_7 1 2 (mkF m 8 #[vr a, vr e, .unset] [(.ref o_1)])
  refine K.astoreN d10_8 (pc' := 9) rfl rfl (L' := #[vr a, vr e, vr o_1]) rfl ?_
  refine K.aloadN d10_9 (pc' := 10) rfl rfl rfl ?_
  have ne_15 : a ≠ o_1 := (Nat.ne_of_lt (Nat.lt_of_lt_of_le P2.lt (Nat.le_trans (Nat.le_refl _) (Nat.le_of_eq g_o_1.symm))))
  have f_16 : Fld Z h_7 a sC "last" dL .null := ((P5.ext E_3).keep K_11 (ninS ne_15 nin0))
  refine K.getf d10_10 (pc' := 13) rfl (host := "") (Or.inl hw76) Via.refl f_16 ?_
  refine K.ifnonnull0 d10_13 (pc' := 16) rfl ?_
  refine K.aloadN d10_16 (pc' := 17) rfl rfl rfl ?_
  refine K.aloadN d10_17 (pc' := 18) rfl rfl rfl ?_
  have f_17 : Fld Z h_7 a sC "first" dL .null := ((P4.ext E_3).keep K_11 (ninS ne_15 nin0))
  have f_18 : Exa Z h_7 a sC := ((P2.ext E_3).keep K_11)
  refine K.putf d10_18 (pc' := 21) rfl (host := "") (Or.inl hw20) Via.refl f_17 f_18 (Or.inl hw21) hw2 (ty := (.object sL)) (by decide) rfl rfl P3 (fun h_19 W_20 => ?_)
  have f_21 : Fld Z h_7 a sC "size" "I" (.int n) := ((P6.ext E_3).keep K_11 (ninS ne_15 nin0))
  have f_22 : Fld Z h_19 a sC "first" dL (.ref o_1) := f_17.same W_20
  have f_23 : Fld Z h_19 a sC "last" dL .null := f_16.other W_20 (Or.inr (slot_ne (Or.inl hw77) (Or.inl hw21) (by decide) (t := (.object sL)) (t' := (.object sL)) (by decide) (by decide)))
  have f_24 : Fld Z h_19 a sC "size" "I" (.int n) := f_21.other W_20 (Or.inr (slot_ne (Or.inl hw28) (Or.inl hw21) (by decide) (t := .int) (t' := (.object sL)) (by decide) (by decide)))
  have kp_25 : Keep h h_19 [a] := kp_14.wr W_20 (Or.inl (by simp))
  refine K.goto d10_21 (by decide) (pc' := 32) (by decide) ?_
  refine K.aloadN d10_32 (pc' := 33) rfl rfl rfl ?_
  refine K.aloadN d10_33 (pc' := 34) rfl rfl rfl ?_
  have f_26 : Exa Z h_19 a sC := (f_18.wr W_20)
  refine K.putf d10_34 (pc' := 37) rfl (host := "") (Or.inl hw76) Via.refl f_23 f_26 (Or.inl hw77) hw2 (ty := (.object sL)) (by decide) rfl rfl P3 (fun h_27 W_28 => ?_)
  have f_29 : Fld Z h_27 a sC "first" dL (.ref o_1) := f_22.other W_28 (Or.inr (slot_ne (Or.inl hw21) (Or.inl hw77) (by decide) (t := (.object sL)) (t' := (.object sL)) (by decide) (by decide)))
  have f_30 : Fld Z h_27 a sC "last" dL (.ref o_1) := f_23.same W_28
  have f_31 : Fld Z h_27 a sC "size" "I" (.int n) := f_24.other W_28 (Or.inr (slot_ne (Or.inl hw28) (Or.inl hw77) (by decide) (t := .int) (t' := (.object sL)) (by decide) (by decide)))
  have kp_32 : Keep h h_27 [a] := kp_25.wr W_28 (Or.inl (by simp))
  refine K.aloadN d10_37 (pc' := 38) rfl rfl rfl ?_
  refine K.dup d10_38 (pc' := 39) rfl rfl ?_
  refine K.getf d10_39 (pc' := 42) rfl (host := "") (Or.inl hw27) Via.refl f_31 ?_
  refine K.iconst d10_42 (pc' := 43) rfl (z := 1) rfl ?_
  obtain ⟨z43, e_z43⟩ : ∃ z, n + (1 : Int32) = z := ⟨_, rfl⟩
  have r_z43 : (z43.toInt - (n.toInt + 1)) % 4294967296 = 0 := by have q := c_iadd n (1 : Int32); rw [e_z43] at q; exact q
  have g_z43 := rng32 z43
  refine K.iadd d10_43 (pc' := 44) rfl e_z43 ?_
  have f_33 : Exa Z h_27 a sC := (f_26.wr W_28)
  refine K.putf d10_44 (pc' := 47) rfl (host := "") (Or.inl hw27) Via.refl f_31 f_33 (Or.inl hw28) hw2 (ty := .int) (by decide) rfl rfl P3 (fun h_34 W_35 => ?_)
  have f_36 : Fld Z h_34 a sC "first" dL (.ref o_1) := f_29.other W_35 (Or.inr (slot_ne (Or.inl hw21) (Or.inl hw28) (by decide) (t := (.object sL)) (t' := .int) (by decide) (by decide)))
  have f_37 : Fld Z h_34 a sC "last" dL (.ref o_1) := f_30.other W_35 (Or.inr (slot_ne (Or.inl hw77) (Or.inl hw28) (by decide) (t := (.object sL)) (t' := .int) (by decide) (by decide)))
  have f_38 : Fld Z h_34 a sC "size" "I" (.int z43) := f_31.same W_35
  have kp_39 : Keep h h_34 [a] := kp_32.wr W_35 (Or.inl (by simp))
  refine K.iconst d10_47 (pc' := 48) rfl (z := 1) rfl ?_
  have f_40 : Exa Z h_34 o_1 sL := ((((x_o_1.keep K_11).wr W_20).wr W_28).wr W_35)
  have f_41 : Fld Z h_34 o_1 sL "element" "Ljava/lang/Object;" (.ref e) := (((f_12.other W_20 (Or.inl (Ne.symm ne_15))).other W_28 (Or.inl (Ne.symm ne_15))).other W_35 (Or.inl (Ne.symm ne_15)))
  have f_42 : Fld Z h_34 o_1 sL "next" dL .null := (((f_13.other W_20 (Or.inl (Ne.symm ne_15))).other W_28 (Or.inl (Ne.symm ne_15))).other W_35 (Or.inl (Ne.symm ne_15)))
  exact K.retz d10_48 (Or.inr rfl) (by decide) (by decide) ⟨o_1, z43, by rw [b2_t (by trivial)], kp_39, by omega, sb_o_1, ge_o_1, f_40, f_41, f_42, f_36, f_37, f_38⟩
theorem d10_24 : decode prog_55_method_2_code 24 = .ok (.aload_n 0, 1) := by decide +kernel
theorem d10_25 : decode prog_55_method_2_code 25 = .ok (.getfield 12, 3) := by decide +kernel
theorem d10_28 : decode prog_55_method_2_code 28 = .ok (.aload_n 2, 1) := by decide +kernel
theorem d10_29 : decode prog_55_method_2_code 29 = .ok (.putfield 21, 3) := by decide +kernel
set_option maxRecDepth 65536 in
set_option maxHeartbeats 40000000 in
theorem c_add1 (l : Launch) (Z : State) (a0 : Array Value) (hw : ∀ d ∈ tables_1, d.before a0 Z = true) (n0 : Nat) (h : Heap) (a : Addr) (e : Addr) (n : Int32) (f0 : Addr) (t : Addr) (te : Addr) (Z0 : n0 ≤ h.size) (P2 : Exa Z h a sC) (P3 : n0 ≤ a) (P4 : Exa Z h t sL) (P5 : n0 ≤ t) (P6 : t ≠ a) (P7 : Fld Z h t sL "next" dL .null) (P8 : Fld Z h t sL "element" "Ljava/lang/Object;" (.ref te)) (P9 : Fld Z h a sC "first" dL (.ref f0)) (P10 : Fld Z h a sC "last" dL (.ref t)) (P11 : Fld Z h a sC "size" "I" (.int n)) (hn : 0 ≤ n.toInt ∧ n.toInt < 100) : MeetsW l Z n0 (⟨sC, "add", "(Ljava/lang/Object;)Z"⟩ : MethodName) prog_55_method_2_code 3 (some .boolean) ({ frames := 2, cells := 1, slots := 2, locals := 26 } : Room) #[(.ref a), (.ref e)] h (fun v h' => ∃ (lk : Addr) (n1 : Int32), v = some (.int (b2 (True))) ∧ Keep h h' [a, t] ∧ (n1.toInt = n.toInt + 1) ∧ h.size ≤ lk ∧ n0 ≤ lk ∧ Exa Z h' lk sL ∧ Fld Z h' lk sL "element" "Ljava/lang/Object;" (.ref e) ∧ Fld Z h' lk sL "next" dL .null ∧ Fld Z h' t sL "next" dL (.ref lk) ∧ Fld Z h' t sL "element" "Ljava/lang/Object;" (.ref te) ∧ Fld Z h' a sC "first" dL (.ref f0) ∧ Fld Z h' a sC "last" dL (.ref lk) ∧ Fld Z h' a sC "size" "I" (.int n1)) := by
  refine MeetsW.intro (plainFor_of_name pn_com_example_quadrille_quadrille_formats_Chain) (L0 := #[vr a, vr e, .unset]) (fun m => by first | (simp [entryFrame, mkF, argsToLocals, Value.category]; done) | rfl) ?_
  intro m G K0
  have K : Cx l ({ frames := 2, cells := 1, slots := 2, locals := 26 } : Room) Z n0 _ sC "add" prog_55_method_2_code 3 (some .boolean) m G := K0
  have hw2 := hw _ (List.mem_of_getElem? (i := 2) rfl)
  have hw21 := hw _ (List.mem_of_getElem? (i := 21) rfl)
  have hw27 := hw _ (List.mem_of_getElem? (i := 27) rfl)
  have hw28 := hw _ (List.mem_of_getElem? (i := 28) rfl)
  have hw67 := hw _ (List.mem_of_getElem? (i := 67) rfl)
  have hw68 := hw _ (List.mem_of_getElem? (i := 68) rfl)
  have hw69 := hw _ (List.mem_of_getElem? (i := 69) rfl)
  have hw70 := hw _ (List.mem_of_getElem? (i := 70) rfl)
  have hw71 := hw _ (List.mem_of_getElem? (i := 71) rfl)
  have hw72 := hw _ (List.mem_of_getElem? (i := 72) rfl)
  have hw75 := hw _ (List.mem_of_getElem? (i := 75) rfl)
  have hw76 := hw _ (List.mem_of_getElem? (i := 76) rfl)
  have hw77 := hw _ (List.mem_of_getElem? (i := 77) rfl)
  have hw92 := hw _ (List.mem_of_getElem? (i := 92) rfl)
  have hw103 := hw _ (List.mem_of_getElem? (i := 103) rfl)
  refine K.newo d10_0 (pc' := 3) rfl hw67 hw68 hw69 (by decide) (by decide) (fun h_2 o_1 g_o_1 E_3 x_o_1 D_o_1 => ?_)
  have ge_o_1 : n0 ≤ o_1 := g_o_1 ▸ Z0
  have sb_o_1 : h.size ≤ o_1 := g_o_1 ▸ (Keep.refl h [a, t]).1
  have kp_4 : Keep h h_2 [a, t] := (Keep.refl h [a, t]).ext E_3
  have f_5 : Fld Z h_2 o_1 sL "element" "Ljava/lang/Object;" .null := D_o_1 (Or.inr hw75) (ty := (.object "java/lang/Object")) (by decide)
  have f_6 : Fld Z h_2 o_1 sL "next" dL .null := D_o_1 (Or.inl hw92) (ty := (.object sL)) (by decide)
  refine K.dup d10_3 (pc' := 4) rfl rfl ?_
  refine K.aloadN d10_4 (pc' := 5) rfl rfl rfl ?_
  refine K.callcW (argsL := [(.ref e)]) (rest := [(.ref o_1)]) d10_5 (pc' := 8) rfl rfl (c_lnk l Z a0 hw n0 h_2 (a := o_1) (e := e) x_o_1 f_5 f_6 ge_o_1) hw70 hw71 hw69 hw72 (by decide) pd_2 rfl rfl (W := 1) (by simp [Value.category]) (by decide) (by decide) (by decide) (by decide) (fun v_9 h_7 q_8 => ?_)
  obtain ⟨rfl, K_11, f_12, f_13⟩ := q_8
  have kp_14 : Keep h h_7 [a, t] := kp_4.trans K_11 (allS (Or.inr sb_o_1) all0)
  show G h_7 1 2 (mkF m 8 #[vr a, vr e, .unset] [(.ref o_1)])
  refine K.astoreN d10_8 (pc' := 9) rfl rfl (L' := #[vr a, vr e, vr o_1]) rfl ?_
  refine K.aloadN d10_9 (pc' := 10) rfl rfl rfl ?_
  have ne_15 : a ≠ o_1 := (Nat.ne_of_lt (Nat.lt_of_lt_of_le P2.lt (Nat.le_trans (Nat.le_refl _) (Nat.le_of_eq g_o_1.symm))))
  have f_16 : Fld Z h_7 a sC "last" dL (.ref t) := ((P10.ext E_3).keep K_11 (ninS ne_15 nin0))
  refine K.getf d10_10 (pc' := 13) rfl (host := "") (Or.inl hw76) Via.refl f_16 ?_
  refine K.ifnonnull1 d10_13 (by decide) (pc2 := 24) (by decide) ?_
  refine K.aloadN d10_24 (pc' := 25) rfl rfl rfl ?_
  refine K.getf d10_25 (pc' := 28) rfl (host := "") (Or.inl hw76) Via.refl f_16 ?_
  refine K.aloadN d10_28 (pc' := 29) rfl rfl rfl ?_
  have ne_17 : t ≠ o_1 := (Nat.ne_of_lt (Nat.lt_of_lt_of_le P4.lt (Nat.le_trans (Nat.le_refl _) (Nat.le_of_eq g_o_1.symm))))
  have f_18 : Fld Z h_7 t sL "next" dL .null := ((P7.ext E_3).keep K_11 (ninS ne_17 nin0))
  have f_19 : Exa Z h_7 t sL := ((P4.ext E_3).keep K_11)
  refine K.putfR d10_29 (pc' := 32) rfl hw103 f_18 f_19 hw92 hw68 (ty := (.object sL)) (by decide) rfl rfl P5 (fun h_20 W_21 => ?_)
  have f_22 : Fld Z h_7 t sL "element" "Ljava/lang/Object;" (.ref te) := ((P8.ext E_3).keep K_11 (ninS ne_17 nin0))
  have f_23 : Fld Z h_20 t sL "next" dL (.ref o_1) := f_18.same W_21
  have f_24 : Fld Z h_20 t sL "element" "Ljava/lang/Object;" (.ref te) := f_22.other W_21 (Or.inr (slot_ne (Or.inr hw75) (Or.inl hw92) (by decide) (t := (.object "java/lang/Object")) (t' := (.object sL)) (by decide) (by decide)))
  have kp_25 : Keep h h_20 [a, t] := kp_14.wr W_21 (Or.inl (by simp))
  refine K.aloadN d10_32 (pc' := 33) rfl rfl rfl ?_
  refine K.aloadN d10_33 (pc' := 34) rfl rfl rfl ?_
  have f_26 : Fld Z h_20 a sC "last" dL (.ref t) := (f_16.other W_21 (Or.inl (Ne.symm P6)))
  have f_27 : Exa Z h_20 a sC := (((P2.ext E_3).keep K_11).wr W_21)
  refine K.putf d10_34 (pc' := 37) rfl (host := "") (Or.inl hw76) Via.refl f_26 f_27 (Or.inl hw77) hw2 (ty := (.object sL)) (by decide) rfl rfl P3 (fun h_28 W_29 => ?_)
  have f_30 : Fld Z h_20 a sC "first" dL (.ref f0) := (((P9.ext E_3).keep K_11 (ninS ne_15 nin0)).other W_21 (Or.inl (Ne.symm P6)))
  have f_31 : Fld Z h_20 a sC "size" "I" (.int n) := (((P11.ext E_3).keep K_11 (ninS ne_15 nin0)).other W_21 (Or.inl (Ne.symm P6)))
  have f_32 : Fld Z h_28 a sC "first" dL (.ref f0) := f_30.other W_29 (Or.inr (slot_ne (Or.inl hw21) (Or.inl hw77) (by decide) (t := (.object sL)) (t' := (.object sL)) (by decide) (by decide)))
  have f_33 : Fld Z h_28 a sC "last" dL (.ref o_1) := f_26.same W_29
  have f_34 : Fld Z h_28 a sC "size" "I" (.int n) := f_31.other W_29 (Or.inr (slot_ne (Or.inl hw28) (Or.inl hw77) (by decide) (t := .int) (t' := (.object sL)) (by decide) (by decide)))
  have kp_35 : Keep h h_28 [a, t] := kp_25.wr W_29 (Or.inl (by simp))
  refine K.aloadN d10_37 (pc' := 38) rfl rfl rfl ?_
  refine K.dup d10_38 (pc' := 39) rfl rfl ?_
  refine K.getf d10_39 (pc' := 42) rfl (host := "") (Or.inl hw27) Via.refl f_34 ?_
  refine K.iconst d10_42 (pc' := 43) rfl (z := 1) rfl ?_
  obtain ⟨z43, e_z43⟩ : ∃ z, n + (1 : Int32) = z := ⟨_, rfl⟩
  have r_z43 : (z43.toInt - (n.toInt + 1)) % 4294967296 = 0 := by have q := c_iadd n (1 : Int32); rw [e_z43] at q; exact q
  have g_z43 := rng32 z43
  refine K.iadd d10_43 (pc' := 44) rfl e_z43 ?_
  have f_36 : Exa Z h_28 a sC := (f_27.wr W_29)
  refine K.putf d10_44 (pc' := 47) rfl (host := "") (Or.inl hw27) Via.refl f_34 f_36 (Or.inl hw28) hw2 (ty := .int) (by decide) rfl rfl P3 (fun h_37 W_38 => ?_)
  have f_39 : Fld Z h_37 a sC "first" dL (.ref f0) := f_32.other W_38 (Or.inr (slot_ne (Or.inl hw21) (Or.inl hw28) (by decide) (t := (.object sL)) (t' := .int) (by decide) (by decide)))
  have f_40 : Fld Z h_37 a sC "last" dL (.ref o_1) := f_33.other W_38 (Or.inr (slot_ne (Or.inl hw77) (Or.inl hw28) (by decide) (t := (.object sL)) (t' := .int) (by decide) (by decide)))
  have f_41 : Fld Z h_37 a sC "size" "I" (.int z43) := f_34.same W_38
  have kp_42 : Keep h h_37 [a, t] := kp_35.wr W_38 (Or.inl (by simp))
  refine K.iconst d10_47 (pc' := 48) rfl (z := 1) rfl ?_
  have f_43 : Exa Z h_37 o_1 sL := ((((x_o_1.keep K_11).wr W_21).wr W_29).wr W_38)
  have f_44 : Fld Z h_37 o_1 sL "element" "Ljava/lang/Object;" (.ref e) := (((f_12.other W_21 (Or.inl (Ne.symm ne_17))).other W_29 (Or.inl (Ne.symm ne_15))).other W_38 (Or.inl (Ne.symm ne_15)))
  have f_45 : Fld Z h_37 o_1 sL "next" dL .null := (((f_13.other W_21 (Or.inl (Ne.symm ne_17))).other W_29 (Or.inl (Ne.symm ne_15))).other W_38 (Or.inl (Ne.symm ne_15)))
  have f_46 : Fld Z h_37 t sL "next" dL (.ref o_1) := ((f_23.other W_29 (Or.inl P6)).other W_38 (Or.inl P6))
  have f_47 : Fld Z h_37 t sL "element" "Ljava/lang/Object;" (.ref te) := ((f_24.other W_29 (Or.inl P6)).other W_38 (Or.inl P6))
  exact K.retz d10_48 (Or.inr rfl) (by decide) (by decide) ⟨o_1, z43, by rw [b2_t (by trivial)], kp_42, by omega, sb_o_1, ge_o_1, f_43, f_44, f_45, f_46, f_47, f_39, f_40, f_41⟩
theorem d4_0 : decode prog_55_method_3_code 0 = .ok (.aload_n 1, 1) := by decide +kernel
theorem d4_1 : decode prog_55_method_3_code 1 = .ok (.getfield 18, 3) := by decide +kernel
theorem d4_4 : decode prog_55_method_3_code 4 = .ok (.ifnonnull 4, 3) := by decide +kernel
theorem d4_7 : decode prog_55_method_3_code 7 = .ok (.return_, 1) := by decide +kernel
set_option maxRecDepth 65536 in
set_option maxHeartbeats 40000000 in
theorem c_mvE (l : Launch) (Z : State) (a0 : Array Value) (hw : ∀ d ∈ tables_1, d.before a0 Z = true) (n0 : Nat) (h : Heap) (a : Addr) (b : Addr) (P1 : Exa Z h b sC) (P2 : Fld Z h b sC "first" dL .null) : MeetsW l Z n0 (⟨sC, "moveAll", "(Lcom/example/quadrille/quadrille/formats/Chain;)V"⟩ : MethodName) prog_55_method_3_code 2 none ({ frames := 0, cells := 0, slots := 0, locals := 0 } : Room) #[(.ref a), (.ref b)] h (fun v h' => v = none ∧ h = h') := by
  refine MeetsW.intro (plainFor_of_name pn_com_example_quadrille_quadrille_formats_Chain) (L0 := #[vr a, vr b]) (fun m => by first | (simp [entryFrame, mkF, argsToLocals, Value.category]; done) | rfl) ?_
  intro m G K0
  have K : Cx l ({ frames := 0, cells := 0, slots := 0, locals := 0 } : Room) Z n0 _ sC "moveAll" prog_55_method_3_code 2 none m G := K0
  have hw20 := hw _ (List.mem_of_getElem? (i := 20) rfl)
  refine K.aloadN d4_0 (pc' := 1) rfl rfl rfl ?_
  refine K.getf d4_1 (pc' := 4) rfl (host := "") (Or.inl hw20) Via.refl P2 ?_
  refine K.ifnonnull0 d4_4 (pc' := 7) rfl ?_
  exact K.ret0 d4_7 (by decide) (by decide) ⟨rfl, rfl⟩
theorem d4_8 : decode prog_55_method_3_code 8 = .ok (.aload_n 0, 1) := by decide +kernel
theorem d4_9 : decode prog_55_method_3_code 9 = .ok (.getfield 12, 3) := by decide +kernel
theorem d4_12 : decode prog_55_method_3_code 12 = .ok (.ifnonnull 14, 3) := by decide +kernel
theorem d4_15 : decode prog_55_method_3_code 15 = .ok (.aload_n 0, 1) := by decide +kernel
theorem d4_16 : decode prog_55_method_3_code 16 = .ok (.aload_n 1, 1) := by decide +kernel
theorem d4_17 : decode prog_55_method_3_code 17 = .ok (.getfield 18, 3) := by decide +kernel
theorem d4_20 : decode prog_55_method_3_code 20 = .ok (.putfield 18, 3) := by decide +kernel
theorem d4_23 : decode prog_55_method_3_code 23 = .ok (.goto 14, 3) := by decide +kernel
theorem d4_37 : decode prog_55_method_3_code 37 = .ok (.aload_n 0, 1) := by decide +kernel
theorem d4_38 : decode prog_55_method_3_code 38 = .ok (.aload_n 1, 1) := by decide +kernel
theorem d4_39 : decode prog_55_method_3_code 39 = .ok (.getfield 12, 3) := by decide +kernel
theorem d4_42 : decode prog_55_method_3_code 42 = .ok (.putfield 12, 3) := by decide +kernel
theorem d4_45 : decode prog_55_method_3_code 45 = .ok (.aload_n 0, 1) := by decide +kernel
theorem d4_46 : decode prog_55_method_3_code 46 = .ok (.dup, 1) := by decide +kernel
theorem d4_47 : decode prog_55_method_3_code 47 = .ok (.getfield 24, 3) := by decide +kernel
theorem d4_50 : decode prog_55_method_3_code 50 = .ok (.aload_n 1, 1) := by decide +kernel
theorem d4_51 : decode prog_55_method_3_code 51 = .ok (.getfield 24, 3) := by decide +kernel
theorem d4_54 : decode prog_55_method_3_code 54 = .ok (.iadd, 1) := by decide +kernel
theorem d4_55 : decode prog_55_method_3_code 55 = .ok (.putfield 24, 3) := by decide +kernel
theorem d4_58 : decode prog_55_method_3_code 58 = .ok (.aload_n 1, 1) := by decide +kernel
theorem d4_59 : decode prog_55_method_3_code 59 = .ok (.aconst_null, 1) := by decide +kernel
theorem d4_60 : decode prog_55_method_3_code 60 = .ok (.putfield 18, 3) := by decide +kernel
theorem d4_63 : decode prog_55_method_3_code 63 = .ok (.aload_n 1, 1) := by decide +kernel
theorem d4_64 : decode prog_55_method_3_code 64 = .ok (.aconst_null, 1) := by decide +kernel
theorem d4_65 : decode prog_55_method_3_code 65 = .ok (.putfield 12, 3) := by decide +kernel
theorem d4_68 : decode prog_55_method_3_code 68 = .ok (.aload_n 1, 1) := by decide +kernel
theorem d4_69 : decode prog_55_method_3_code 69 = .ok (.iconst 0, 1) := by decide +kernel
theorem d4_70 : decode prog_55_method_3_code 70 = .ok (.putfield 24, 3) := by decide +kernel
theorem d4_73 : decode prog_55_method_3_code 73 = .ok (.return_, 1) := by decide +kernel
set_option maxRecDepth 65536 in
set_option maxHeartbeats 40000000 in
theorem c_mv0 (l : Launch) (Z : State) (a0 : Array Value) (hw : ∀ d ∈ tables_1, d.before a0 Z = true) (n0 : Nat) (h : Heap) (a : Addr) (b : Addr) (n : Int32) (k : Int32) (f1 : Addr) (l1 : Addr) (P1 : Exa Z h a sC) (P2 : n0 ≤ a) (P3 : Exa Z h b sC) (P4 : n0 ≤ b) (P5 : a ≠ b) (P6 : Fld Z h a sC "first" dL .null) (P7 : Fld Z h a sC "last" dL .null) (P8 : Fld Z h a sC "size" "I" (.int n)) (P9 : Fld Z h b sC "first" dL (.ref f1)) (P10 : Fld Z h b sC "last" dL (.ref l1)) (P11 : Fld Z h b sC "size" "I" (.int k)) (hn : 0 ≤ n.toInt ∧ n.toInt < 100) (hk : 0 ≤ k.toInt ∧ k.toInt < 100) : MeetsW l Z n0 (⟨sC, "moveAll", "(Lcom/example/quadrille/quadrille/formats/Chain;)V"⟩ : MethodName) prog_55_method_3_code 2 none ({ frames := 0, cells := 0, slots := 0, locals := 0 } : Room) #[(.ref a), (.ref b)] h (fun v h' => ∃ (n1 : Int32), v = none ∧ Keep h h' [a, b] ∧ (n1.toInt = n.toInt + k.toInt) ∧ Fld Z h' a sC "first" dL (.ref f1) ∧ Fld Z h' a sC "last" dL (.ref l1) ∧ Fld Z h' a sC "size" "I" (.int n1) ∧ Fld Z h' b sC "first" dL .null ∧ Fld Z h' b sC "last" dL .null ∧ Fld Z h' b sC "size" "I" (.int (0 : Int32))) := by
  refine MeetsW.intro (plainFor_of_name pn_com_example_quadrille_quadrille_formats_Chain) (L0 := #[vr a, vr b]) (fun m => by first | (simp [entryFrame, mkF, argsToLocals, Value.category]; done) | rfl) ?_
  intro m G K0
  have K : Cx l ({ frames := 0, cells := 0, slots := 0, locals := 0 } : Room) Z n0 _ sC "moveAll" prog_55_method_3_code 2 none m G := K0
  have hw2 := hw _ (List.mem_of_getElem? (i := 2) rfl)
  have hw20 := hw _ (List.mem_of_getElem? (i := 20) rfl)
  have hw21 := hw _ (List.mem_of_getElem? (i := 21) rfl)
  have hw27 := hw _ (List.mem_of_getElem? (i := 27) rfl)
  have hw28 := hw _ (List.mem_of_getElem? (i := 28) rfl)
  have hw76 := hw _ (List.mem_of_getElem? (i := 76) rfl)
  have hw77 := hw _ (List.mem_of_getElem? (i := 77) rfl)
  refine K.aloadN d4_0 (pc' := 1) rfl rfl rfl ?_
  refine K.getf d4_1 (pc' := 4) rfl (host := "") (Or.inl hw20) Via.refl P9 ?_
  refine K.ifnonnull1 d4_4 (by decide) (pc2 := 8) (by decide) ?_
  refine K.aloadN d4_8 (pc' := 9) rfl rfl rfl ?_
  refine K.getf d4_9 (pc' := 12) rfl (host := "") (Or.inl hw76) Via.refl P7 ?_
  refine K.ifnonnull0 d4_12 (pc' := 15) rfl ?_
  refine K.aloadN d4_15 (pc' := 16) rfl rfl rfl ?_
  refine K.aloadN d4_16 (pc' := 17) rfl rfl rfl ?_
  refine K.getf d4_17 (pc' := 20) rfl (host := "") (Or.inl hw20) Via.refl P9 ?_
  refine K.putf d4_20 (pc' := 23) rfl (host := "") (Or.inl hw20) Via.refl P6 P1 (Or.inl hw21) hw2 (ty := (.object sL)) (by decide) rfl rfl P2 (fun h_1 W_2 => ?_)
  have f_3 : Fld Z h_1 a sC "first" dL (.ref f1) := P6.same W_2
  have f_4 : Fld Z h_1 a sC "last" dL .null := P7.other W_2 (Or.inr (slot_ne (Or.inl hw77) (Or.inl hw21) (by decide) (t := (.object sL)) (t' := (.object sL)) (by decide) (by decide)))
  have f_5 : Fld Z h_1 a sC "size" "I" (.int n) := P8.other W_2 (Or.inr (slot_ne (Or.inl hw28) (Or.inl hw21) (by decide) (t := .int) (t' := (.object sL)) (by decide) (by decide)))
  have kp_6 : Keep h h_1 [a, b] := (Keep.refl h [a, b]).wr W_2 (Or.inl (by simp))
  refine K.goto d4_23 (by decide) (pc' := 37) (by decide) ?_
  refine K.aloadN d4_37 (pc' := 38) rfl rfl rfl ?_
  refine K.aloadN d4_38 (pc' := 39) rfl rfl rfl ?_
  have f_7 : Fld Z h_1 b sC "last" dL (.ref l1) := (P10.other W_2 (Or.inl (Ne.symm P5)))
  refine K.getf d4_39 (pc' := 42) rfl (host := "") (Or.inl hw76) Via.refl f_7 ?_
  have f_8 : Exa Z h_1 a sC := (P1.wr W_2)
  refine K.putf d4_42 (pc' := 45) rfl (host := "") (Or.inl hw76) Via.refl f_4 f_8 (Or.inl hw77) hw2 (ty := (.object sL)) (by decide) rfl rfl P2 (fun h_9 W_10 => ?_)
  have f_11 : Fld Z h_9 a sC "first" dL (.ref f1) := f_3.other W_10 (Or.inr (slot_ne (Or.inl hw21) (Or.inl hw77) (by decide) (t := (.object sL)) (t' := (.object sL)) (by decide) (by decide)))
  have f_12 : Fld Z h_9 a sC "last" dL (.ref l1) := f_4.same W_10
  have f_13 : Fld Z h_9 a sC "size" "I" (.int n) := f_5.other W_10 (Or.inr (slot_ne (Or.inl hw28) (Or.inl hw77) (by decide) (t := .int) (t' := (.object sL)) (by decide) (by decide)))
  have kp_14 : Keep h h_9 [a, b] := kp_6.wr W_10 (Or.inl (by simp))
  refine K.aloadN d4_45 (pc' := 46) rfl rfl rfl ?_
  refine K.dup d4_46 (pc' := 47) rfl rfl ?_
  refine K.getf d4_47 (pc' := 50) rfl (host := "") (Or.inl hw27) Via.refl f_13 ?_
  refine K.aloadN d4_50 (pc' := 51) rfl rfl rfl ?_
  have f_15 : Fld Z h_9 b sC "size" "I" (.int k) := ((P11.other W_2 (Or.inl (Ne.symm P5))).other W_10 (Or.inl (Ne.symm P5)))
  refine K.getf d4_51 (pc' := 54) rfl (host := "") (Or.inl hw27) Via.refl f_15 ?_
  obtain ⟨z54, e_z54⟩ : ∃ z, n + k = z := ⟨_, rfl⟩
  have r_z54 : (z54.toInt - (n.toInt + k.toInt)) % 4294967296 = 0 := by have q := c_iadd n k; rw [e_z54] at q; exact q
  have g_z54 := rng32 z54
  refine K.iadd d4_54 (pc' := 55) rfl e_z54 ?_
  have f_16 : Exa Z h_9 a sC := (f_8.wr W_10)
  refine K.putf d4_55 (pc' := 58) rfl (host := "") (Or.inl hw27) Via.refl f_13 f_16 (Or.inl hw28) hw2 (ty := .int) (by decide) rfl rfl P2 (fun h_17 W_18 => ?_)
  have f_19 : Fld Z h_17 a sC "first" dL (.ref f1) := f_11.other W_18 (Or.inr (slot_ne (Or.inl hw21) (Or.inl hw28) (by decide) (t := (.object sL)) (t' := .int) (by decide) (by decide)))
  have f_20 : Fld Z h_17 a sC "last" dL (.ref l1) := f_12.other W_18 (Or.inr (slot_ne (Or.inl hw77) (Or.inl hw28) (by decide) (t := (.object sL)) (t' := .int) (by decide) (by decide)))
  have f_21 : Fld Z h_17 a sC "size" "I" (.int z54) := f_13.same W_18
  have kp_22 : Keep h h_17 [a, b] := kp_14.wr W_18 (Or.inl (by simp))
  refine K.aloadN d4_58 (pc' := 59) rfl rfl rfl ?_
  refine K.anull d4_59 (pc' := 60) rfl ?_
  have f_23 : Fld Z h_17 b sC "first" dL (.ref f1) := (((P9.other W_2 (Or.inl (Ne.symm P5))).other W_10 (Or.inl (Ne.symm P5))).other W_18 (Or.inl (Ne.symm P5)))
  have f_24 : Exa Z h_17 b sC := (((P3.wr W_2).wr W_10).wr W_18)
  refine K.putf d4_60 (pc' := 63) rfl (host := "") (Or.inl hw20) Via.refl f_23 f_24 (Or.inl hw21) hw2 (ty := (.object sL)) (by decide) rfl rfl P4 (fun h_25 W_26 => ?_)
  have f_27 : Fld Z h_17 b sC "last" dL (.ref l1) := ((f_7.other W_10 (Or.inl (Ne.symm P5))).other W_18 (Or.inl (Ne.symm P5)))
  have f_28 : Fld Z h_17 b sC "size" "I" (.int k) := (f_15.other W_18 (Or.inl (Ne.symm P5)))
  have f_29 : Fld Z h_25 b sC "first" dL .null := f_23.same W_26
  have f_30 : Fld Z h_25 b sC "last" dL (.ref l1) := f_27.other W_26 (Or.inr (slot_ne (Or.inl hw77) (Or.inl hw21) (by decide) (t := (.object sL)) (t' := (.object sL)) (by decide) (by decide)))
  have f_31 : Fld Z h_25 b sC "size" "I" (.int k) := f_28.other W_26 (Or.inr (slot_ne (Or.inl hw28) (Or.inl hw21) (by decide) (t := .int) (t' := (.object sL)) (by decide) (by decide)))
  have kp_32 : Keep h h_25 [a, b] := kp_22.wr W_26 (Or.inl (by simp))
  refine K.aloadN d4_63 (pc' := 64) rfl rfl rfl ?_
  refine K.anull d4_64 (pc' := 65) rfl ?_
  have f_33 : Exa Z h_25 b sC := (f_24.wr W_26)
  refine K.putf d4_65 (pc' := 68) rfl (host := "") (Or.inl hw76) Via.refl f_30 f_33 (Or.inl hw77) hw2 (ty := (.object sL)) (by decide) rfl rfl P4 (fun h_34 W_35 => ?_)
  have f_36 : Fld Z h_34 b sC "first" dL .null := f_29.other W_35 (Or.inr (slot_ne (Or.inl hw21) (Or.inl hw77) (by decide) (t := (.object sL)) (t' := (.object sL)) (by decide) (by decide)))
  have f_37 : Fld Z h_34 b sC "last" dL .null := f_30.same W_35
  have f_38 : Fld Z h_34 b sC "size" "I" (.int k) := f_31.other W_35 (Or.inr (slot_ne (Or.inl hw28) (Or.inl hw77) (by decide) (t := .int) (t' := (.object sL)) (by decide) (by decide)))
  have kp_39 : Keep h h_34 [a, b] := kp_32.wr W_35 (Or.inl (by simp))
  refine K.aloadN d4_68 (pc' := 69) rfl rfl rfl ?_
  refine K.iconst d4_69 (pc' := 70) rfl (z := 0) rfl ?_
  have f_40 : Exa Z h_34 b sC := (f_33.wr W_35)
  refine K.putf d4_70 (pc' := 73) rfl (host := "") (Or.inl hw27) Via.refl f_38 f_40 (Or.inl hw28) hw2 (ty := .int) (by decide) rfl rfl P4 (fun h_41 W_42 => ?_)
  have f_43 : Fld Z h_41 b sC "first" dL .null := f_36.other W_42 (Or.inr (slot_ne (Or.inl hw21) (Or.inl hw28) (by decide) (t := (.object sL)) (t' := .int) (by decide) (by decide)))
  have f_44 : Fld Z h_41 b sC "last" dL .null := f_37.other W_42 (Or.inr (slot_ne (Or.inl hw77) (Or.inl hw28) (by decide) (t := (.object sL)) (t' := .int) (by decide) (by decide)))
  have f_45 : Fld Z h_41 b sC "size" "I" (.int (0 : Int32)) := f_38.same W_42
  have kp_46 : Keep h h_41 [a, b] := kp_39.wr W_42 (Or.inl (by simp))
  have f_47 : Fld Z h_41 a sC "size" "I" (.int z54) := (((f_21.other W_26 (Or.inl P5)).other W_35 (Or.inl P5)).other W_42 (Or.inl P5))
  have f_48 : Fld Z h_41 a sC "first" dL (.ref f1) := (((f_19.other W_26 (Or.inl P5)).other W_35 (Or.inl P5)).other W_42 (Or.inl P5))
  have f_49 : Fld Z h_41 a sC "last" dL (.ref l1) := (((f_20.other W_26 (Or.inl P5)).other W_35 (Or.inl P5)).other W_42 (Or.inl P5))
  exact K.ret0 d4_73 (by decide) (by decide) ⟨z54, rfl, kp_46, by omega, f_48, f_49, f_47, f_43, f_44, f_45⟩
theorem d4_26 : decode prog_55_method_3_code 26 = .ok (.aload_n 0, 1) := by decide +kernel
theorem d4_27 : decode prog_55_method_3_code 27 = .ok (.getfield 12, 3) := by decide +kernel
theorem d4_30 : decode prog_55_method_3_code 30 = .ok (.aload_n 1, 1) := by decide +kernel
theorem d4_31 : decode prog_55_method_3_code 31 = .ok (.getfield 18, 3) := by decide +kernel
theorem d4_34 : decode prog_55_method_3_code 34 = .ok (.putfield 21, 3) := by decide +kernel
set_option maxRecDepth 65536 in
set_option maxHeartbeats 40000000 in
theorem c_mv1 (l : Launch) (Z : State) (a0 : Array Value) (hw : ∀ d ∈ tables_1, d.before a0 Z = true) (n0 : Nat) (h : Heap) (a : Addr) (b : Addr) (n : Int32) (k : Int32) (f0 : Addr) (t : Addr) (te : Addr) (f1 : Addr) (l1 : Addr) (P1 : Exa Z h a sC) (P2 : n0 ≤ a) (P3 : Exa Z h b sC) (P4 : n0 ≤ b) (P5 : a ≠ b) (P6 : Exa Z h t sL) (P7 : n0 ≤ t) (P8 : t ≠ a) (P9 : t ≠ b) (P10 : Fld Z h t sL "next" dL .null) (P11 : Fld Z h t sL "element" "Ljava/lang/Object;" (.ref te)) (P12 : Fld Z h a sC "first" dL (.ref f0)) (P13 : Fld Z h a sC "last" dL (.ref t)) (P14 : Fld Z h a sC "size" "I" (.int n)) (P15 : Fld Z h b sC "first" dL (.ref f1)) (P16 : Fld Z h b sC "last" dL (.ref l1)) (P17 : Fld Z h b sC "size" "I" (.int k)) (hn : 0 ≤ n.toInt ∧ n.toInt < 100) (hk : 0 ≤ k.toInt ∧ k.toInt < 100) : MeetsW l Z n0 (⟨sC, "moveAll", "(Lcom/example/quadrille/quadrille/formats/Chain;)V"⟩ : MethodName) prog_55_method_3_code 2 none ({ frames := 0, cells := 0, slots := 0, locals := 0 } : Room) #[(.ref a), (.ref b)] h (fun v h' => ∃ (n1 : Int32), v = none ∧ Keep h h' [a, b, t] ∧ (n1.toInt = n.toInt + k.toInt) ∧ Fld Z h' t sL "next" dL (.ref f1) ∧ Fld Z h' t sL "element" "Ljava/lang/Object;" (.ref te) ∧ Fld Z h' a sC "first" dL (.ref f0) ∧ Fld Z h' a sC "last" dL (.ref l1) ∧ Fld Z h' a sC "size" "I" (.int n1) ∧ Fld Z h' b sC "first" dL .null ∧ Fld Z h' b sC "last" dL .null ∧ Fld Z h' b sC "size" "I" (.int (0 : Int32))) := by
  refine MeetsW.intro (plainFor_of_name pn_com_example_quadrille_quadrille_formats_Chain) (L0 := #[vr a, vr b]) (fun m => by first | (simp [entryFrame, mkF, argsToLocals, Value.category]; done) | rfl) ?_
  intro m G K0
  have K : Cx l ({ frames := 0, cells := 0, slots := 0, locals := 0 } : Room) Z n0 _ sC "moveAll" prog_55_method_3_code 2 none m G := K0
  have hw2 := hw _ (List.mem_of_getElem? (i := 2) rfl)
  have hw20 := hw _ (List.mem_of_getElem? (i := 20) rfl)
  have hw21 := hw _ (List.mem_of_getElem? (i := 21) rfl)
  have hw27 := hw _ (List.mem_of_getElem? (i := 27) rfl)
  have hw28 := hw _ (List.mem_of_getElem? (i := 28) rfl)
  have hw68 := hw _ (List.mem_of_getElem? (i := 68) rfl)
  have hw75 := hw _ (List.mem_of_getElem? (i := 75) rfl)
  have hw76 := hw _ (List.mem_of_getElem? (i := 76) rfl)
  have hw77 := hw _ (List.mem_of_getElem? (i := 77) rfl)
  have hw92 := hw _ (List.mem_of_getElem? (i := 92) rfl)
  have hw103 := hw _ (List.mem_of_getElem? (i := 103) rfl)
  refine K.aloadN d4_0 (pc' := 1) rfl rfl rfl ?_
  refine K.getf d4_1 (pc' := 4) rfl (host := "") (Or.inl hw20) Via.refl P15 ?_
  refine K.ifnonnull1 d4_4 (by decide) (pc2 := 8) (by decide) ?_
  refine K.aloadN d4_8 (pc' := 9) rfl rfl rfl ?_
  refine K.getf d4_9 (pc' := 12) rfl (host := "") (Or.inl hw76) Via.refl P13 ?_
  refine K.ifnonnull1 d4_12 (by decide) (pc2 := 26) (by decide) ?_
  refine K.aloadN d4_26 (pc' := 27) rfl rfl rfl ?_
  refine K.getf d4_27 (pc' := 30) rfl (host := "") (Or.inl hw76) Via.refl P13 ?_
  refine K.aloadN d4_30 (pc' := 31) rfl rfl rfl ?_
  refine K.getf d4_31 (pc' := 34) rfl (host := "") (Or.inl hw20) Via.refl P15 ?_
  refine K.putfR d4_34 (pc' := 37) rfl hw103 P10 P6 hw92 hw68 (ty := (.object sL)) (by decide) rfl rfl P7 (fun h_1 W_2 => ?_)
  have f_3 : Fld Z h_1 t sL "next" dL (.ref f1) := P10.same W_2
  have f_4 : Fld Z h_1 t sL "element" "Ljava/lang/Object;" (.ref te) := P11.other W_2 (Or.inr (slot_ne (Or.inr hw75) (Or.inl hw92) (by decide) (t := (.object "java/lang/Object")) (t' := (.object sL)) (by decide) (by decide)))
  have kp_5 : Keep h h_1 [a, b, t] := (Keep.refl h [a, b, t]).wr W_2 (Or.inl (by simp))
  refine K.aloadN d4_37 (pc' := 38) rfl rfl rfl ?_
  refine K.aloadN d4_38 (pc' := 39) rfl rfl rfl ?_
  have f_6 : Fld Z h_1 b sC "last" dL (.ref l1) := (P16.other W_2 (Or.inl (Ne.symm P9)))
  refine K.getf d4_39 (pc' := 42) rfl (host := "") (Or.inl hw76) Via.refl f_6 ?_
  have f_7 : Fld Z h_1 a sC "last" dL (.ref t) := (P13.other W_2 (Or.inl (Ne.symm P8)))
  have f_8 : Exa Z h_1 a sC := (P1.wr W_2)
  refine K.putf d4_42 (pc' := 45) rfl (host := "") (Or.inl hw76) Via.refl f_7 f_8 (Or.inl hw77) hw2 (ty := (.object sL)) (by decide) rfl rfl P2 (fun h_9 W_10 => ?_)
  have f_11 : Fld Z h_1 a sC "first" dL (.ref f0) := (P12.other W_2 (Or.inl (Ne.symm P8)))
  have f_12 : Fld Z h_1 a sC "size" "I" (.int n) := (P14.other W_2 (Or.inl (Ne.symm P8)))
  have f_13 : Fld Z h_9 a sC "first" dL (.ref f0) := f_11.other W_10 (Or.inr (slot_ne (Or.inl hw21) (Or.inl hw77) (by decide) (t := (.object sL)) (t' := (.object sL)) (by decide) (by decide)))
  have f_14 : Fld Z h_9 a sC "last" dL (.ref l1) := f_7.same W_10
  have f_15 : Fld Z h_9 a sC "size" "I" (.int n) := f_12.other W_10 (Or.inr (slot_ne (Or.inl hw28) (Or.inl hw77) (by decide) (t := .int) (t' := (.object sL)) (by decide) (by decide)))
  have kp_16 : Keep h h_9 [a, b, t] := kp_5.wr W_10 (Or.inl (by simp))
  refine K.aloadN d4_45 (pc' := 46) rfl rfl rfl ?_
  refine K.dup d4_46 (pc' := 47) rfl rfl ?_
  refine K.getf d4_47 (pc' := 50) rfl (host := "") (Or.inl hw27) Via.refl f_15 ?_
  refine K.aloadN d4_50 (pc' := 51) rfl rfl rfl ?_
  have f_17 : Fld Z h_9 b sC "size" "I" (.int k) := ((P17.other W_2 (Or.inl (Ne.symm P9))).other W_10 (Or.inl (Ne.symm P5)))
  refine K.getf d4_51 (pc' := 54) rfl (host := "") (Or.inl hw27) Via.refl f_17 ?_
  obtain ⟨z54, e_z54⟩ : ∃ z, n + k = z := ⟨_, rfl⟩
  have r_z54 : (z54.toInt - (n.toInt + k.toInt)) % 4294967296 = 0 := by have q := c_iadd n k; rw [e_z54] at q; exact q
  have g_z54 := rng32 z54
  refine K.iadd d4_54 (pc' := 55) rfl e_z54 ?_
  have f_18 : Exa Z h_9 a sC := (f_8.wr W_10)
  refine K.putf d4_55 (pc' := 58) rfl (host := "") (Or.inl hw27) Via.refl f_15 f_18 (Or.inl hw28) hw2 (ty := .int) (by decide) rfl rfl P2 (fun h_19 W_20 => ?_)
  have f_21 : Fld Z h_19 a sC "first" dL (.ref f0) := f_13.other W_20 (Or.inr (slot_ne (Or.inl hw21) (Or.inl hw28) (by decide) (t := (.object sL)) (t' := .int) (by decide) (by decide)))
  have f_22 : Fld Z h_19 a sC "last" dL (.ref l1) := f_14.other W_20 (Or.inr (slot_ne (Or.inl hw77) (Or.inl hw28) (by decide) (t := (.object sL)) (t' := .int) (by decide) (by decide)))
  have f_23 : Fld Z h_19 a sC "size" "I" (.int z54) := f_15.same W_20
  have kp_24 : Keep h h_19 [a, b, t] := kp_16.wr W_20 (Or.inl (by simp))
  refine K.aloadN d4_58 (pc' := 59) rfl rfl rfl ?_
  refine K.anull d4_59 (pc' := 60) rfl ?_
  have f_25 : Fld Z h_19 b sC "first" dL (.ref f1) := (((P15.other W_2 (Or.inl (Ne.symm P9))).other W_10 (Or.inl (Ne.symm P5))).other W_20 (Or.inl (Ne.symm P5)))
  have f_26 : Exa Z h_19 b sC := (((P3.wr W_2).wr W_10).wr W_20)
  refine K.putf d4_60 (pc' := 63) rfl (host := "") (Or.inl hw20) Via.refl f_25 f_26 (Or.inl hw21) hw2 (ty := (.object sL)) (by decide) rfl rfl P4 (fun h_27 W_28 => ?_)
  have f_29 : Fld Z h_19 b sC "last" dL (.ref l1) := ((f_6.other W_10 (Or.inl (Ne.symm P5))).other W_20 (Or.inl (Ne.symm P5)))
  have f_30 : Fld Z h_19 b sC "size" "I" (.int k) := (f_17.other W_20 (Or.inl (Ne.symm P5)))
  have f_31 : Fld Z h_27 b sC "first" dL .null := f_25.same W_28
  have f_32 : Fld Z h_27 b sC "last" dL (.ref l1) := f_29.other W_28 (Or.inr (slot_ne (Or.inl hw77) (Or.inl hw21) (by decide) (t := (.object sL)) (t' := (.object sL)) (by decide) (by decide)))
  have f_33 : Fld Z h_27 b sC "size" "I" (.int k) := f_30.other W_28 (Or.inr (slot_ne (Or.inl hw28) (Or.inl hw21) (by decide) (t := .int) (t' := (.object sL)) (by decide) (by decide)))
  have kp_34 : Keep h h_27 [a, b, t] := kp_24.wr W_28 (Or.inl (by simp))
  refine K.aloadN d4_63 (pc' := 64) rfl rfl rfl ?_
  refine K.anull d4_64 (pc' := 65) rfl ?_
  have f_35 : Exa Z h_27 b sC := (f_26.wr W_28)
  refine K.putf d4_65 (pc' := 68) rfl (host := "") (Or.inl hw76) Via.refl f_32 f_35 (Or.inl hw77) hw2 (ty := (.object sL)) (by decide) rfl rfl P4 (fun h_36 W_37 => ?_)
  have f_38 : Fld Z h_36 b sC "first" dL .null := f_31.other W_37 (Or.inr (slot_ne (Or.inl hw21) (Or.inl hw77) (by decide) (t := (.object sL)) (t' := (.object sL)) (by decide) (by decide)))
  have f_39 : Fld Z h_36 b sC "last" dL .null := f_32.same W_37
  have f_40 : Fld Z h_36 b sC "size" "I" (.int k) := f_33.other W_37 (Or.inr (slot_ne (Or.inl hw28) (Or.inl hw77) (by decide) (t := .int) (t' := (.object sL)) (by decide) (by decide)))
  have kp_41 : Keep h h_36 [a, b, t] := kp_34.wr W_37 (Or.inl (by simp))
  refine K.aloadN d4_68 (pc' := 69) rfl rfl rfl ?_
  refine K.iconst d4_69 (pc' := 70) rfl (z := 0) rfl ?_
  have f_42 : Exa Z h_36 b sC := (f_35.wr W_37)
  refine K.putf d4_70 (pc' := 73) rfl (host := "") (Or.inl hw27) Via.refl f_40 f_42 (Or.inl hw28) hw2 (ty := .int) (by decide) rfl rfl P4 (fun h_43 W_44 => ?_)
  have f_45 : Fld Z h_43 b sC "first" dL .null := f_38.other W_44 (Or.inr (slot_ne (Or.inl hw21) (Or.inl hw28) (by decide) (t := (.object sL)) (t' := .int) (by decide) (by decide)))
  have f_46 : Fld Z h_43 b sC "last" dL .null := f_39.other W_44 (Or.inr (slot_ne (Or.inl hw77) (Or.inl hw28) (by decide) (t := (.object sL)) (t' := .int) (by decide) (by decide)))
  have f_47 : Fld Z h_43 b sC "size" "I" (.int (0 : Int32)) := f_40.same W_44
  have kp_48 : Keep h h_43 [a, b, t] := kp_41.wr W_44 (Or.inl (by simp))
  have f_49 : Fld Z h_43 a sC "size" "I" (.int z54) := (((f_23.other W_28 (Or.inl P5)).other W_37 (Or.inl P5)).other W_44 (Or.inl P5))
  have f_50 : Fld Z h_43 t sL "next" dL (.ref f1) := (((((f_3.other W_10 (Or.inl P8)).other W_20 (Or.inl P8)).other W_28 (Or.inl P9)).other W_37 (Or.inl P9)).other W_44 (Or.inl P9))
  have f_51 : Fld Z h_43 t sL "element" "Ljava/lang/Object;" (.ref te) := (((((f_4.other W_10 (Or.inl P8)).other W_20 (Or.inl P8)).other W_28 (Or.inl P9)).other W_37 (Or.inl P9)).other W_44 (Or.inl P9))
  have f_52 : Fld Z h_43 a sC "first" dL (.ref f0) := (((f_21.other W_28 (Or.inl P5)).other W_37 (Or.inl P5)).other W_44 (Or.inl P5))
  have f_53 : Fld Z h_43 a sC "last" dL (.ref l1) := (((f_22.other W_28 (Or.inl P5)).other W_37 (Or.inl P5)).other W_44 (Or.inl P5))
  exact K.ret0 d4_73 (by decide) (by decide) ⟨z54, rfl, kp_48, by omega, f_50, f_51, f_52, f_53, f_49, f_45, f_46, f_47⟩
theorem d5_0 : decode prog_55_method_5_code 0 = .ok (.aload_n 0, 1) := by decide +kernel
theorem d5_1 : decode prog_55_method_5_code 1 = .ok (.getfield 24, 3) := by decide +kernel
theorem d5_4 : decode prog_55_method_5_code 4 = .ok (.ireturn, 1) := by decide +kernel
set_option maxRecDepth 65536 in
set_option maxHeartbeats 40000000 in
theorem c_size (l : Launch) (Z : State) (a0 : Array Value) (hw : ∀ d ∈ tables_1, d.before a0 Z = true) (n0 : Nat) (h : Heap) (a : Addr) (n : Int32) (P1 : Exa Z h a sC) (P2 : Fld Z h a sC "size" "I" (.int n)) : MeetsW l Z n0 (⟨sC, "size", "()I"⟩ : MethodName) prog_55_method_5_code 1 (some .int) ({ frames := 0, cells := 0, slots := 0, locals := 0 } : Room) #[(.ref a)] h (fun v h' => v = some (.int n) ∧ h = h') := by
  refine MeetsW.intro (plainFor_of_name pn_com_example_quadrille_quadrille_formats_Chain) (L0 := #[vr a]) (fun m => by first | (simp [entryFrame, mkF, argsToLocals, Value.category]; done) | rfl) ?_
  intro m G K0
  have K : Cx l ({ frames := 0, cells := 0, slots := 0, locals := 0 } : Room) Z n0 _ sC "size" prog_55_method_5_code 1 (some .int) m G := K0
  have hw27 := hw _ (List.mem_of_getElem? (i := 27) rfl)
  refine K.aloadN d5_0 (pc' := 1) rfl rfl rfl ?_
  refine K.getf d5_1 (pc' := 4) rfl (host := "") (Or.inl hw27) Via.refl P2 ?_
  exact K.reti d5_4 (by decide) (by decide) ⟨rfl, rfl⟩
theorem d7_0 : decode prog_56_method_1_code 0 = .ok (.aload_n 0, 1) := by decide +kernel
theorem d7_1 : decode prog_56_method_1_code 1 = .ok (.aload_n 1, 1) := by decide +kernel
theorem d7_2 : decode prog_56_method_1_code 2 = .ok (.putfield 1, 3) := by decide +kernel
theorem d7_5 : decode prog_56_method_1_code 5 = .ok (.aload_n 0, 1) := by decide +kernel
theorem d7_6 : decode prog_56_method_1_code 6 = .ok (.invokespecial 7, 3) := by decide +kernel
theorem d7_9 : decode prog_56_method_1_code 9 = .ok (.aload_n 0, 1) := by decide +kernel
theorem d7_10 : decode prog_56_method_1_code 10 = .ok (.aload_n 0, 1) := by decide +kernel
theorem d7_11 : decode prog_56_method_1_code 11 = .ok (.getfield 1, 3) := by decide +kernel
theorem d7_14 : decode prog_56_method_1_code 14 = .ok (.getfield 13, 3) := by decide +kernel
theorem d7_17 : decode prog_56_method_1_code 17 = .ok (.putfield 19, 3) := by decide +kernel
theorem d7_20 : decode prog_56_method_1_code 20 = .ok (.return_, 1) := by decide +kernel
theorem pn_com_example_quadrille_quadrille_formats_Chain_1 : plainName sI = true := by first | (simp [plainName, overriddenIn]; done) | decide +kernel
set_option maxRecDepth 65536 in
set_option maxHeartbeats 40000000 in
theorem c_in0 (l : Launch) (Z : State) (a0 : Array Value) (hw : ∀ d ∈ tables_1, d.before a0 Z = true) (n0 : Nat) (h : Heap) (a : Addr) (b : Addr) (P1 : Exa Z h a sI) (P2 : n0 ≤ a) (P3 : b ≠ a) (P4 : Fld Z h a sI "this$0" "Lcom/example/quadrille/quadrille/formats/Chain;" .null) (P5 : Fld Z h a sI "next" dL .null) (P6 : Exa Z h b sC) (P7 : Fld Z h b sC "first" dL .null) : MeetsW l Z n0 (⟨sI, "<init>", "(Lcom/example/quadrille/quadrille/formats/Chain;)V"⟩ : MethodName) prog_56_method_1_code 2 none ({ frames := 1, cells := 0, slots := 0, locals := 12 } : Room) #[(.ref a), (.ref b)] h (fun v h' => v = none ∧ Keep h h' [a] ∧ Fld Z h' a sI "next" dL .null) := by
  refine MeetsW.intro (plainFor_of_name pn_com_example_quadrille_quadrille_formats_Chain_1) (L0 := #[vr a, vr b]) (fun m => by first | (simp [entryFrame, mkF, argsToLocals, Value.category]; done) | rfl) ?_
  intro m G K0
  have K : Cx l ({ frames := 1, cells := 0, slots := 0, locals := 12 } : Room) Z n0 _ sI "<init>" prog_56_method_1_code 2 none m G := K0
  have hw13 := hw _ (List.mem_of_getElem? (i := 13) rfl)
  have hw14 := hw _ (List.mem_of_getElem? (i := 14) rfl)
  have hw35 := hw _ (List.mem_of_getElem? (i := 35) rfl)
  have hw40 := hw _ (List.mem_of_getElem? (i := 40) rfl)
  have hw41 := hw _ (List.mem_of_getElem? (i := 41) rfl)
  have hw42 := hw _ (List.mem_of_getElem? (i := 42) rfl)
  have hw43 := hw _ (List.mem_of_getElem? (i := 43) rfl)
  have hw44 := hw _ (List.mem_of_getElem? (i := 44) rfl)
  have hw45 := hw _ (List.mem_of_getElem? (i := 45) rfl)
  refine K.aloadN d7_0 (pc' := 1) rfl rfl rfl ?_
  refine K.aloadN d7_1 (pc' := 2) rfl rfl rfl ?_
  refine K.putf d7_2 (pc' := 5) rfl (host := "") (Or.inl hw40) Via.refl P4 P1 (Or.inr ⟨hw41, rfl, rfl⟩) hw35 (ty := (.object sC)) (by decide) rfl rfl P2 (fun h_1 W_2 => ?_)
  have f_3 : Fld Z h_1 a sI "this$0" "Lcom/example/quadrille/quadrille/formats/Chain;" (.ref b) := P4.same W_2
  have f_4 : Fld Z h_1 a sI "next" dL .null := P5.other W_2 (Or.inr (slot_ne (Or.inl hw45) (Or.inr hw41) (by decide) (t := (.object sL)) (t' := (.object sC)) (by decide) (by decide)))
  have kp_5 : Keep h h_1 [a] := (Keep.refl h [a]).wr W_2 (Or.inl (by simp))
  refine K.aloadN d7_5 (pc' := 6) rfl rfl rfl ?_
  refine K.init0 d7_6 (pc' := 9) rfl hw42 hw13 hw14 rfl (by decide) (W := 0) (by simp [Value.category]) (by decide) ?_
  refine K.aloadN d7_9 (pc' := 10) rfl rfl rfl ?_
  refine K.aloadN d7_10 (pc' := 11) rfl rfl rfl ?_
  refine K.getf d7_11 (pc' := 14) rfl (host := "") (Or.inl hw40) Via.refl f_3 ?_
  have f_6 : Fld Z h_1 b sC "first" dL .null := (P7.other W_2 (Or.inl P3))
  refine K.getf d7_14 (pc' := 17) rfl (Or.inr hw43) Via.refl f_6 ?_
  have f_7 : Exa Z h_1 a sI := (P1.wr W_2)
  refine K.putf d7_17 (pc' := 20) rfl (host := "") (Or.inl hw44) Via.refl f_4 f_7 (Or.inl hw45) hw35 (ty := (.object sL)) (by decide) rfl rfl P2 (fun h_8 W_9 => ?_)
  have f_10 : Fld Z h_8 a sI "this$0" "Lcom/example/quadrille/quadrille/formats/Chain;" (.ref b) := f_3.other W_9 (Or.inr (slot_ne (Or.inr hw41) (Or.inl hw45) (by decide) (t := (.object sC)) (t' := (.object sL)) (by decide) (by decide)))
  have f_11 : Fld Z h_8 a sI "next" dL .null := f_4.same W_9
  have kp_12 : Keep h h_8 [a] := kp_5.wr W_9 (Or.inl (by simp))
  exact K.ret0 d7_20 (by decide) (by decide) ⟨rfl, kp_12, f_11⟩
theorem d6_0 : decode prog_55_method_4_code 0 = .ok (.new 28, 3) := by decide +kernel
theorem d6_3 : decode prog_55_method_4_code 3 = .ok (.dup, 1) := by decide +kernel
theorem d6_4 : decode prog_55_method_4_code 4 = .ok (.aload_n 0, 1) := by decide +kernel
theorem d6_5 : decode prog_55_method_4_code 5 = .ok (.invokespecial 30, 3) := by decide +kernel
theorem pd_3 : parseMethodDescriptor "(Lcom/example/quadrille/quadrille/formats/Chain;)V" = some ⟨[(.object sC)], none⟩ := by decide +kernel
theorem d6_8 : decode prog_55_method_4_code 8 = .ok (.areturn, 1) := by decide +kernel
set_option maxRecDepth 65536 in
set_option maxHeartbeats 40000000 in
theorem c_it0 (l : Launch) (Z : State) (a0 : Array Value) (hw : ∀ d ∈ tables_1, d.before a0 Z = true) (n0 : Nat) (h : Heap) (b : Addr) (Z0 : n0 ≤ h.size) (P2 : Exa Z h b sC) (P3 : Fld Z h b sC "first" dL .null) : MeetsW l Z n0 (⟨sC, "iterator", "()Ljava/util/Iterator;"⟩ : MethodName) prog_55_method_4_code 1 (some (.object "java/util/Iterator")) ({ frames := 2, cells := 1, slots := 2, locals := 26 } : Room) #[(.ref b)] h (fun v h' => ∃ o : Addr, v = some (.ref o) ∧ Keep h h' [] ∧ h.size ≤ o ∧ n0 ≤ o ∧ Exa Z h' o sI ∧ Fld Z h' o sI "next" dL .null) := by
  refine MeetsW.intro (plainFor_of_name pn_com_example_quadrille_quadrille_formats_Chain) (L0 := #[vr b]) (fun m => by first | (simp [entryFrame, mkF, argsToLocals, Value.category]; done) | rfl) ?_
  intro m G K0
  have K : Cx l ({ frames := 2, cells := 1, slots := 2, locals := 26 } : Room) Z n0 _ sC "iterator" prog_55_method_4_code 1 (some (.object "java/util/Iterator")) m G := K0
  have hw34 := hw _ (List.mem_of_getElem? (i := 34) rfl)
  have hw35 := hw _ (List.mem_of_getElem? (i := 35) rfl)
  have hw36 := hw _ (List.mem_of_getElem? (i := 36) rfl)
  have hw37 := hw _ (List.mem_of_getElem? (i := 37) rfl)
  have hw38 := hw _ (List.mem_of_getElem? (i := 38) rfl)
  have hw39 := hw _ (List.mem_of_getElem? (i := 39) rfl)
  have hw41 := hw _ (List.mem_of_getElem? (i := 41) rfl)
  have hw45 := hw _ (List.mem_of_getElem? (i := 45) rfl)
  refine K.newo d6_0 (pc' := 3) rfl hw34 hw35 hw36 (by decide) (by decide) (fun h_2 o_1 g_o_1 E_3 x_o_1 D_o_1 => ?_)
  have ge_o_1 : n0 ≤ o_1 := g_o_1 ▸ Z0
  have sb_o_1 : h.size ≤ o_1 := g_o_1 ▸ (Keep.refl h []).1
  have kp_4 : Keep h h_2 [] := (Keep.refl h []).ext E_3
  have f_5 : Fld Z h_2 o_1 sI "this$0" "Lcom/example/quadrille/quadrille/formats/Chain;" .null := D_o_1 (Or.inr hw41) (ty := (.object sC)) (by decide)
  have f_6 : Fld Z h_2 o_1 sI "next" dL .null := D_o_1 (Or.inl hw45) (ty := (.object sL)) (by decide)
  refine K.dup d6_3 (pc' := 4) rfl rfl ?_
  refine K.aloadN d6_4 (pc' := 5) rfl rfl rfl ?_
  have ne_7 : b ≠ o_1 := (Nat.ne_of_lt (Nat.lt_of_lt_of_le P2.lt (Nat.le_trans (Nat.le_refl _) (Nat.le_of_eq g_o_1.symm))))
  have f_8 : Exa Z h_2 b sC := (P2.ext E_3)
  have f_9 : Fld Z h_2 b sC "first" dL .null := (P3.ext E_3)
  refine K.callc (argsL := [(.ref b)]) (rest := [(.ref o_1)]) d6_5 (pc' := 8) rfl rfl (c_in0 l Z a0 hw n0 h_2 (a := o_1) (b := b) x_o_1 ge_o_1 ne_7 f_5 f_6 f_8 f_9) hw37 hw38 hw36 hw39 (by decide) pd_3 rfl rfl (W := 1) (by simp [Value.category]) (by decide) (by decide) (by decide) (by decide) (fun v_12 h_10 q_11 => ?_)
  obtain ⟨rfl, K_14, f_15⟩ := q_11
  have kp_16 : Keep h h_10 [] := kp_4.trans K_14 (allS (Or.inr sb_o_1) all0)
  show G h_10 1 2 (mkF m 8 #[vr b] [(.ref o_1)])
  have f_17 : Exa Z h_10 o_1 sI := (x_o_1.keep K_14)
  exact K.reta d6_8 rfl rfl rfl (by decide) (by decide) ⟨o_1, rfl, kp_16, sb_o_1, ge_o_1, f_17, f_15⟩
theorem d8_0 : decode prog_56_method_2_code 0 = .ok (.aload_n 0, 1) := by decide +kernel
theorem d8_1 : decode prog_56_method_2_code 1 = .ok (.getfield 19, 3) := by decide +kernel
theorem d8_4 : decode prog_56_method_2_code 4 = .ok (.ifnull 7, 3) := by decide +kernel
theorem d8_11 : decode prog_56_method_2_code 11 = .ok (.iconst 0, 1) := by decide +kernel
theorem d8_12 : decode prog_56_method_2_code 12 = .ok (.ireturn, 1) := by decide +kernel
set_option maxRecDepth 65536 in
set_option maxHeartbeats 40000000 in
theorem c_has0 (l : Launch) (Z : State) (a0 : Array Value) (hw : ∀ d ∈ tables_1, d.before a0 Z = true) (n0 : Nat) (h : Heap) (a : Addr) (P1 : Exa Z h a sI) (P2 : Fld Z h a sI "next" dL .null) : MeetsW l Z n0 (⟨sI, "hasNext", "()Z"⟩ : MethodName) prog_56_method_2_code 1 (some .boolean) ({ frames := 0, cells := 0, slots := 0, locals := 0 } : Room) #[(.ref a)] h (fun v h' => v = some (.int (b2 (False))) ∧ h = h') := by
  refine MeetsW.intro (plainFor_of_name pn_com_example_quadrille_quadrille_formats_Chain_1) (L0 := #[vr a]) (fun m => by first | (simp [entryFrame, mkF, argsToLocals, Value.category]; done) | rfl) ?_
  intro m G K0
  have K : Cx l ({ frames := 0, cells := 0, slots := 0, locals := 0 } : Room) Z n0 _ sI "hasNext" prog_56_method_2_code 1 (some .boolean) m G := K0
  have hw44 := hw _ (List.mem_of_getElem? (i := 44) rfl)
  refine K.aloadN d8_0 (pc' := 1) rfl rfl rfl ?_
  refine K.getf d8_1 (pc' := 4) rfl (host := "") (Or.inl hw44) Via.refl P2 ?_
  refine K.ifnull0 d8_4 (by decide) (pc2 := 11) (by decide) ?_
  refine K.iconst d8_11 (pc' := 12) rfl (z := 0) rfl ?_
  exact K.retz d8_12 (Or.inl rfl) (by decide) (by decide) ⟨by rw [b2_f (by simp)], rfl⟩
set_option maxRecDepth 65536 in
set_option maxHeartbeats 40000000 in
theorem c_in1 (l : Launch) (Z : State) (a0 : Array Value) (hw : ∀ d ∈ tables_1, d.before a0 Z = true) (n0 : Nat) (h : Heap) (a : Addr) (b : Addr) (x : Addr) (P1 : Exa Z h a sI) (P2 : n0 ≤ a) (P3 : b ≠ a) (P4 : Fld Z h a sI "this$0" "Lcom/example/quadrille/quadrille/formats/Chain;" .null) (P5 : Fld Z h a sI "next" dL .null) (P6 : Exa Z h b sC) (P7 : Fld Z h b sC "first" dL (.ref x)) : MeetsW l Z n0 (⟨sI, "<init>", "(Lcom/example/quadrille/quadrille/formats/Chain;)V"⟩ : MethodName) prog_56_method_1_code 2 none ({ frames := 1, cells := 0, slots := 0, locals := 12 } : Room) #[(.ref a), (.ref b)] h (fun v h' => v = none ∧ Keep h h' [a] ∧ Fld Z h' a sI "next" dL (.ref x)) := by
  refine MeetsW.intro (plainFor_of_name pn_com_example_quadrille_quadrille_formats_Chain_1) (L0 := #[vr a, vr b]) (fun m => by first | (simp [entryFrame, mkF, argsToLocals, Value.category]; done) | rfl) ?_
  intro m G K0
  have K : Cx l ({ frames := 1, cells := 0, slots := 0, locals := 12 } : Room) Z n0 _ sI "<init>" prog_56_method_1_code 2 none m G := K0
  have hw13 := hw _ (List.mem_of_getElem? (i := 13) rfl)
  have hw14 := hw _ (List.mem_of_getElem? (i := 14) rfl)
  have hw35 := hw _ (List.mem_of_getElem? (i := 35) rfl)
  have hw40 := hw _ (List.mem_of_getElem? (i := 40) rfl)
  have hw41 := hw _ (List.mem_of_getElem? (i := 41) rfl)
  have hw42 := hw _ (List.mem_of_getElem? (i := 42) rfl)
  have hw43 := hw _ (List.mem_of_getElem? (i := 43) rfl)
  have hw44 := hw _ (List.mem_of_getElem? (i := 44) rfl)
  have hw45 := hw _ (List.mem_of_getElem? (i := 45) rfl)
  refine K.aloadN d7_0 (pc' := 1) rfl rfl rfl ?_
  refine K.aloadN d7_1 (pc' := 2) rfl rfl rfl ?_
  refine K.putf d7_2 (pc' := 5) rfl (host := "") (Or.inl hw40) Via.refl P4 P1 (Or.inr ⟨hw41, rfl, rfl⟩) hw35 (ty := (.object sC)) (by decide) rfl rfl P2 (fun h_1 W_2 => ?_)
  have f_3 : Fld Z h_1 a sI "this$0" "Lcom/example/quadrille/quadrille/formats/Chain;" (.ref b) := P4.same W_2
  have f_4 : Fld Z h_1 a sI "next" dL .null := P5.other W_2 (Or.inr (slot_ne (Or.inl hw45) (Or.inr hw41) (by decide) (t := (.object sL)) (t' := (.object sC)) (by decide) (by decide)))
  have kp_5 : Keep h h_1 [a] := (Keep.refl h [a]).wr W_2 (Or.inl (by simp))
  refine K.aloadN d7_5 (pc' := 6) rfl rfl rfl ?_
  refine K.init0 d7_6 (pc' := 9) rfl hw42 hw13 hw14 rfl (by decide) (W := 0) (by simp [Value.category]) (by decide) ?_
  refine K.aloadN d7_9 (pc' := 10) rfl rfl rfl ?_
  refine K.aloadN d7_10 (pc' := 11) rfl rfl rfl ?_
  refine K.getf d7_11 (pc' := 14) rfl (host := "") (Or.inl hw40) Via.refl f_3 ?_
  have f_6 : Fld Z h_1 b sC "first" dL (.ref x) := (P7.other W_2 (Or.inl P3))
  refine K.getf d7_14 (pc' := 17) rfl (Or.inr hw43) Via.refl f_6 ?_
  have f_7 : Exa Z h_1 a sI := (P1.wr W_2)
  refine K.putf d7_17 (pc' := 20) rfl (host := "") (Or.inl hw44) Via.refl f_4 f_7 (Or.inl hw45) hw35 (ty := (.object sL)) (by decide) rfl rfl P2 (fun h_8 W_9 => ?_)
  have f_10 : Fld Z h_8 a sI "this$0" "Lcom/example/quadrille/quadrille/formats/Chain;" (.ref b) := f_3.other W_9 (Or.inr (slot_ne (Or.inr hw41) (Or.inl hw45) (by decide) (t := (.object sC)) (t' := (.object sL)) (by decide) (by decide)))
  have f_11 : Fld Z h_8 a sI "next" dL (.ref x) := f_4.same W_9
  have kp_12 : Keep h h_8 [a] := kp_5.wr W_9 (Or.inl (by simp))
  exact K.ret0 d7_20 (by decide) (by decide) ⟨rfl, kp_12, f_11⟩
set_option maxRecDepth 65536 in
set_option maxHeartbeats 40000000 in
theorem c_it1 (l : Launch) (Z : State) (a0 : Array Value) (hw : ∀ d ∈ tables_1, d.before a0 Z = true) (n0 : Nat) (h : Heap) (b : Addr) (x : Addr) (Z0 : n0 ≤ h.size) (P2 : Exa Z h b sC) (P3 : Fld Z h b sC "first" dL (.ref x)) : MeetsW l Z n0 (⟨sC, "iterator", "()Ljava/util/Iterator;"⟩ : MethodName) prog_55_method_4_code 1 (some (.object "java/util/Iterator")) ({ frames := 2, cells := 1, slots := 2, locals := 26 } : Room) #[(.ref b)] h (fun v h' => ∃ o : Addr, v = some (.ref o) ∧ Keep h h' [] ∧ h.size ≤ o ∧ n0 ≤ o ∧ Exa Z h' o sI ∧ Fld Z h' o sI "next" dL (.ref x)) := by
  refine MeetsW.intro (plainFor_of_name pn_com_example_quadrille_quadrille_formats_Chain) (L0 := #[vr b]) (fun m => by first | (simp [entryFrame, mkF, argsToLocals, Value.category]; done) | rfl) ?_
  intro m G K0
  have K : Cx l ({ frames := 2, cells := 1, slots := 2, locals := 26 } : Room) Z n0 _ sC "iterator" prog_55_method_4_code 1 (some (.object "java/util/Iterator")) m G := K0
  have hw34 := hw _ (List.mem_of_getElem? (i := 34) rfl)
  have hw35 := hw _ (List.mem_of_getElem? (i := 35) rfl)
  have hw36 := hw _ (List.mem_of_getElem? (i := 36) rfl)
  have hw37 := hw _ (List.mem_of_getElem? (i := 37) rfl)
  have hw38 := hw _ (List.mem_of_getElem? (i := 38) rfl)
  have hw39 := hw _ (List.mem_of_getElem? (i := 39) rfl)
  have hw41 := hw _ (List.mem_of_getElem? (i := 41) rfl)
  have hw45 := hw _ (List.mem_of_getElem? (i := 45) rfl)
  refine K.newo d6_0 (pc' := 3) rfl hw34 hw35 hw36 (by decide) (by decide) (fun h_2 o_1 g_o_1 E_3 x_o_1 D_o_1 => ?_)
  have ge_o_1 : n0 ≤ o_1 := g_o_1 ▸ Z0
  have sb_o_1 : h.size ≤ o_1 := g_o_1 ▸ (Keep.refl h []).1
  have kp_4 : Keep h h_2 [] := (Keep.refl h []).ext E_3
  have f_5 : Fld Z h_2 o_1 sI "this$0" "Lcom/example/quadrille/quadrille/formats/Chain;" .null := D_o_1 (Or.inr hw41) (ty := (.object sC)) (by decide)
  have f_6 : Fld Z h_2 o_1 sI "next" dL .null := D_o_1 (Or.inl hw45) (ty := (.object sL)) (by decide)
  refine K.dup d6_3 (pc' := 4) rfl rfl ?_
  refine K.aloadN d6_4 (pc' := 5) rfl rfl rfl ?_
  have f_7 : Fld Z h_2 b sC "first" dL (.ref x) := (P3.ext E_3)
  have ne_8 : b ≠ o_1 := (Nat.ne_of_lt (Nat.lt_of_lt_of_le P2.lt (Nat.le_trans (Nat.le_refl _) (Nat.le_of_eq g_o_1.symm))))
  have f_9 : Exa Z h_2 b sC := (P2.ext E_3)
  refine K.callc (argsL := [(.ref b)]) (rest := [(.ref o_1)]) d6_5 (pc' := 8) rfl rfl (c_in1 l Z a0 hw n0 h_2 (a := o_1) (b := b) (x := x) x_o_1 ge_o_1 ne_8 f_5 f_6 f_9 f_7) hw37 hw38 hw36 hw39 (by decide) pd_3 rfl rfl (W := 1) (by simp [Value.category]) (by decide) (by decide) (by decide) (by decide) (fun v_12 h_10 q_11 => ?_)
  obtain ⟨rfl, K_14, f_15⟩ := q_11
  have kp_16 : Keep h h_10 [] := kp_4.trans K_14 (allS (Or.inr sb_o_1) all0)
  show G h_10 1 2 (mkF m 8 #[vr b] [(.ref o_1)])
  have f_17 : Exa Z h_10 o_1 sI := (x_o_1.keep K_14)
  exact K.reta d6_8 rfl rfl rfl (by decide) (by decide) ⟨o_1, rfl, kp_16, sb_o_1, ge_o_1, f_17, f_15⟩
theorem d8_7 : decode prog_56_method_2_code 7 = .ok (.iconst 1, 1) := by decide +kernel
theorem d8_8 : decode prog_56_method_2_code 8 = .ok (.goto 4, 3) := by decide +kernel
set_option maxRecDepth 65536 in
set_option maxHeartbeats 40000000 in
theorem c_has1 (l : Launch) (Z : State) (a0 : Array Value) (hw : ∀ d ∈ tables_1, d.before a0 Z = true) (n0 : Nat) (h : Heap) (a : Addr) (x : Addr) (P1 : Exa Z h a sI) (P2 : Fld Z h a sI "next" dL (.ref x)) : MeetsW l Z n0 (⟨sI, "hasNext", "()Z"⟩ : MethodName) prog_56_method_2_code 1 (some .boolean) ({ frames := 0, cells := 0, slots := 0, locals := 0 } : Room) #[(.ref a)] h (fun v h' => v = some (.int (b2 (True))) ∧ h = h') := by
  refine MeetsW.intro (plainFor_of_name pn_com_example_quadrille_quadrille_formats_Chain_1) (L0 := #[vr a]) (fun m => by first | (simp [entryFrame, mkF, argsToLocals, Value.category]; done) | rfl) ?_
  intro m G K0
  have K : Cx l ({ frames := 0, cells := 0, slots := 0, locals := 0 } : Room) Z n0 _ sI "hasNext" prog_56_method_2_code 1 (some .boolean) m G := K0
  have hw44 := hw _ (List.mem_of_getElem? (i := 44) rfl)
  refine K.aloadN d8_0 (pc' := 1) rfl rfl rfl ?_
  refine K.getf d8_1 (pc' := 4) rfl (host := "") (Or.inl hw44) Via.refl P2 ?_
  refine K.ifnull1 d8_4 (pc' := 7) rfl ?_
  refine K.iconst d8_7 (pc' := 8) rfl (z := 1) rfl ?_
  refine K.goto d8_8 (by decide) (pc' := 12) (by decide) ?_
  exact K.retz d8_12 (Or.inr rfl) (by decide) (by decide) ⟨by rw [b2_t (by simp)], rfl⟩
theorem d14_0 : decode jdk_33_method_27_code 0 = .ok (.aload_n 0, 1) := by decide +kernel
theorem d14_1 : decode jdk_33_method_27_code 1 = .ok (.getfield 205, 3) := by decide +kernel
theorem d14_4 : decode jdk_33_method_27_code 4 = .ok (.ireturn, 1) := by decide +kernel
set_option maxRecDepth 65536 in
set_option maxHeartbeats 40000000 in
theorem c_iv (l : Launch) (Z : State) (a0 : Array Value) (hw : ∀ d ∈ tables_1, d.before a0 Z = true) (n0 : Nat) (h : Heap) (a : Addr) (n : Int32) (P1 : Exa Z h a sN) (P2 : Fld Z h a sN "value" "I" (.int n)) : MeetsW l Z n0 (⟨sN, "intValue", "()I"⟩ : MethodName) jdk_33_method_27_code 1 (some .int) ({ frames := 0, cells := 0, slots := 0, locals := 0 } : Room) #[(.ref a)] h (fun v h' => v = some (.int n) ∧ h = h') := by
  refine MeetsW.intro (plainFor_of_name pn_java_lang_Integer) (L0 := #[vr a]) (fun m => by first | (simp [entryFrame, mkF, argsToLocals, Value.category]; done) | rfl) ?_
  intro m G K0
  have K : Cx l ({ frames := 0, cells := 0, slots := 0, locals := 0 } : Room) Z n0 _ sN "intValue" jdk_33_method_27_code 1 (some .int) m G := K0
  have hw100 := hw _ (List.mem_of_getElem? (i := 100) rfl)
  refine K.aloadN d14_0 (pc' := 1) rfl rfl rfl ?_
  refine K.getf d14_1 (pc' := 4) rfl (host := "") (Or.inl hw100) Via.refl P2 ?_
  exact K.reti d14_4 (by decide) (by decide) ⟨rfl, rfl⟩
theorem d12_0 : decode method_3_code 0 = .ok (.iload_n 1, 1) := by decide +kernel
theorem d12_1 : decode method_3_code 1 = .ok (.ifCond .ne 5, 3) := by decide +kernel
theorem d12_4 : decode method_3_code 4 = .ok (.iconst 1, 1) := by decide +kernel
theorem d12_5 : decode method_3_code 5 = .ok (.ireturn, 1) := by decide +kernel
theorem pn_com_example_quadrille_quadrille_formats_ChainMoveAllPinLaw : plainName sW = true := by first | (simp [plainName, overriddenIn]; done) | decide +kernel
set_option maxRecDepth 65536 in
set_option maxHeartbeats 40000000 in
theorem c_st0 (l : Launch) (Z : State) (a0 : Array Value) (hw : ∀ d ∈ tables_1, d.before a0 Z = true) (n0 : Nat) (h : Heap) (a : Addr) (e : Int32)  : MeetsW l Z n0 (⟨sW, "step", "(Ljava/util/Iterator;ZI)Z"⟩ : MethodName) method_3_code 3 (some .boolean) ({ frames := 0, cells := 0, slots := 0, locals := 0 } : Room) #[(.ref a), (.int (0 : Int32)), (.int e)] h (fun v h' => v = some (.int (b2 (True))) ∧ h = h') := by
  refine MeetsW.intro (plainFor_of_name pn_com_example_quadrille_quadrille_formats_ChainMoveAllPinLaw) (L0 := #[vr a, vi 0, vi e]) (fun m => by first | (simp [entryFrame, mkF, argsToLocals, Value.category]; done) | rfl) ?_
  intro m G K0
  have K : Cx l ({ frames := 0, cells := 0, slots := 0, locals := 0 } : Room) Z n0 _ sW "step" method_3_code 3 (some .boolean) m G := K0
  refine K.iloadN d12_0 (pc' := 1) rfl rfl ?_
  refine K.if_ne d12_1 (pc1 := 4) rfl (by decide) (pc2 := 6) (by decide) (a := 0) rfl (fun c1 => ?_) (fun c1 => ?_)
  · exfalso; omega
  · refine K.iconst d12_4 (pc' := 5) rfl (z := 1) rfl ?_
    exact K.retz d12_5 (Or.inr rfl) (by decide) (by decide) ⟨by rw [b2_t (by trivial)], rfl⟩
theorem d13_0 : decode prog_56_method_3_code 0 = .ok (.aload_n 0, 1) := by decide +kernel
theorem d13_1 : decode prog_56_method_3_code 1 = .ok (.getfield 19, 3) := by decide +kernel
theorem d13_4 : decode prog_56_method_3_code 4 = .ok (.ifnonnull 11, 3) := by decide +kernel
theorem d13_15 : decode prog_56_method_3_code 15 = .ok (.aload_n 0, 1) := by decide +kernel
theorem d13_16 : decode prog_56_method_3_code 16 = .ok (.getfield 19, 3) := by decide +kernel
theorem d13_19 : decode prog_56_method_3_code 19 = .ok (.getfield 25, 3) := by decide +kernel
theorem d13_22 : decode prog_56_method_3_code 22 = .ok (.astore_n 1, 1) := by decide +kernel
theorem d13_23 : decode prog_56_method_3_code 23 = .ok (.aload_n 0, 1) := by decide +kernel
theorem d13_24 : decode prog_56_method_3_code 24 = .ok (.aload_n 0, 1) := by decide +kernel
theorem d13_25 : decode prog_56_method_3_code 25 = .ok (.getfield 19, 3) := by decide +kernel
theorem d13_28 : decode prog_56_method_3_code 28 = .ok (.getfield 31, 3) := by decide +kernel
theorem d13_31 : decode prog_56_method_3_code 31 = .ok (.putfield 19, 3) := by decide +kernel
theorem d13_34 : decode prog_56_method_3_code 34 = .ok (.aload_n 1, 1) := by decide +kernel
theorem d13_35 : decode prog_56_method_3_code 35 = .ok (.areturn, 1) := by decide +kernel
set_option maxRecDepth 65536 in
set_option maxHeartbeats 40000000 in
theorem c_nx0 (l : Launch) (Z : State) (a0 : Array Value) (hw : ∀ d ∈ tables_1, d.before a0 Z = true) (n0 : Nat) (h : Heap) (a : Addr) (lk : Addr) (b : Addr) (P1 : Exa Z h a sI) (P2 : n0 ≤ a) (P3 : Fld Z h a sI "next" dL (.ref lk)) (P4 : Exa Z h lk sL) (P5 : lk ≠ a) (P6 : Fld Z h lk sL "element" "Ljava/lang/Object;" (.ref b)) (P7 : Fld Z h lk sL "next" dL .null) : MeetsW l Z n0 (⟨sI, "next", "()Ljava/lang/Object;"⟩ : MethodName) prog_56_method_3_code 2 (some (.object "java/lang/Object")) ({ frames := 0, cells := 0, slots := 0, locals := 0 } : Room) #[(.ref a)] h (fun v h' => v = some (.ref b) ∧ Keep h h' [a] ∧ Fld Z h' a sI "next" dL .null) := by
  refine MeetsW.intro (plainFor_of_name pn_com_example_quadrille_quadrille_formats_Chain_1) (L0 := #[vr a, .unset]) (fun m => by first | (simp [entryFrame, mkF, argsToLocals, Value.category]; done) | rfl) ?_
  intro m G K0
  have K : Cx l ({ frames := 0, cells := 0, slots := 0, locals := 0 } : Room) Z n0 _ sI "next" prog_56_method_3_code 2 (some (.object "java/lang/Object")) m G := K0
  have hw35 := hw _ (List.mem_of_getElem? (i := 35) rfl)
  have hw44 := hw _ (List.mem_of_getElem? (i := 44) rfl)
  have hw45 := hw _ (List.mem_of_getElem? (i := 45) rfl)
  have hw90 := hw _ (List.mem_of_getElem? (i := 90) rfl)
  have hw91 := hw _ (List.mem_of_getElem? (i := 91) rfl)
  refine K.aloadN d13_0 (pc' := 1) rfl rfl rfl ?_
  refine K.getf d13_1 (pc' := 4) rfl (host := "") (Or.inl hw44) Via.refl P3 ?_
  refine K.ifnonnull1 d13_4 (by decide) (pc2 := 15) (by decide) ?_
  refine K.aloadN d13_15 (pc' := 16) rfl rfl rfl ?_
  refine K.getf d13_16 (pc' := 19) rfl (host := "") (Or.inl hw44) Via.refl P3 ?_
  refine K.getf d13_19 (pc' := 22) rfl (Or.inr hw90) Via.refl P6 ?_
  refine K.astoreN d13_22 (pc' := 23) rfl rfl (L' := #[vr a, vr b]) rfl ?_
  refine K.aloadN d13_23 (pc' := 24) rfl rfl rfl ?_
  refine K.aloadN d13_24 (pc' := 25) rfl rfl rfl ?_
  refine K.getf d13_25 (pc' := 28) rfl (host := "") (Or.inl hw44) Via.refl P3 ?_
  refine K.getf d13_28 (pc' := 31) rfl (Or.inr hw91) Via.refl P7 ?_
  refine K.putf d13_31 (pc' := 34) rfl (host := "") (Or.inl hw44) Via.refl P3 P1 (Or.inl hw45) hw35 (ty := (.object sL)) (by decide) rfl rfl P2 (fun h_1 W_2 => ?_)
  have f_3 : Fld Z h_1 a sI "next" dL .null := P3.same W_2
  have kp_4 : Keep h h_1 [a] := (Keep.refl h [a]).wr W_2 (Or.inl (by simp))
  refine K.aloadN d13_34 (pc' := 35) rfl rfl rfl ?_
  exact K.reta d13_35 rfl rfl rfl (by decide) (by decide) ⟨rfl, kp_4, f_3⟩
theorem d12_6 : decode method_3_code 6 = .ok (.aload_n 0, 1) := by decide +kernel
theorem d12_7 : decode method_3_code 7 = .ok (.invokeinterface 33 1, 5) := by decide +kernel
theorem pd_4 : parseMethodDescriptor "()Z" = some ⟨[], some .boolean⟩ := by decide +kernel
theorem d12_12 : decode method_3_code 12 = .ok (.ifCond .eq 23, 3) := by decide +kernel
theorem d12_15 : decode method_3_code 15 = .ok (.aload_n 0, 1) := by decide +kernel
theorem d12_16 : decode method_3_code 16 = .ok (.invokeinterface 45 1, 5) := by decide +kernel
theorem pd_5 : parseMethodDescriptor "()Ljava/lang/Object;" = some ⟨[], some (.object "java/lang/Object")⟩ := by decide +kernel
theorem d12_21 : decode method_3_code 21 = .ok (.checkcast 12, 3) := by decide +kernel
theorem d12_24 : decode method_3_code 24 = .ok (.invokevirtual 49, 3) := by decide +kernel
theorem pd_6 : parseMethodDescriptor "()I" = some ⟨[], some .int⟩ := by decide +kernel
theorem d12_27 : decode method_3_code 27 = .ok (.iload_n 2, 1) := by decide +kernel
theorem d12_28 : decode method_3_code 28 = .ok (.if_icmp .ne 7, 3) := by decide +kernel
theorem d12_35 : decode method_3_code 35 = .ok (.iconst 0, 1) := by decide +kernel
theorem d12_36 : decode method_3_code 36 = .ok (.ireturn, 1) := by decide +kernel
theorem d12_31 : decode method_3_code 31 = .ok (.iconst 1, 1) := by decide +kernel
theorem d12_32 : decode method_3_code 32 = .ok (.goto 4, 3) := by decide +kernel
set_option maxRecDepth 65536 in
set_option maxHeartbeats 40000000 in
theorem c_st10 (l : Launch) (Z : State) (a0 : Array Value) (hw : ∀ d ∈ tables_1, d.before a0 Z = true) (n0 : Nat) (h : Heap) (a : Addr) (e : Int32) (lk : Addr) (b : Addr) (v0 : Int32) (P1 : Exa Z h a sI) (P2 : n0 ≤ a) (P3 : Fld Z h a sI "next" dL (.ref lk)) (P4 : Exa Z h lk sL) (P5 : lk ≠ a) (P6 : Fld Z h lk sL "element" "Ljava/lang/Object;" (.ref b)) (P7 : Fld Z h lk sL "next" dL .null) (P8 : b ≠ a) (P9 : Exa Z h b sN) (P10 : Fld Z h b sN "value" "I" (.int v0)) : MeetsW l Z n0 (⟨sW, "step", "(Ljava/util/Iterator;ZI)Z"⟩ : MethodName) method_3_code 3 (some .boolean) ({ frames := 1, cells := 0, slots := 0, locals := 13 } : Room) #[(.ref a), (.int (1 : Int32)), (.int e)] h (fun v h' => v = some (.int (b2 (v0.toInt = e.toInt))) ∧ Keep h h' [a] ∧ Fld Z h' a sI "next" dL .null) := by
  refine MeetsW.intro (plainFor_of_name pn_com_example_quadrille_quadrille_formats_ChainMoveAllPinLaw) (L0 := #[vr a, vi 1, vi e]) (fun m => by first | (simp [entryFrame, mkF, argsToLocals, Value.category]; done) | rfl) ?_
  intro m G K0
  have K : Cx l ({ frames := 1, cells := 0, slots := 0, locals := 13 } : Room) Z n0 _ sW "step" method_3_code 3 (some .boolean) m G := K0
  have hw36 := hw _ (List.mem_of_getElem? (i := 36) rfl)
  have hw46 := hw _ (List.mem_of_getElem? (i := 46) rfl)
  have hw47 := hw _ (List.mem_of_getElem? (i := 47) rfl)
  have hw48 := hw _ (List.mem_of_getElem? (i := 48) rfl)
  have hw49 := hw _ (List.mem_of_getElem? (i := 49) rfl)
  have hw50 := hw _ (List.mem_of_getElem? (i := 50) rfl)
  have hw51 := hw _ (List.mem_of_getElem? (i := 51) rfl)
  have hw52 := hw _ (List.mem_of_getElem? (i := 52) rfl)
  have hw53 := hw _ (List.mem_of_getElem? (i := 53) rfl)
  have hw54 := hw _ (List.mem_of_getElem? (i := 54) rfl)
  have hw57 := hw _ (List.mem_of_getElem? (i := 57) rfl)
  have hw82 := hw _ (List.mem_of_getElem? (i := 82) rfl)
  have hw83 := hw _ (List.mem_of_getElem? (i := 83) rfl)
  have hw84 := hw _ (List.mem_of_getElem? (i := 84) rfl)
  have hw85 := hw _ (List.mem_of_getElem? (i := 85) rfl)
  have hw86 := hw _ (List.mem_of_getElem? (i := 86) rfl)
  have hw87 := hw _ (List.mem_of_getElem? (i := 87) rfl)
  have hw88 := hw _ (List.mem_of_getElem? (i := 88) rfl)
  have hw89 := hw _ (List.mem_of_getElem? (i := 89) rfl)
  have hw93 := hw _ (List.mem_of_getElem? (i := 93) rfl)
  have hw95 := hw _ (List.mem_of_getElem? (i := 95) rfl)
  have hw96 := hw _ (List.mem_of_getElem? (i := 96) rfl)
  have hw97 := hw _ (List.mem_of_getElem? (i := 97) rfl)
  have hw98 := hw _ (List.mem_of_getElem? (i := 98) rfl)
  have hw99 := hw _ (List.mem_of_getElem? (i := 99) rfl)
  refine K.iloadN d12_0 (pc' := 1) rfl rfl ?_
  refine K.if_ne d12_1 (pc1 := 4) rfl (by decide) (pc2 := 6) (by decide) (a := 1) rfl (fun c1 => ?_) (fun c1 => ?_)
  · refine K.aloadN d12_6 (pc' := 7) rfl rfl rfl ?_
    refine K.calli (z := (⟨sI, "hasNext", "()Z"⟩ : MethodName)) (argsL := []) (rest := []) d12_7 (pc' := 12) rfl (c_has1 l Z a0 hw n0 h (a := a) (x := lk) P1 P3) P1 hw46 hw47 hw48 rfl hw49 hw50 hw51 hw52 hw53 hw36 hw54 (by decide) pd_4 rfl rfl (W := 0) (by simp [Value.category]) (by decide) (by decide) (by decide) (by decide) (fun v_3 h_1 q_2 => ?_)
    obtain ⟨rfl, rfl⟩ := q_2
    show G h 0 0 (mkF m 12 #[vr a, vi 1, vi e] [(.int (b2 (True)))])
    refine K.ifeqB d12_12 (pc1 := 15) rfl (by decide) (pc2 := 35) (by decide) (fun c12 => ?_) (fun c12 => ?_)
    · exfalso; exact c12 trivial
    · refine K.aloadN d12_15 (pc' := 16) rfl rfl rfl ?_
      refine K.calli (z := (⟨sI, "next", "()Ljava/lang/Object;"⟩ : MethodName)) (argsL := []) (rest := []) d12_16 (pc' := 21) rfl (c_nx0 l Z a0 hw n0 h (a := a) (lk := lk) (b := b) P1 P2 P3 P4 P5 P6 P7) P1 hw82 hw83 hw84 rfl hw85 hw86 hw87 hw88 hw53 hw36 hw89 (by decide) pd_5 rfl rfl (W := 0) (by simp [Value.category]) (by decide) (by decide) (by decide) (by decide) (fun v_7 h_5 q_6 => ?_)
      obtain ⟨rfl, K_9, f_10⟩ := q_6
      have kp_11 : Keep h h_5 [a] := (Keep.refl h [a]).trans K_9 (allS (Or.inl (by simp)) all0)
      show G h_5 0 0 (mkF m 21 #[vr a, vi 1, vi e] [(.ref b)])
      have f_12 : Exa Z h_5 b sN := (P9.keep K_9)
      refine K.ccast d12_21 (pc' := 24) rfl hw93 (Ins.self f_12) ?_
      have f_13 : Fld Z h_5 b sN "value" "I" (.int v0) := (P10.keep K_9 (ninS P8 nin0))
      refine K.callv (z := (⟨sN, "intValue", "()I"⟩ : MethodName)) (argsL := []) (rest := []) d12_24 (pc' := 27) rfl (c_iv l Z a0 hw n0 h_5 (a := b) (n := v0) f_12 f_13) f_12 hw95 hw96 (nf_sel hw98 rfl) hw98 hw97 hw57 hw99 (by decide) pd_6 rfl rfl (W := 0) (by simp [Value.category]) (by decide) (by decide) (by decide) (by decide) (fun v_16 h_14 q_15 => ?_)
      obtain ⟨rfl, rfl⟩ := q_15
      show G h_5 0 0 (mkF m 27 #[vr a, vi 1, vi e] [(.int v0)])
      refine K.iloadN d12_27 (pc' := 28) rfl rfl ?_
      refine K.icmp_ne d12_28 (pc1 := 31) rfl (by decide) (pc2 := 35) (by decide) (a := v0.toInt) (b := e.toInt) rfl rfl (fun c28 => ?_) (fun c28 => ?_)
      · refine K.iconst d12_35 (pc' := 36) rfl (z := 0) rfl ?_
        exact K.retz d12_36 (Or.inl rfl) (by decide) (by decide) ⟨by rw [b2_f (by omega)], kp_11, f_10⟩
      · refine K.iconst d12_31 (pc' := 32) rfl (z := 1) rfl ?_
        refine K.goto d12_32 (by decide) (pc' := 36) (by decide) ?_
        exact K.retz d12_36 (Or.inr rfl) (by decide) (by decide) ⟨by rw [b2_t (by omega)], kp_11, f_10⟩
  · exfalso; omega
set_option maxRecDepth 65536 in
set_option maxHeartbeats 40000000 in
theorem c_nx1 (l : Launch) (Z : State) (a0 : Array Value) (hw : ∀ d ∈ tables_1, d.before a0 Z = true) (n0 : Nat) (h : Heap) (a : Addr) (lk : Addr) (b : Addr) (x : Addr) (P1 : Exa Z h a sI) (P2 : n0 ≤ a) (P3 : Fld Z h a sI "next" dL (.ref lk)) (P4 : Exa Z h lk sL) (P5 : lk ≠ a) (P6 : Fld Z h lk sL "element" "Ljava/lang/Object;" (.ref b)) (P7 : Fld Z h lk sL "next" dL (.ref x)) : MeetsW l Z n0 (⟨sI, "next", "()Ljava/lang/Object;"⟩ : MethodName) prog_56_method_3_code 2 (some (.object "java/lang/Object")) ({ frames := 0, cells := 0, slots := 0, locals := 0 } : Room) #[(.ref a)] h (fun v h' => v = some (.ref b) ∧ Keep h h' [a] ∧ Fld Z h' a sI "next" dL (.ref x)) := by
  refine MeetsW.intro (plainFor_of_name pn_com_example_quadrille_quadrille_formats_Chain_1) (L0 := #[vr a, .unset]) (fun m => by first | (simp [entryFrame, mkF, argsToLocals, Value.category]; done) | rfl) ?_
  intro m G K0
  have K : Cx l ({ frames := 0, cells := 0, slots := 0, locals := 0 } : Room) Z n0 _ sI "next" prog_56_method_3_code 2 (some (.object "java/lang/Object")) m G := K0
  have hw35 := hw _ (List.mem_of_getElem? (i := 35) rfl)
  have hw44 := hw _ (List.mem_of_getElem? (i := 44) rfl)
  have hw45 := hw _ (List.mem_of_getElem? (i := 45) rfl)
  have hw90 := hw _ (List.mem_of_getElem? (i := 90) rfl)
  have hw91 := hw _ (List.mem_of_getElem? (i := 91) rfl)
  refine K.aloadN d13_0 (pc' := 1) rfl rfl rfl ?_
  refine K.getf d13_1 (pc' := 4) rfl (host := "") (Or.inl hw44) Via.refl P3 ?_
  refine K.ifnonnull1 d13_4 (by decide) (pc2 := 15) (by decide) ?_
  refine K.aloadN d13_15 (pc' := 16) rfl rfl rfl ?_
  refine K.getf d13_16 (pc' := 19) rfl (host := "") (Or.inl hw44) Via.refl P3 ?_
  refine K.getf d13_19 (pc' := 22) rfl (Or.inr hw90) Via.refl P6 ?_
  refine K.astoreN d13_22 (pc' := 23) rfl rfl (L' := #[vr a, vr b]) rfl ?_
  refine K.aloadN d13_23 (pc' := 24) rfl rfl rfl ?_
  refine K.aloadN d13_24 (pc' := 25) rfl rfl rfl ?_
  refine K.getf d13_25 (pc' := 28) rfl (host := "") (Or.inl hw44) Via.refl P3 ?_
  refine K.getf d13_28 (pc' := 31) rfl (Or.inr hw91) Via.refl P7 ?_
  refine K.putf d13_31 (pc' := 34) rfl (host := "") (Or.inl hw44) Via.refl P3 P1 (Or.inl hw45) hw35 (ty := (.object sL)) (by decide) rfl rfl P2 (fun h_1 W_2 => ?_)
  have f_3 : Fld Z h_1 a sI "next" dL (.ref x) := P3.same W_2
  have kp_4 : Keep h h_1 [a] := (Keep.refl h [a]).wr W_2 (Or.inl (by simp))
  refine K.aloadN d13_34 (pc' := 35) rfl rfl rfl ?_
  exact K.reta d13_35 rfl rfl rfl (by decide) (by decide) ⟨rfl, kp_4, f_3⟩
set_option maxRecDepth 65536 in
set_option maxHeartbeats 40000000 in
theorem c_st11 (l : Launch) (Z : State) (a0 : Array Value) (hw : ∀ d ∈ tables_1, d.before a0 Z = true) (n0 : Nat) (h : Heap) (a : Addr) (e : Int32) (lk : Addr) (b : Addr) (v0 : Int32) (x : Addr) (P1 : Exa Z h a sI) (P2 : n0 ≤ a) (P3 : Fld Z h a sI "next" dL (.ref lk)) (P4 : Exa Z h lk sL) (P5 : lk ≠ a) (P6 : Fld Z h lk sL "element" "Ljava/lang/Object;" (.ref b)) (P7 : Fld Z h lk sL "next" dL (.ref x)) (P8 : b ≠ a) (P9 : Exa Z h b sN) (P10 : Fld Z h b sN "value" "I" (.int v0)) : MeetsW l Z n0 (⟨sW, "step", "(Ljava/util/Iterator;ZI)Z"⟩ : MethodName) method_3_code 3 (some .boolean) ({ frames := 1, cells := 0, slots := 0, locals := 13 } : Room) #[(.ref a), (.int (1 : Int32)), (.int e)] h (fun v h' => v = some (.int (b2 (v0.toInt = e.toInt))) ∧ Keep h h' [a] ∧ Fld Z h' a sI "next" dL (.ref x)) := by
  refine MeetsW.intro (plainFor_of_name pn_com_example_quadrille_quadrille_formats_ChainMoveAllPinLaw) (L0 := #[vr a, vi 1, vi e]) (fun m => by first | (simp [entryFrame, mkF, argsToLocals, Value.category]; done) | rfl) ?_
  intro m G K0
  have K : Cx l ({ frames := 1, cells := 0, slots := 0, locals := 13 } : Room) Z n0 _ sW "step" method_3_code 3 (some .boolean) m G := K0
  have hw36 := hw _ (List.mem_of_getElem? (i := 36) rfl)
  have hw46 := hw _ (List.mem_of_getElem? (i := 46) rfl)
  have hw47 := hw _ (List.mem_of_getElem? (i := 47) rfl)
  have hw48 := hw _ (List.mem_of_getElem? (i := 48) rfl)
  have hw49 := hw _ (List.mem_of_getElem? (i := 49) rfl)
  have hw50 := hw _ (List.mem_of_getElem? (i := 50) rfl)
  have hw51 := hw _ (List.mem_of_getElem? (i := 51) rfl)
  have hw52 := hw _ (List.mem_of_getElem? (i := 52) rfl)
  have hw53 := hw _ (List.mem_of_getElem? (i := 53) rfl)
  have hw54 := hw _ (List.mem_of_getElem? (i := 54) rfl)
  have hw57 := hw _ (List.mem_of_getElem? (i := 57) rfl)
  have hw82 := hw _ (List.mem_of_getElem? (i := 82) rfl)
  have hw83 := hw _ (List.mem_of_getElem? (i := 83) rfl)
  have hw84 := hw _ (List.mem_of_getElem? (i := 84) rfl)
  have hw85 := hw _ (List.mem_of_getElem? (i := 85) rfl)
  have hw86 := hw _ (List.mem_of_getElem? (i := 86) rfl)
  have hw87 := hw _ (List.mem_of_getElem? (i := 87) rfl)
  have hw88 := hw _ (List.mem_of_getElem? (i := 88) rfl)
  have hw89 := hw _ (List.mem_of_getElem? (i := 89) rfl)
  have hw93 := hw _ (List.mem_of_getElem? (i := 93) rfl)
  have hw95 := hw _ (List.mem_of_getElem? (i := 95) rfl)
  have hw96 := hw _ (List.mem_of_getElem? (i := 96) rfl)
  have hw97 := hw _ (List.mem_of_getElem? (i := 97) rfl)
  have hw98 := hw _ (List.mem_of_getElem? (i := 98) rfl)
  have hw99 := hw _ (List.mem_of_getElem? (i := 99) rfl)
  refine K.iloadN d12_0 (pc' := 1) rfl rfl ?_
  refine K.if_ne d12_1 (pc1 := 4) rfl (by decide) (pc2 := 6) (by decide) (a := 1) rfl (fun c1 => ?_) (fun c1 => ?_)
  · refine K.aloadN d12_6 (pc' := 7) rfl rfl rfl ?_
    refine K.calli (z := (⟨sI, "hasNext", "()Z"⟩ : MethodName)) (argsL := []) (rest := []) d12_7 (pc' := 12) rfl (c_has1 l Z a0 hw n0 h (a := a) (x := lk) P1 P3) P1 hw46 hw47 hw48 rfl hw49 hw50 hw51 hw52 hw53 hw36 hw54 (by decide) pd_4 rfl rfl (W := 0) (by simp [Value.category]) (by decide) (by decide) (by decide) (by decide) (fun v_3 h_1 q_2 => ?_)
    obtain ⟨rfl, rfl⟩ := q_2
    show G h 0 0 (mkF m 12 #[vr a, vi 1, vi e] [(.int (b2 (True)))])
    refine K.ifeqB d12_12 (pc1 := 15) rfl (by decide) (pc2 := 35) (by decide) (fun c12 => ?_) (fun c12 => ?_)
    · exfalso; exact c12 trivial
    · refine K.aloadN d12_15 (pc' := 16) rfl rfl rfl ?_
      refine K.calli (z := (⟨sI, "next", "()Ljava/lang/Object;"⟩ : MethodName)) (argsL := []) (rest := []) d12_16 (pc' := 21) rfl (c_nx1 l Z a0 hw n0 h (a := a) (lk := lk) (b := b) (x := x) P1 P2 P3 P4 P5 P6 P7) P1 hw82 hw83 hw84 rfl hw85 hw86 hw87 hw88 hw53 hw36 hw89 (by decide) pd_5 rfl rfl (W := 0) (by simp [Value.category]) (by decide) (by decide) (by decide) (by decide) (fun v_7 h_5 q_6 => ?_)
      obtain ⟨rfl, K_9, f_10⟩ := q_6
      have kp_11 : Keep h h_5 [a] := (Keep.refl h [a]).trans K_9 (allS (Or.inl (by simp)) all0)
      show G h_5 0 0 (mkF m 21 #[vr a, vi 1, vi e] [(.ref b)])
      have f_12 : Exa Z h_5 b sN := (P9.keep K_9)
      refine K.ccast d12_21 (pc' := 24) rfl hw93 (Ins.self f_12) ?_
      have f_13 : Fld Z h_5 b sN "value" "I" (.int v0) := (P10.keep K_9 (ninS P8 nin0))
      refine K.callv (z := (⟨sN, "intValue", "()I"⟩ : MethodName)) (argsL := []) (rest := []) d12_24 (pc' := 27) rfl (c_iv l Z a0 hw n0 h_5 (a := b) (n := v0) f_12 f_13) f_12 hw95 hw96 (nf_sel hw98 rfl) hw98 hw97 hw57 hw99 (by decide) pd_6 rfl rfl (W := 0) (by simp [Value.category]) (by decide) (by decide) (by decide) (by decide) (fun v_16 h_14 q_15 => ?_)
      obtain ⟨rfl, rfl⟩ := q_15
      show G h_5 0 0 (mkF m 27 #[vr a, vi 1, vi e] [(.int v0)])
      refine K.iloadN d12_27 (pc' := 28) rfl rfl ?_
      refine K.icmp_ne d12_28 (pc1 := 31) rfl (by decide) (pc2 := 35) (by decide) (a := v0.toInt) (b := e.toInt) rfl rfl (fun c28 => ?_) (fun c28 => ?_)
      · refine K.iconst d12_35 (pc' := 36) rfl (z := 0) rfl ?_
        exact K.retz d12_36 (Or.inl rfl) (by decide) (by decide) ⟨by rw [b2_f (by omega)], kp_11, f_10⟩
      · refine K.iconst d12_31 (pc' := 32) rfl (z := 1) rfl ?_
        refine K.goto d12_32 (by decide) (pc' := 36) (by decide) ?_
        exact K.retz d12_36 (Or.inr rfl) (by decide) (by decide) ⟨by rw [b2_t (by omega)], kp_11, f_10⟩
  · exfalso; omega
theorem bx_start {args : Array Value} {s : State} (hw : ∀ d ∈ tables_1, d.before args s = true) (hrest : rest_1_c.before args s = true) : ∃ (ca : Addr) (cc : Cell), Sta s s.heap "java/lang/Integer$IntegerCache" "high" "I" (.int 127) ∧ Sta s s.heap "java/lang/Integer$IntegerCache" "cache" "[Ljava/lang/Integer;" (.ref ca) ∧ Bxs s ca cc sN "I" 256 (fun j => .int (j - 128)) := by
  obtain ⟨r1, q1⟩ := and_e (Cond.before_iff.mp hrest)
  obtain ⟨r2, q2⟩ := and_e q1
  obtain ⟨r3, q3⟩ := and_e q2
  obtain ⟨r4, q4⟩ := and_e q3
  obtain ⟨r5, q5⟩ := and_e q4
  obtain ⟨r6, q6⟩ := and_e q5
  obtain ⟨r7, q7⟩ := and_e q6
  obtain ⟨r8, q8⟩ := and_e q7
  obtain ⟨ca, eca⟩ := exa_v r6
  have eh := eqv_i (y := 127) (Term.int_eval _) r4
  obtain ⟨cc, A⟩ := Arr.start eca r5
  have el := eqv_i (y := 256) (Term.int_eval _) r7
  have hlt : cc.slots.size < 2 ^ 31 ∧ cc.slots.size.toInt32 = 256 := by
    have aa := A.fin (Vm.Alike.refl _)
    revert el eca
    generalize Term.static "java/lang/Integer$IntegerCache" "cache" "[Ljava/lang/Integer;" = t
    intro eca el
    simp [Term.eval, eca, aa] at el
    exact el
  refine ⟨ca, cc, Sta.start eh (Or.inl (Cond.before_iff.mpr r2)), Sta.start eca (Or.inr ⟨hw _ (by decide +kernel), Cond.before_iff.mpr r3⟩), ?_⟩
  refine Bxs.start (t := Term.static "java/lang/Integer$IntegerCache" "cache" "[Ljava/lang/Integer;") (F := Term.sub (Term.index 0) (Term.int 128)) (fun idx => ?_) A hlt.1 hlt.2 (by decide) r8 (fun X j nn h => eqv_i ?_ h)
  · simpa [Term.eval] using eca
  · simp [Term.eval]
    exact (back32 nn).1
theorem pd_7 : parseMethodDescriptor "()Ljava/util/Iterator;" = some ⟨[], some (.object "java/util/Iterator")⟩ := by decide +kernel
theorem pd_8 : parseMethodDescriptor "(I)Ljava/lang/Integer;" = some ⟨[.int], some (.object sN)⟩ := by decide +kernel
theorem pd_9 : parseMethodDescriptor "(Ljava/lang/Object;)Z" = some ⟨[(.object "java/lang/Object")], some .boolean⟩ := by decide +kernel
theorem pd_10 : parseMethodDescriptor "(Ljava/util/Iterator;ZI)Z" = some ⟨[(.object "java/util/Iterator"), .boolean, .int], some .boolean⟩ := by decide +kernel
set_option maxRecDepth 65536 in
set_option maxHeartbeats 40000000 in
theorem c_law (l : Launch) (Z : State) (a0 : Array Value) (hw : ∀ d ∈ tables_1, d.before a0 Z = true) (n0 : Nat) (h : Heap) (p : Int32) (x1 : Int32) (x2 : Int32) (y1 : Int32) (y2 : Int32) (zz : Int32) (ca : Addr) (cc : Cell) (Z0 : n0 ≤ h.size) (P2 : Old Z n0 h) (P3 : Sta Z Z.heap "java/lang/Integer$IntegerCache" "high" "I" (.int (127 : Int32))) (P4 : Sta Z Z.heap "java/lang/Integer$IntegerCache" "cache" "[Ljava/lang/Integer;" (.ref ca)) (hbx : Bxs Z ca cc sN "I" 256 (fun j => .int (j - 128))) : MeetsW l Z n0 x code maxLocals ret room_1 #[(.int p), (.int x1), (.int x2), (.int y1), (.int y2), (.int zz)] h (fun v h' => v = some (.int 1)) := by
  refine MeetsW.intro (plainFor_of_name pn_com_example_quadrille_quadrille_formats_ChainMoveAllPinLaw) (L0 := #[vi p, vi x1, vi x2, vi y1, vi y2, vi zz, .unset, .unset, .unset, .unset, .unset, .unset, .unset, .unset, .unset, .unset, .unset]) (fun m => by first | (simp [entryFrame, mkF, argsToLocals, Value.category, maxLocals]; done) | rfl) ?_
  intro m G K0
  have K : Cx l room_1 Z n0 _ sW "law" code 17 (some .boolean) m G := K0
  have hw0 := hw _ (List.mem_of_getElem? (i := 0) rfl)
  have hw1 := hw _ (List.mem_of_getElem? (i := 1) rfl)
  have hw2 := hw _ (List.mem_of_getElem? (i := 2) rfl)
  have hw3 := hw _ (List.mem_of_getElem? (i := 3) rfl)
  have hw4 := hw _ (List.mem_of_getElem? (i := 4) rfl)
  have hw5 := hw _ (List.mem_of_getElem? (i := 5) rfl)
  have hw6 := hw _ (List.mem_of_getElem? (i := 6) rfl)
  have hw15 := hw _ (List.mem_of_getElem? (i := 15) rfl)
  have hw16 := hw _ (List.mem_of_getElem? (i := 16) rfl)
  have hw17 := hw _ (List.mem_of_getElem? (i := 17) rfl)
  have hw18 := hw _ (List.mem_of_getElem? (i := 18) rfl)
  have hw19 := hw _ (List.mem_of_getElem? (i := 19) rfl)
  have hw21 := hw _ (List.mem_of_getElem? (i := 21) rfl)
  have hw22 := hw _ (List.mem_of_getElem? (i := 22) rfl)
  have hw23 := hw _ (List.mem_of_getElem? (i := 23) rfl)
  have hw24 := hw _ (List.mem_of_getElem? (i := 24) rfl)
  have hw25 := hw _ (List.mem_of_getElem? (i := 25) rfl)
  have hw26 := hw _ (List.mem_of_getElem? (i := 26) rfl)
  have hw28 := hw _ (List.mem_of_getElem? (i := 28) rfl)
  have hw29 := hw _ (List.mem_of_getElem? (i := 29) rfl)
  have hw30 := hw _ (List.mem_of_getElem? (i := 30) rfl)
  have hw31 := hw _ (List.mem_of_getElem? (i := 31) rfl)
  have hw32 := hw _ (List.mem_of_getElem? (i := 32) rfl)
  have hw33 := hw _ (List.mem_of_getElem? (i := 33) rfl)
  have hw36 := hw _ (List.mem_of_getElem? (i := 36) rfl)
  have hw46 := hw _ (List.mem_of_getElem? (i := 46) rfl)
  have hw47 := hw _ (List.mem_of_getElem? (i := 47) rfl)
  have hw48 := hw _ (List.mem_of_getElem? (i := 48) rfl)
  have hw49 := hw _ (List.mem_of_getElem? (i := 49) rfl)
  have hw50 := hw _ (List.mem_of_getElem? (i := 50) rfl)
  have hw51 := hw _ (List.mem_of_getElem? (i := 51) rfl)
  have hw52 := hw _ (List.mem_of_getElem? (i := 52) rfl)
  have hw53 := hw _ (List.mem_of_getElem? (i := 53) rfl)
  have hw54 := hw _ (List.mem_of_getElem? (i := 54) rfl)
  have hw55 := hw _ (List.mem_of_getElem? (i := 55) rfl)
  have hw56 := hw _ (List.mem_of_getElem? (i := 56) rfl)
  have hw57 := hw _ (List.mem_of_getElem? (i := 57) rfl)
  have hw58 := hw _ (List.mem_of_getElem? (i := 58) rfl)
  have hw62 := hw _ (List.mem_of_getElem? (i := 62) rfl)
  have hw63 := hw _ (List.mem_of_getElem? (i := 63) rfl)
  have hw64 := hw _ (List.mem_of_getElem? (i := 64) rfl)
  have hw65 := hw _ (List.mem_of_getElem? (i := 65) rfl)
  have hw66 := hw _ (List.mem_of_getElem? (i := 66) rfl)
  have hw77 := hw _ (List.mem_of_getElem? (i := 77) rfl)
  have hw78 := hw _ (List.mem_of_getElem? (i := 78) rfl)
  have hw79 := hw _ (List.mem_of_getElem? (i := 79) rfl)
  have hw80 := hw _ (List.mem_of_getElem? (i := 80) rfl)
  have hw81 := hw _ (List.mem_of_getElem? (i := 81) rfl)
  have hw102 := hw _ (List.mem_of_getElem? (i := 102) rfl)
  have o0 : (0 : Int32).toInt = 0 := rfl
  have o1 : (1 : Int32).toInt = 1 := rfl
  have o2 : (2 : Int32).toInt = 2 := rfl
  refine K.iloadN at_0 (pc' := 1) rfl rfl ?_
  refine K.ldcI at_1 (pc' := 3) rfl hw0 ?_
  obtain ⟨mq, e_mq⟩ : ∃ z, p &&& (2147483647 : Int32) = z := ⟨_, rfl⟩
  have r_mq : mq.toInt = p.toInt % 2147483648 := by have q := c_mask p (2147483647 : Int32) 31 (by decide) (by decide); rw [e_mq] at q; exact q
  refine K.iand at_3 (pc' := 4) rfl e_mq ?_
  refine K.iconst at_4 (pc' := 5) rfl (z := 3) rfl ?_
  obtain ⟨a, e_a⟩ : ∃ z, mq % (3 : Int32) = z := ⟨_, rfl⟩
  have r_a : (0 ≤ mq.toInt → a.toInt = mq.toInt % 3) ∧ (mq.toInt < 0 → a.toInt = -((-mq.toInt) % 3)) := by have q := c_irem mq (3 : Int32) 3 rfl; rw [e_a] at q; exact q
  have t_a : 0 ≤ a.toInt ∧ a.toInt ≤ 2 := by omega
  clear r_a
  refine K.irem at_5 (pc' := 6) rfl (by decide) e_a ?_
  refine K.istore at_6 (pc' := 8) rfl (L' := #[vi p, vi x1, vi x2, vi y1, vi y2, vi zz, vi a, .unset, .unset, .unset, .unset, .unset, .unset, .unset, .unset, .unset, .unset]) rfl ?_
  refine K.iloadN at_8 (pc' := 9) rfl rfl ?_
  refine K.bipush at_9 (pc' := 11) rfl (z := 8) rfl ?_
  obtain ⟨q, e_q⟩ : ∃ z, (p.toUInt32 >>> ((8 : Int32) &&& 31).toUInt32).toInt32 = z := ⟨_, rfl⟩
  have r_q : q.toInt = (p.toInt % 4294967296) / 256 := by have q := c_iushr p (8 : Int32) 8 (by decide) (by decide); rw [e_q] at q; exact q
  refine K.iushr at_11 (pc' := 12) rfl e_q ?_
  refine K.iconst at_12 (pc' := 13) rfl (z := 3) rfl ?_
  obtain ⟨b, e_b⟩ : ∃ z, q % (3 : Int32) = z := ⟨_, rfl⟩
  have r_b : (0 ≤ q.toInt → b.toInt = q.toInt % 3) ∧ (q.toInt < 0 → b.toInt = -((-q.toInt) % 3)) := by have q := c_irem q (3 : Int32) 3 rfl; rw [e_b] at q; exact q
  have t_b : 0 ≤ b.toInt ∧ b.toInt ≤ 2 := by omega
  clear r_b
  refine K.irem at_13 (pc' := 14) rfl (by decide) e_b ?_
  refine K.istore at_14 (pc' := 16) rfl (L' := #[vi p, vi x1, vi x2, vi y1, vi y2, vi zz, vi a, vi b, .unset, .unset, .unset, .unset, .unset, .unset, .unset, .unset, .unset]) rfl ?_
  have cs_a : a = 0 ∨ a = 1 ∨ a = 2 := by
    have q : a.toInt = 0 ∨ a.toInt = 1 ∨ a.toInt = 2 := by omega
    rcases q with q | q | q
    · exact Or.inl (eqI q)
    · exact Or.inr (Or.inl (eqI q))
    · exact Or.inr (Or.inr (eqI q))
  rcases cs_a with rfl | rfl | rfl
  · have cs_b : b = 0 ∨ b = 1 ∨ b = 2 := by
      have q : b.toInt = 0 ∨ b.toInt = 1 ∨ b.toInt = 2 := by omega
      rcases q with q | q | q
      · exact Or.inl (eqI q)
      · exact Or.inr (Or.inl (eqI q))
      · exact Or.inr (Or.inr (eqI q))
    rcases cs_b with rfl | rfl | rfl
    · refine K.iload at_16 (pc' := 18) rfl rfl ?_
      refine K.iconst at_18 (pc' := 19) rfl (z := -1) rfl ?_
      obtain ⟨w, e_w⟩ : ∃ z, zz ^^^ (-1 : Int32) = z := ⟨_, rfl⟩
      refine K.ixor at_19 (pc' := 20) rfl e_w ?_
      refine K.istore at_20 (pc' := 22) rfl (L' := #[vi p, vi x1, vi x2, vi y1, vi y2, vi zz, vi 0, vi 0, vi w, .unset, .unset, .unset, .unset, .unset, .unset, .unset, .unset]) rfl ?_
      refine K.newo at_22 (pc' := 25) rfl hw1 hw2 hw3 (by decide) (by decide) (fun h_2 o_1 g_o_1 E_3 x_o_1 D_o_1 => ?_)
      have ge_o_1 : n0 ≤ o_1 := g_o_1 ▸ Z0
      have f_4 : Fld Z h_2 o_1 sC "first" dL .null := D_o_1 (Or.inl hw21) (ty := (.object sL)) (by decide)
      have f_5 : Fld Z h_2 o_1 sC "size" "I" (.int (0 : Int32)) := D_o_1 (Or.inl hw28) (ty := .int) (by decide)
      have f_6 : Fld Z h_2 o_1 sC "last" dL .null := D_o_1 (Or.inl hw77) (ty := (.object sL)) (by decide)
      refine K.dup at_25 (pc' := 26) rfl rfl ?_
      refine K.callc (argsL := []) (rest := [(.ref o_1)]) at_26 (pc' := 29) rfl rfl (c_chn l Z a0 hw n0 h_2 (a := o_1) ) hw4 hw5 hw3 hw6 (by decide) pd_0 rfl rfl (W := 1) (by simp [Value.category]) (by decide) (by decide) (by decide) (by decide) (fun v_9 h_7 q_8 => ?_)
      obtain ⟨rfl, rfl⟩ := q_8
      show G h_2 1 3 (mkF m 29 #[vi p, vi x1, vi x2, vi y1, vi y2, vi zz, vi 0, vi 0, vi w, .unset, .unset, .unset, .unset, .unset, .unset, .unset, .unset] [(.ref o_1)])
      refine K.astore at_29 (pc' := 31) rfl rfl (L' := #[vi p, vi x1, vi x2, vi y1, vi y2, vi zz, vi 0, vi 0, vi w, vr o_1, .unset, .unset, .unset, .unset, .unset, .unset, .unset]) rfl ?_
      refine K.newo at_31 (pc' := 34) rfl hw1 hw2 hw3 (by decide) (by decide) (fun h_12 o_11 g_o_11 E_13 x_o_11 D_o_11 => ?_)
      have sz_14 : n0 ≤ h_2.size := Nat.le_trans Z0 E_3.1
      have ge_o_11 : n0 ≤ o_11 := g_o_11 ▸ sz_14
      have f_15 : Fld Z h_12 o_11 sC "first" dL .null := D_o_11 (Or.inl hw21) (ty := (.object sL)) (by decide)
      have f_16 : Fld Z h_12 o_11 sC "size" "I" (.int (0 : Int32)) := D_o_11 (Or.inl hw28) (ty := .int) (by decide)
      have f_17 : Fld Z h_12 o_11 sC "last" dL .null := D_o_11 (Or.inl hw77) (ty := (.object sL)) (by decide)
      refine K.dup at_34 (pc' := 35) rfl rfl ?_
      refine K.callc (argsL := []) (rest := [(.ref o_11)]) at_35 (pc' := 38) rfl rfl (c_chn l Z a0 hw n0 h_12 (a := o_11) ) hw4 hw5 hw3 hw6 (by decide) pd_0 rfl rfl (W := 1) (by simp [Value.category]) (by decide) (by decide) (by decide) (by decide) (fun v_20 h_18 q_19 => ?_)
      obtain ⟨rfl, rfl⟩ := q_19
      show G h_12 2 6 (mkF m 38 #[vi p, vi x1, vi x2, vi y1, vi y2, vi zz, vi 0, vi 0, vi w, vr o_1, .unset, .unset, .unset, .unset, .unset, .unset, .unset] [(.ref o_11)])
      refine K.astore at_38 (pc' := 40) rfl rfl (L' := #[vi p, vi x1, vi x2, vi y1, vi y2, vi zz, vi 0, vi 0, vi w, vr o_1, vr o_11, .unset, .unset, .unset, .unset, .unset, .unset]) rfl ?_
      refine K.iload at_40 (pc' := 42) rfl rfl ?_
      refine K.if_le at_42 (pc1 := 45) rfl (by decide) (pc2 := 55) (by decide) (a := 0) rfl (fun c42 => ?_) (fun c42 => ?_)
      · refine K.iload at_55 (pc' := 57) rfl rfl ?_
        refine K.iconst at_57 (pc' := 58) rfl (z := 1) rfl ?_
        refine K.icmp_le at_58 (pc1 := 61) rfl (by decide) (pc2 := 71) (by decide) (a := 0) (b := 1) rfl rfl (fun c58 => ?_) (fun c58 => ?_)
        · refine K.iload at_71 (pc' := 73) rfl rfl ?_
          refine K.if_le at_73 (pc1 := 76) rfl (by decide) (pc2 := 86) (by decide) (a := 0) rfl (fun c73 => ?_) (fun c73 => ?_)
          · refine K.iload at_86 (pc' := 88) rfl rfl ?_
            refine K.iconst at_88 (pc' := 89) rfl (z := 1) rfl ?_
            refine K.icmp_le at_89 (pc1 := 92) rfl (by decide) (pc2 := 103) (by decide) (a := 0) (b := 1) rfl rfl (fun c89 => ?_) (fun c89 => ?_)
            · refine K.aload at_103 (pc' := 105) rfl rfl rfl ?_
              refine K.aload at_105 (pc' := 107) rfl rfl rfl ?_
              have f_22 : Exa Z h_12 o_1 sC := (x_o_1.ext E_13)
              refine K.callv (z := (⟨sC, "moveAll", "(Lcom/example/quadrille/quadrille/formats/Chain;)V"⟩ : MethodName)) (argsL := [(.ref o_11)]) (rest := []) at_107 (pc' := 110) rfl (c_mvE l Z a0 hw n0 h_12 (a := o_1) (b := o_11) x_o_11 f_15) f_22 hw15 hw16 (nf_sel hw18 rfl) hw18 hw17 hw3 hw19 (by decide) pd_3 rfl rfl (W := 0) (by simp [Value.category]) (by decide) (by decide) (by decide) (by decide) (fun v_25 h_23 q_24 => ?_)
              obtain ⟨rfl, rfl⟩ := q_24
              show G h_12 2 6 (mkF m 110 #[vi p, vi x1, vi x2, vi y1, vi y2, vi zz, vi 0, vi 0, vi w, vr o_1, vr o_11, .unset, .unset, .unset, .unset, .unset, .unset] [])
              refine K.aload at_110 (pc' := 112) rfl rfl rfl ?_
              have f_27 : Fld Z h_12 o_1 sC "size" "I" (.int (0 : Int32)) := (f_5.ext E_13)
              refine K.callv (z := (⟨sC, "size", "()I"⟩ : MethodName)) (argsL := []) (rest := []) at_112 (pc' := 115) rfl (c_size l Z a0 hw n0 h_12 (a := o_1) (n := (0 : Int32)) f_22 f_27) f_22 hw22 hw23 (nf_sel hw25 rfl) hw25 hw24 hw3 hw26 (by decide) pd_6 rfl rfl (W := 0) (by simp [Value.category]) (by decide) (by decide) (by decide) (by decide) (fun v_30 h_28 q_29 => ?_)
              obtain ⟨rfl, rfl⟩ := q_29
              show G h_12 2 6 (mkF m 115 #[vi p, vi x1, vi x2, vi y1, vi y2, vi zz, vi 0, vi 0, vi w, vr o_1, vr o_11, .unset, .unset, .unset, .unset, .unset, .unset] [(.int (0 : Int32))])
              refine K.iload at_115 (pc' := 117) rfl rfl ?_
              refine K.iload at_117 (pc' := 119) rfl rfl ?_
              refine K.iadd at_119 (pc' := 120) rfl (z := (0 : Int32)) (by decide) ?_
              refine K.icmp_ne at_120 (pc1 := 123) rfl (by decide) (pc2 := 148) (by decide) (a := 0) (b := 0) rfl rfl (fun c120 => ?_) (fun c120 => ?_)
              · exfalso; have o0 : (0 : Int32).toInt = 0 := rfl; have o1 : (1 : Int32).toInt = 1 := rfl; have o2 : (2 : Int32).toInt = 2 := rfl; omega
              · refine K.aload at_123 (pc' := 125) rfl rfl rfl ?_
                refine K.callv (z := (⟨sC, "size", "()I"⟩ : MethodName)) (argsL := []) (rest := []) at_125 (pc' := 128) rfl (c_size l Z a0 hw n0 h_12 (a := o_11) (n := (0 : Int32)) x_o_11 f_16) x_o_11 hw22 hw23 (nf_sel hw25 rfl) hw25 hw24 hw3 hw26 (by decide) pd_6 rfl rfl (W := 0) (by simp [Value.category]) (by decide) (by decide) (by decide) (by decide) (fun v_34 h_32 q_33 => ?_)
                obtain ⟨rfl, rfl⟩ := q_33
                show G h_12 2 6 (mkF m 128 #[vi p, vi x1, vi x2, vi y1, vi y2, vi zz, vi 0, vi 0, vi w, vr o_1, vr o_11, .unset, .unset, .unset, .unset, .unset, .unset] [(.int (0 : Int32))])
                refine K.if_ne at_128 (pc1 := 131) rfl (by decide) (pc2 := 148) (by decide) (a := 0) rfl (fun c128 => ?_) (fun c128 => ?_)
                · exfalso; have o0 : (0 : Int32).toInt = 0 := rfl; have o1 : (1 : Int32).toInt = 1 := rfl; have o2 : (2 : Int32).toInt = 2 := rfl; omega
                · refine K.aload at_131 (pc' := 133) rfl rfl rfl ?_
                  have sz_36 : n0 ≤ h_12.size := Nat.le_trans sz_14 E_13.1
                  refine K.callv (z := (⟨sC, "iterator", "()Ljava/util/Iterator;"⟩ : MethodName)) (argsL := []) (rest := []) at_133 (pc' := 136) rfl (c_it0 l Z a0 hw n0 h_12 (b := o_11) sz_36 x_o_11 f_15) x_o_11 hw29 hw30 (nf_sel hw32 rfl) hw32 hw31 hw3 hw33 (by decide) pd_7 rfl rfl (W := 0) (by simp [Value.category]) (by decide) (by decide) (by decide) (by decide) (fun v_39 h_37 q_38 => ?_)
                  obtain ⟨w_40, rfl, K_41, f_42, f_43, f_44, f_45⟩ := q_38
                  show G h_37 3 8 (mkF m 136 #[vi p, vi x1, vi x2, vi y1, vi y2, vi zz, vi 0, vi 0, vi w, vr o_1, vr o_11, .unset, .unset, .unset, .unset, .unset, .unset] [(.ref w_40)])
                  refine K.calli (z := (⟨sI, "hasNext", "()Z"⟩ : MethodName)) (argsL := []) (rest := []) at_136 (pc' := 141) rfl (c_has0 l Z a0 hw n0 h_37 (a := w_40) f_44 f_45) f_44 hw46 hw47 hw48 rfl hw49 hw50 hw51 hw52 hw53 hw36 hw54 (by decide) pd_4 rfl rfl (W := 0) (by simp [Value.category]) (by decide) (by decide) (by decide) (by decide) (fun v_48 h_46 q_47 => ?_)
                  obtain ⟨rfl, rfl⟩ := q_47
                  show G h_37 3 8 (mkF m 141 #[vi p, vi x1, vi x2, vi y1, vi y2, vi zz, vi 0, vi 0, vi w, vr o_1, vr o_11, .unset, .unset, .unset, .unset, .unset, .unset] [(.int (b2 (False)))])
                  refine K.ifneB at_141 (pc1 := 144) rfl (by decide) (pc2 := 148) (by decide) (fun c141 => ?_) (fun c141 => ?_)
                  · exfalso; exact c141
                  · refine K.iconst at_144 (pc' := 145) rfl (z := 1) rfl ?_
                    refine K.goto at_145 (by decide) (pc' := 149) (by decide) ?_
                    refine K.istore at_149 (pc' := 151) rfl (L' := #[vi p, vi x1, vi x2, vi y1, vi y2, vi zz, vi 0, vi 0, vi w, vr o_1, vr o_11, vi 1, .unset, .unset, .unset, .unset, .unset]) rfl ?_
                    refine K.aload at_151 (pc' := 153) rfl rfl rfl ?_
                    refine K.iload at_153 (pc' := 155) rfl rfl ?_
                    have sz_50 : n0 ≤ h_37.size := Nat.le_trans sz_36 K_41.1
                    have f_51 : Old Z n0 h_37 := (((P2.ext E_3).ext E_13).keep K_41 all0)
                    refine K.calls (argsL := [(.int zz)]) (rest := [(.ref o_1)]) at_155 (pc' := 158) rfl (c_val l Z a0 hw n0 h_37 (p := zz) (ca := ca) (cc := cc) sz_50 f_51 P3 P4 hbx) hw55 hw56 hw57 hw58 (by decide) pd_8 rfl rfl (W := 1) (by simp [Value.category]) (by decide) (by decide) (by decide) (by decide) (fun v_54 h_52 q_53 => ?_)
                    obtain ⟨w_55, rfl, K_56, f_57, f_58, f_59⟩ := q_53
                    show G h_52 4 9 (mkF m 158 #[vi p, vi x1, vi x2, vi y1, vi y2, vi zz, vi 0, vi 0, vi w, vr o_1, vr o_11, vi 1, .unset, .unset, .unset, .unset, .unset] [(.ref w_55), (.ref o_1)])
                    have f_60 : Exa Z h_52 o_1 sC := ((f_22.keep K_41).keep K_56)
                    have f_61 : Fld Z h_52 o_1 sC "last" dL .null := (((f_6.ext E_13).keep K_41 nin0).keep K_56 nin0)
                    have f_62 : Fld Z h_52 o_1 sC "size" "I" (.int (0 : Int32)) := ((f_27.keep K_41 nin0).keep K_56 nin0)
                    have sz_63 : n0 ≤ h_52.size := Nat.le_trans sz_50 K_56.1
                    have f_64 : Fld Z h_52 o_1 sC "first" dL .null := (((f_4.ext E_13).keep K_41 nin0).keep K_56 nin0)
                    refine K.callv (z := (⟨sC, "add", "(Ljava/lang/Object;)Z"⟩ : MethodName)) (argsL := [(.ref w_55)]) (rest := []) at_158 (pc' := 161) rfl (c_add0 l Z a0 hw n0 h_52 (a := o_1) (e := w_55) (n := (0 : Int32)) sz_63 f_60 ge_o_1 f_64 f_61 f_62 (by first | decide | omega)) f_60 hw62 hw63 (nf_sel hw65 rfl) hw65 hw64 hw3 hw66 (by decide) pd_9 rfl rfl (W := 0) (by simp [Value.category]) (by decide) (by decide) (by decide) (by decide) (fun v_67 h_65 q_66 => ?_)
                    obtain ⟨lk_69, n1_70, rfl, K_71, hn1_w_68, f_72, f_73, f_74, f_75, f_76, f_77, f_78, f_79⟩ := q_66
                    show G h_65 5 11 (mkF m 161 #[vi p, vi x1, vi x2, vi y1, vi y2, vi zz, vi 0, vi 0, vi w, vr o_1, vr o_11, vi 1, .unset, .unset, .unset, .unset, .unset] [(.int (b2 (True)))])
                    refine K.pop at_161 (pc' := 162) rfl rfl ?_
                    refine K.aload at_162 (pc' := 164) rfl rfl rfl ?_
                    refine K.iload at_164 (pc' := 166) rfl rfl ?_
                    have sz_80 : n0 ≤ h_65.size := Nat.le_trans sz_63 K_71.1
                    have f_81 : Old Z n0 h_65 := ((f_51.keep K_56 all0).keep K_71 (allS ge_o_1 all0))
                    refine K.calls (argsL := [(.int w)]) (rest := [(.ref o_11)]) at_166 (pc' := 169) rfl (c_val l Z a0 hw n0 h_65 (p := w) (ca := ca) (cc := cc) sz_80 f_81 P3 P4 hbx) hw55 hw56 hw57 hw58 (by decide) pd_8 rfl rfl (W := 1) (by simp [Value.category]) (by decide) (by decide) (by decide) (by decide) (fun v_84 h_82 q_83 => ?_)
                    obtain ⟨w_85, rfl, K_86, f_87, f_88, f_89⟩ := q_83
                    show G h_82 6 12 (mkF m 169 #[vi p, vi x1, vi x2, vi y1, vi y2, vi zz, vi 0, vi 0, vi w, vr o_1, vr o_11, vi 1, .unset, .unset, .unset, .unset, .unset] [(.ref w_85), (.ref o_11)])
                    have f_90 : Exa Z h_82 o_11 sC := ((((x_o_11.keep K_41).keep K_56).keep K_71).keep K_86)
                    have ne_91 : o_11 ≠ o_1 := (Ne.symm (Nat.ne_of_lt (Nat.lt_of_lt_of_le x_o_1.lt (Nat.le_trans (Nat.le_refl _) (Nat.le_of_eq g_o_11.symm)))))
                    have f_92 : Fld Z h_82 o_11 sC "last" dL .null := ((((f_17.keep K_41 nin0).keep K_56 nin0).keep K_71 (ninS ne_91 nin0)).keep K_86 nin0)
                    have f_93 : Fld Z h_82 o_11 sC "size" "I" (.int (0 : Int32)) := ((((f_16.keep K_41 nin0).keep K_56 nin0).keep K_71 (ninS ne_91 nin0)).keep K_86 nin0)
                    have sz_94 : n0 ≤ h_82.size := Nat.le_trans sz_80 K_86.1
                    have f_95 : Fld Z h_82 o_11 sC "first" dL .null := ((((f_15.keep K_41 nin0).keep K_56 nin0).keep K_71 (ninS ne_91 nin0)).keep K_86 nin0)
                    refine K.callv (z := (⟨sC, "add", "(Ljava/lang/Object;)Z"⟩ : MethodName)) (argsL := [(.ref w_85)]) (rest := []) at_169 (pc' := 172) rfl (c_add0 l Z a0 hw n0 h_82 (a := o_11) (e := w_85) (n := (0 : Int32)) sz_94 f_90 ge_o_11 f_95 f_92 f_93 (by first | decide | omega)) f_90 hw62 hw63 (nf_sel hw65 rfl) hw65 hw64 hw3 hw66 (by decide) pd_9 rfl rfl (W := 0) (by simp [Value.category]) (by decide) (by decide) (by decide) (by decide) (fun v_98 h_96 q_97 => ?_)
                    obtain ⟨lk_100, n1_101, rfl, K_102, hn1_w_99, f_103, f_104, f_105, f_106, f_107, f_108, f_109, f_110⟩ := q_97
                    show G h_96 7 14 (mkF m 172 #[vi p, vi x1, vi x2, vi y1, vi y2, vi zz, vi 0, vi 0, vi w, vr o_1, vr o_11, vi 1, .unset, .unset, .unset, .unset, .unset] [(.int (b2 (True)))])
                    refine K.pop at_172 (pc' := 173) rfl rfl ?_
                    refine K.iload at_173 (pc' := 175) rfl rfl ?_
                    refine K.if_eq at_175 (pc1 := 178) rfl (by decide) (pc2 := 206) (by decide) (a := 1) rfl (fun c175 => ?_) (fun c175 => ?_)
                    · exfalso; omega
                    · refine K.aload at_178 (pc' := 180) rfl rfl rfl ?_
                      have f_111 : Exa Z h_96 o_1 sC := (((f_60.keep K_71).keep K_86).keep K_102)
                      have f_112 : Fld Z h_96 o_1 sC "size" "I" (.int n1_70) := ((f_79.keep K_86 nin0).keep K_102 (ninS (Ne.symm ne_91) nin0))
                      refine K.callv (z := (⟨sC, "size", "()I"⟩ : MethodName)) (argsL := []) (rest := []) at_180 (pc' := 183) rfl (c_size l Z a0 hw n0 h_96 (a := o_1) (n := n1_70) f_111 f_112) f_111 hw22 hw23 (nf_sel hw25 rfl) hw25 hw24 hw3 hw26 (by decide) pd_6 rfl rfl (W := 0) (by simp [Value.category]) (by decide) (by decide) (by decide) (by decide) (fun v_115 h_113 q_114 => ?_)
                      obtain ⟨rfl, rfl⟩ := q_114
                      show G h_96 7 14 (mkF m 183 #[vi p, vi x1, vi x2, vi y1, vi y2, vi zz, vi 0, vi 0, vi w, vr o_1, vr o_11, vi 1, .unset, .unset, .unset, .unset, .unset] [(.int n1_70)])
                      refine K.iload at_183 (pc' := 185) rfl rfl ?_
                      refine K.iload at_185 (pc' := 187) rfl rfl ?_
                      refine K.iadd at_187 (pc' := 188) rfl (z := (0 : Int32)) (by decide) ?_
                      refine K.iconst at_188 (pc' := 189) rfl (z := 1) rfl ?_
                      refine K.iadd at_189 (pc' := 190) rfl (z := (1 : Int32)) (by decide) ?_
                      refine K.icmp_ne at_190 (pc1 := 193) rfl (by decide) (pc2 := 206) (by decide) (a := n1_70.toInt) (b := 1) rfl rfl (fun c190 => ?_) (fun c190 => ?_)
                      · exfalso; have o0 : (0 : Int32).toInt = 0 := rfl; have o1 : (1 : Int32).toInt = 1 := rfl; have o2 : (2 : Int32).toInt = 2 := rfl; omega
                      · refine K.aload at_193 (pc' := 195) rfl rfl rfl ?_
                        have f_117 : Exa Z h_96 o_11 sC := (f_90.keep K_102)
                        refine K.callv (z := (⟨sC, "size", "()I"⟩ : MethodName)) (argsL := []) (rest := []) at_195 (pc' := 198) rfl (c_size l Z a0 hw n0 h_96 (a := o_11) (n := n1_101) f_117 f_110) f_117 hw22 hw23 (nf_sel hw25 rfl) hw25 hw24 hw3 hw26 (by decide) pd_6 rfl rfl (W := 0) (by simp [Value.category]) (by decide) (by decide) (by decide) (by decide) (fun v_120 h_118 q_119 => ?_)
                        obtain ⟨rfl, rfl⟩ := q_119
                        show G h_96 7 14 (mkF m 198 #[vi p, vi x1, vi x2, vi y1, vi y2, vi zz, vi 0, vi 0, vi w, vr o_1, vr o_11, vi 1, .unset, .unset, .unset, .unset, .unset] [(.int n1_101)])
                        refine K.iconst at_198 (pc' := 199) rfl (z := 1) rfl ?_
                        refine K.icmp_ne at_199 (pc1 := 202) rfl (by decide) (pc2 := 206) (by decide) (a := n1_101.toInt) (b := 1) rfl rfl (fun c199 => ?_) (fun c199 => ?_)
                        · exfalso; have o0 : (0 : Int32).toInt = 0 := rfl; have o1 : (1 : Int32).toInt = 1 := rfl; have o2 : (2 : Int32).toInt = 2 := rfl; omega
                        · refine K.iconst at_202 (pc' := 203) rfl (z := 1) rfl ?_
                          refine K.goto at_203 (by decide) (pc' := 207) (by decide) ?_
                          refine K.istore at_207 (pc' := 209) rfl (L' := #[vi p, vi x1, vi x2, vi y1, vi y2, vi zz, vi 0, vi 0, vi w, vr o_1, vr o_11, vi 1, .unset, .unset, .unset, .unset, .unset]) rfl ?_
                          refine K.aload at_209 (pc' := 211) rfl rfl rfl ?_
                          have sz_122 : n0 ≤ h_96.size := Nat.le_trans sz_94 K_102.1
                          refine K.callv (z := (⟨sC, "iterator", "()Ljava/util/Iterator;"⟩ : MethodName)) (argsL := []) (rest := []) at_211 (pc' := 214) rfl (c_it1 l Z a0 hw n0 h_96 (b := o_11) (x := lk_100) sz_122 f_117 f_108) f_117 hw29 hw30 (nf_sel hw32 rfl) hw32 hw31 hw3 hw33 (by decide) pd_7 rfl rfl (W := 0) (by simp [Value.category]) (by decide) (by decide) (by decide) (by decide) (fun v_125 h_123 q_124 => ?_)
                          obtain ⟨w_126, rfl, K_127, f_128, f_129, f_130, f_131⟩ := q_124
                          show G h_123 8 16 (mkF m 214 #[vi p, vi x1, vi x2, vi y1, vi y2, vi zz, vi 0, vi 0, vi w, vr o_1, vr o_11, vi 1, .unset, .unset, .unset, .unset, .unset] [(.ref w_126)])
                          refine K.astore at_214 (pc' := 216) rfl rfl (L' := #[vi p, vi x1, vi x2, vi y1, vi y2, vi zz, vi 0, vi 0, vi w, vr o_1, vr o_11, vi 1, vr w_126, .unset, .unset, .unset, .unset]) rfl ?_
                          refine K.iload at_216 (pc' := 218) rfl rfl ?_
                          refine K.if_eq at_218 (pc1 := 221) rfl (by decide) (pc2 := 246) (by decide) (a := 1) rfl (fun c218 => ?_) (fun c218 => ?_)
                          · exfalso; omega
                          · refine K.aload at_221 (pc' := 223) rfl rfl rfl ?_
                            refine K.iconst at_223 (pc' := 224) rfl (z := 1) rfl ?_
                            refine K.iload at_224 (pc' := 226) rfl rfl ?_
                            have f_132 : Fld Z h_123 lk_100 sL "next" dL .null := (f_107.keep K_127 nin0)
                            have f_133 : Fld Z h_123 lk_100 sL "element" "Ljava/lang/Object;" (.ref w_85) := (f_106.keep K_127 nin0)
                            have ne_134 : w_85 ≠ o_11 := (f_89.elim (fun q => Nat.ne_of_lt (Nat.lt_of_lt_of_le q ge_o_11)) (fun q => Nat.ne_of_gt (Nat.lt_of_lt_of_le x_o_11.lt (Nat.le_trans (Nat.le_trans K_41.1 (Nat.le_trans K_56.1 K_71.1)) q))))
                            have f_135 : Fld Z h_123 w_85 sN "value" "I" (.int w) := ((f_88.keep K_102 (ninS ne_134 nin0)).keep K_127 nin0)
                            have f_136 : Exa Z h_123 lk_100 sL := (f_105.keep K_127)
                            have ne_137 : lk_100 ≠ w_126 := (Nat.ne_of_lt (Nat.lt_of_lt_of_le f_105.lt (Nat.le_trans (Nat.le_refl _) f_128)))
                            have ne_138 : w_85 ≠ w_126 := (Nat.ne_of_lt (Nat.lt_of_lt_of_le f_87.lt (Nat.le_trans K_102.1 f_128)))
                            have f_139 : Exa Z h_123 w_85 sN := ((f_87.keep K_102).keep K_127)
                            refine K.calls (argsL := [(.ref w_126), (.int (1 : Int32)), (.int w)]) (rest := []) at_226 (pc' := 229) rfl (c_st10 l Z a0 hw n0 h_123 (a := w_126) (e := w) (lk := lk_100) (b := w_85) (v0 := w) f_130 f_129 f_131 f_136 ne_137 f_133 f_132 ne_138 f_139 f_135) hw78 hw79 hw80 hw81 (by decide) pd_10 rfl rfl (W := 0) (by simp [Value.category]) (by decide) (by decide) (by decide) (by decide) (fun v_142 h_140 q_141 => ?_)
                            obtain ⟨rfl, K_144, f_145⟩ := q_141
                            show G h_140 8 16 (mkF m 229 #[vi p, vi x1, vi x2, vi y1, vi y2, vi zz, vi 0, vi 0, vi w, vr o_1, vr o_11, vi 1, vr w_126, .unset, .unset, .unset, .unset] [(.int (b2 (w.toInt = w.toInt)))])
                            refine K.ifeqB at_229 (pc1 := 232) rfl (by decide) (pc2 := 246) (by decide) (fun c229 => ?_) (fun c229 => ?_)
                            · exfalso; first | exact c229 rfl | exact c229 trivial
                            · refine K.aload at_232 (pc' := 234) rfl rfl rfl ?_
                              have f_146 : Exa Z h_140 w_126 sI := (f_130.keep K_144)
                              refine K.calli (z := (⟨sI, "hasNext", "()Z"⟩ : MethodName)) (argsL := []) (rest := []) at_234 (pc' := 239) rfl (c_has0 l Z a0 hw n0 h_140 (a := w_126) f_146 f_145) f_146 hw46 hw47 hw48 rfl hw49 hw50 hw51 hw52 hw53 hw36 hw54 (by decide) pd_4 rfl rfl (W := 0) (by simp [Value.category]) (by decide) (by decide) (by decide) (by decide) (fun v_149 h_147 q_148 => ?_)
                              obtain ⟨rfl, rfl⟩ := q_148
                              show G h_140 8 16 (mkF m 239 #[vi p, vi x1, vi x2, vi y1, vi y2, vi zz, vi 0, vi 0, vi w, vr o_1, vr o_11, vi 1, vr w_126, .unset, .unset, .unset, .unset] [(.int (b2 (False)))])
                              refine K.ifneB at_239 (pc1 := 242) rfl (by decide) (pc2 := 246) (by decide) (fun c239 => ?_) (fun c239 => ?_)
                              · exfalso; exact c239
                              · refine K.iconst at_242 (pc' := 243) rfl (z := 1) rfl ?_
                                refine K.goto at_243 (by decide) (pc' := 247) (by decide) ?_
                                refine K.istore at_247 (pc' := 249) rfl (L' := #[vi p, vi x1, vi x2, vi y1, vi y2, vi zz, vi 0, vi 0, vi w, vr o_1, vr o_11, vi 1, vr w_126, .unset, .unset, .unset, .unset]) rfl ?_
                                refine K.iconst at_249 (pc' := 250) rfl (z := 5) rfl ?_
                                refine K.newa at_250 (pc' := 252) rfl hw102 (k := 5) (cap := 5) rfl (by decide) (by decide) (by decide) (by decide) (ad := "[I") (by decide) (fun h_152 a_151 g_a_151 E_153 A_154 x_a_151 => ?_)
                                have sz_155 : n0 ≤ h_140.size := Nat.le_trans sz_122 (Nat.le_trans K_127.1 K_144.1)
                                have ge_a_151 : n0 ≤ a_151 := g_a_151 ▸ sz_155
                                have A_156 : Ary Z h_152 a_151 .int [(.int (0 : Int32)), (.int (0 : Int32)), (.int (0 : Int32)), (.int (0 : Int32)), (.int (0 : Int32))] := A_154
                                refine K.astore at_252 (pc' := 254) rfl rfl (L' := #[vi p, vi x1, vi x2, vi y1, vi y2, vi zz, vi 0, vi 0, vi w, vr o_1, vr o_11, vi 1, vr w_126, vr a_151, .unset, .unset, .unset]) rfl ?_
                                refine K.iconst at_254 (pc' := 255) rfl (z := 0) rfl ?_
                                refine K.istore at_255 (pc' := 257) rfl (L' := #[vi p, vi x1, vi x2, vi y1, vi y2, vi zz, vi 0, vi 0, vi w, vr o_1, vr o_11, vi 1, vr w_126, vr a_151, vi 0, .unset, .unset]) rfl ?_
                                refine K.iload at_257 (pc' := 259) rfl rfl ?_
                                refine K.if_le at_259 (pc1 := 262) rfl (by decide) (pc2 := 271) (by decide) (a := 0) rfl (fun c259 => ?_) (fun c259 => ?_)
                                · refine K.iload at_271 (pc' := 273) rfl rfl ?_
                                  refine K.iconst at_273 (pc' := 274) rfl (z := 1) rfl ?_
                                  refine K.icmp_le at_274 (pc1 := 277) rfl (by decide) (pc2 := 286) (by decide) (a := 0) (b := 1) rfl rfl (fun c274 => ?_) (fun c274 => ?_)
                                  · refine K.iload at_286 (pc' := 288) rfl rfl ?_
                                    refine K.if_le at_288 (pc1 := 291) rfl (by decide) (pc2 := 300) (by decide) (a := 0) rfl (fun c288 => ?_) (fun c288 => ?_)
                                    · refine K.iload at_300 (pc' := 302) rfl rfl ?_
                                      refine K.iconst at_302 (pc' := 303) rfl (z := 1) rfl ?_
                                      refine K.icmp_le at_303 (pc1 := 306) rfl (by decide) (pc2 := 316) (by decide) (a := 0) (b := 1) rfl rfl (fun c303 => ?_) (fun c303 => ?_)
                                      · refine K.aload at_316 (pc' := 318) rfl rfl rfl ?_
                                        refine K.iload at_318 (pc' := 320) rfl rfl ?_
                                        refine K.iload at_320 (pc' := 322) rfl rfl ?_
                                        refine K.iast at_322 (pc' := 323) rfl A_156 (i := 0) rfl (show 0 < 5 by decide) ge_a_151 (fun h_157 W_158 A_159 => ?_)
                                        have A_160 : Ary Z h_157 a_151 .int [(.int zz), (.int (0 : Int32)), (.int (0 : Int32)), (.int (0 : Int32)), (.int (0 : Int32))] := A_159
                                        refine K.iinc at_323 (pc' := 326) rfl rfl (z := (1 : Int32)) rfl (L' := #[vi p, vi x1, vi x2, vi y1, vi y2, vi zz, vi 0, vi 0, vi w, vr o_1, vr o_11, vi 1, vr w_126, vr a_151, vi 1, .unset, .unset]) rfl ?_
                                        refine K.iload at_326 (pc' := 328) rfl rfl ?_
                                        refine K.istore at_328 (pc' := 330) rfl (L' := #[vi p, vi x1, vi x2, vi y1, vi y2, vi zz, vi 0, vi 0, vi w, vr o_1, vr o_11, vi 1, vr w_126, vr a_151, vi 1, vi 1, .unset]) rfl ?_
                                        refine K.aload at_330 (pc' := 332) rfl rfl rfl ?_
                                        have f_161 : Exa Z h_157 o_1 sC := ((((f_111.keep K_127).keep K_144).ext E_153).wr W_158)
                                        have ne_162 : o_1 ≠ w_126 := (Nat.ne_of_lt (Nat.lt_of_lt_of_le x_o_1.lt (Nat.le_trans (Nat.le_trans E_13.1 (Nat.le_trans K_41.1 (Nat.le_trans K_56.1 (Nat.le_trans K_71.1 (Nat.le_trans K_86.1 K_102.1))))) f_128)))
                                        have ne_163 : o_1 ≠ a_151 := (Nat.ne_of_lt (Nat.lt_of_lt_of_le x_o_1.lt (Nat.le_trans (Nat.le_trans E_13.1 (Nat.le_trans K_41.1 (Nat.le_trans K_56.1 (Nat.le_trans K_71.1 (Nat.le_trans K_86.1 (Nat.le_trans K_102.1 (Nat.le_trans K_127.1 K_144.1))))))) (Nat.le_of_eq g_a_151.symm))))
                                        have f_164 : Fld Z h_157 o_1 sC "first" dL (.ref lk_69) := ((((((f_77.keep K_86 nin0).keep K_102 (ninS (Ne.symm ne_91) nin0)).keep K_127 nin0).keep K_144 (ninS ne_162 nin0)).ext E_153).other W_158 (Or.inl ne_163))
                                        have sz_165 : n0 ≤ h_157.size := Nat.le_trans sz_155 (Nat.le_trans E_153.1 (Keep.of_wr W_158).1)
                                        refine K.callv (z := (⟨sC, "iterator", "()Ljava/util/Iterator;"⟩ : MethodName)) (argsL := []) (rest := []) at_332 (pc' := 335) rfl (c_it1 l Z a0 hw n0 h_157 (b := o_1) (x := lk_69) sz_165 f_161 f_164) f_161 hw29 hw30 (nf_sel hw32 rfl) hw32 hw31 hw3 hw33 (by decide) pd_7 rfl rfl (W := 0) (by simp [Value.category]) (by decide) (by decide) (by decide) (by decide) (fun v_168 h_166 q_167 => ?_)
                                        obtain ⟨w_169, rfl, K_170, f_171, f_172, f_173, f_174⟩ := q_167
                                        show G h_166 10 23 (mkF m 335 #[vi p, vi x1, vi x2, vi y1, vi y2, vi zz, vi 0, vi 0, vi w, vr o_1, vr o_11, vi 1, vr w_126, vr a_151, vi 1, vi 1, .unset] [(.ref w_169)])
                                        refine K.astore at_335 (pc' := 337) rfl rfl (L' := #[vi p, vi x1, vi x2, vi y1, vi y2, vi zz, vi 0, vi 0, vi w, vr o_1, vr o_11, vi 1, vr w_126, vr a_151, vi 1, vi 1, vr w_169]) rfl ?_
                                        refine K.iload at_337 (pc' := 339) rfl rfl ?_
                                        refine K.if_eq at_339 (pc1 := 342) rfl (by decide) (pc2 := 369) (by decide) (a := 1) rfl (fun c339 => ?_) (fun c339 => ?_)
                                        · exfalso; omega
                                        · refine K.aload at_342 (pc' := 344) rfl rfl rfl ?_
                                          refine K.iconst at_344 (pc' := 345) rfl (z := 0) rfl ?_
                                          refine K.iload at_345 (pc' := 347) rfl rfl ?_
                                          refine K.icmp_ge at_347 (pc1 := 350) rfl (by decide) (pc2 := 354) (by decide) (a := 0) (b := 1) rfl rfl (fun c347 => ?_) (fun c347 => ?_)
                                          · exfalso; omega
                                          · refine K.iconst at_350 (pc' := 351) rfl (z := 1) rfl ?_
                                            refine K.goto at_351 (by decide) (pc' := 355) (by decide) ?_
                                            refine K.aload at_355 (pc' := 357) rfl rfl rfl ?_
                                            refine K.iconst at_357 (pc' := 358) rfl (z := 0) rfl ?_
                                            have f_175 : Ary Z h_166 a_151 .int [(.int zz), (.int (0 : Int32)), (.int (0 : Int32)), (.int (0 : Int32)), (.int (0 : Int32))] := (A_160.keep K_170 nin0)
                                            refine K.iald at_358 (pc' := 359) rfl f_175 (i := 0) rfl rfl ?_
                                            have ne_176 : lk_69 ≠ o_11 := (Ne.symm (Nat.ne_of_lt (Nat.lt_of_lt_of_le x_o_11.lt (Nat.le_trans (Nat.le_trans K_41.1 K_56.1) f_72))))
                                            have ne_177 : lk_69 ≠ w_126 := (Nat.ne_of_lt (Nat.lt_of_lt_of_le f_74.lt (Nat.le_trans (Nat.le_trans K_86.1 K_102.1) f_128)))
                                            have ne_178 : lk_69 ≠ a_151 := (Nat.ne_of_lt (Nat.lt_of_lt_of_le f_74.lt (Nat.le_trans (Nat.le_trans K_86.1 (Nat.le_trans K_102.1 (Nat.le_trans K_127.1 K_144.1))) (Nat.le_of_eq g_a_151.symm))))
                                            have f_179 : Fld Z h_166 lk_69 sL "next" dL .null := (((((((f_76.keep K_86 nin0).keep K_102 (ninS ne_176 nin0)).keep K_127 nin0).keep K_144 (ninS ne_177 nin0)).ext E_153).other W_158 (Or.inl ne_178)).keep K_170 nin0)
                                            have f_180 : Fld Z h_166 lk_69 sL "element" "Ljava/lang/Object;" (.ref w_55) := (((((((f_75.keep K_86 nin0).keep K_102 (ninS ne_176 nin0)).keep K_127 nin0).keep K_144 (ninS ne_177 nin0)).ext E_153).other W_158 (Or.inl ne_178)).keep K_170 nin0)
                                            have ne_181 : w_55 ≠ o_1 := (f_59.elim (fun q => Nat.ne_of_lt (Nat.lt_of_lt_of_le q ge_o_1)) (fun q => Nat.ne_of_gt (Nat.lt_of_lt_of_le x_o_1.lt (Nat.le_trans (Nat.le_trans E_13.1 K_41.1) q))))
                                            have ne_182 : w_55 ≠ o_11 := (f_59.elim (fun q => Nat.ne_of_lt (Nat.lt_of_lt_of_le q ge_o_11)) (fun q => Nat.ne_of_gt (Nat.lt_of_lt_of_le x_o_11.lt (Nat.le_trans K_41.1 q))))
                                            have ne_183 : w_55 ≠ w_126 := (Nat.ne_of_lt (Nat.lt_of_lt_of_le f_57.lt (Nat.le_trans (Nat.le_trans K_71.1 (Nat.le_trans K_86.1 K_102.1)) f_128)))
                                            have ne_184 : w_55 ≠ a_151 := (Nat.ne_of_lt (Nat.lt_of_lt_of_le f_57.lt (Nat.le_trans (Nat.le_trans K_71.1 (Nat.le_trans K_86.1 (Nat.le_trans K_102.1 (Nat.le_trans K_127.1 K_144.1)))) (Nat.le_of_eq g_a_151.symm))))
                                            have f_185 : Fld Z h_166 w_55 sN "value" "I" (.int zz) := ((((((((f_58.keep K_71 (ninS ne_181 nin0)).keep K_86 nin0).keep K_102 (ninS ne_182 nin0)).keep K_127 nin0).keep K_144 (ninS ne_183 nin0)).ext E_153).other W_158 (Or.inl ne_184)).keep K_170 nin0)
                                            have f_186 : Exa Z h_166 lk_69 sL := (((((((f_74.keep K_86).keep K_102).keep K_127).keep K_144).ext E_153).wr W_158).keep K_170)
                                            have ne_187 : lk_69 ≠ w_169 := (Nat.ne_of_lt (Nat.lt_of_lt_of_le f_74.lt (Nat.le_trans (Nat.le_trans K_86.1 (Nat.le_trans K_102.1 (Nat.le_trans K_127.1 (Nat.le_trans K_144.1 (Nat.le_trans E_153.1 (Keep.of_wr W_158).1))))) f_171)))
                                            have ne_188 : w_55 ≠ w_169 := (Nat.ne_of_lt (Nat.lt_of_lt_of_le f_57.lt (Nat.le_trans (Nat.le_trans K_71.1 (Nat.le_trans K_86.1 (Nat.le_trans K_102.1 (Nat.le_trans K_127.1 (Nat.le_trans K_144.1 (Nat.le_trans E_153.1 (Keep.of_wr W_158).1)))))) f_171)))
                                            have f_189 : Exa Z h_166 w_55 sN := ((((((((f_57.keep K_71).keep K_86).keep K_102).keep K_127).keep K_144).ext E_153).wr W_158).keep K_170)
                                            refine K.calls (argsL := [(.ref w_169), (.int (1 : Int32)), (.int zz)]) (rest := []) at_359 (pc' := 362) rfl (c_st10 l Z a0 hw n0 h_166 (a := w_169) (e := zz) (lk := lk_69) (b := w_55) (v0 := zz) f_173 f_172 f_174 f_186 ne_187 f_180 f_179 ne_188 f_189 f_185) hw78 hw79 hw80 hw81 (by decide) pd_10 rfl rfl (W := 0) (by simp [Value.category]) (by decide) (by decide) (by decide) (by decide) (fun v_192 h_190 q_191 => ?_)
                                            obtain ⟨rfl, K_194, f_195⟩ := q_191
                                            show G h_190 10 23 (mkF m 362 #[vi p, vi x1, vi x2, vi y1, vi y2, vi zz, vi 0, vi 0, vi w, vr o_1, vr o_11, vi 1, vr w_126, vr a_151, vi 1, vi 1, vr w_169] [(.int (b2 (zz.toInt = zz.toInt)))])
                                            refine K.ifeqB at_362 (pc1 := 365) rfl (by decide) (pc2 := 369) (by decide) (fun c362 => ?_) (fun c362 => ?_)
                                            · exfalso; first | exact c362 rfl | exact c362 trivial
                                            · refine K.iconst at_365 (pc' := 366) rfl (z := 1) rfl ?_
                                              refine K.goto at_366 (by decide) (pc' := 370) (by decide) ?_
                                              refine K.istore at_370 (pc' := 372) rfl (L' := #[vi p, vi x1, vi x2, vi y1, vi y2, vi zz, vi 0, vi 0, vi w, vr o_1, vr o_11, vi 1, vr w_126, vr a_151, vi 1, vi 1, vr w_169]) rfl ?_
                                              refine K.iload at_372 (pc' := 374) rfl rfl ?_
                                              refine K.if_eq at_374 (pc1 := 377) rfl (by decide) (pc2 := 404) (by decide) (a := 1) rfl (fun c374 => ?_) (fun c374 => ?_)
                                              · exfalso; omega
                                              · refine K.aload at_377 (pc' := 379) rfl rfl rfl ?_
                                                refine K.iconst at_379 (pc' := 380) rfl (z := 1) rfl ?_
                                                refine K.iload at_380 (pc' := 382) rfl rfl ?_
                                                refine K.icmp_ge at_382 (pc1 := 385) rfl (by decide) (pc2 := 389) (by decide) (a := 1) (b := 1) rfl rfl (fun c382 => ?_) (fun c382 => ?_)
                                                · refine K.iconst at_389 (pc' := 390) rfl (z := 0) rfl ?_
                                                  refine K.aload at_390 (pc' := 392) rfl rfl rfl ?_
                                                  refine K.iconst at_392 (pc' := 393) rfl (z := 1) rfl ?_
                                                  have ne_196 : a_151 ≠ w_169 := (Nat.ne_of_lt (Nat.lt_of_lt_of_le A_156.lt (Nat.le_trans (Keep.of_wr W_158).1 f_171)))
                                                  have f_197 : Ary Z h_190 a_151 .int [(.int zz), (.int (0 : Int32)), (.int (0 : Int32)), (.int (0 : Int32)), (.int (0 : Int32))] := (f_175.keep K_194 (ninS ne_196 nin0))
                                                  refine K.iald at_393 (pc' := 394) rfl f_197 (i := 1) rfl rfl ?_
                                                  refine K.calls (argsL := [(.ref w_169), (.int (0 : Int32)), (.int (0 : Int32))]) (rest := []) at_394 (pc' := 397) rfl (c_st0 l Z a0 hw n0 h_190 (a := w_169) (e := (0 : Int32)) ) hw78 hw79 hw80 hw81 (by decide) pd_10 rfl rfl (W := 0) (by simp [Value.category]) (by decide) (by decide) (by decide) (by decide) (fun v_200 h_198 q_199 => ?_)
                                                  obtain ⟨rfl, rfl⟩ := q_199
                                                  show G h_190 10 23 (mkF m 397 #[vi p, vi x1, vi x2, vi y1, vi y2, vi zz, vi 0, vi 0, vi w, vr o_1, vr o_11, vi 1, vr w_126, vr a_151, vi 1, vi 1, vr w_169] [(.int (b2 (True)))])
                                                  refine K.ifeqB at_397 (pc1 := 400) rfl (by decide) (pc2 := 404) (by decide) (fun c397 => ?_) (fun c397 => ?_)
                                                  · exfalso; first | exact c397 rfl | exact c397 trivial
                                                  · refine K.iconst at_400 (pc' := 401) rfl (z := 1) rfl ?_
                                                    refine K.goto at_401 (by decide) (pc' := 405) (by decide) ?_
                                                    refine K.istore at_405 (pc' := 407) rfl (L' := #[vi p, vi x1, vi x2, vi y1, vi y2, vi zz, vi 0, vi 0, vi w, vr o_1, vr o_11, vi 1, vr w_126, vr a_151, vi 1, vi 1, vr w_169]) rfl ?_
                                                    refine K.iload at_407 (pc' := 409) rfl rfl ?_
                                                    refine K.if_eq at_409 (pc1 := 412) rfl (by decide) (pc2 := 439) (by decide) (a := 1) rfl (fun c409 => ?_) (fun c409 => ?_)
                                                    · exfalso; omega
                                                    · refine K.aload at_412 (pc' := 414) rfl rfl rfl ?_
                                                      refine K.iconst at_414 (pc' := 415) rfl (z := 2) rfl ?_
                                                      refine K.iload at_415 (pc' := 417) rfl rfl ?_
                                                      refine K.icmp_ge at_417 (pc1 := 420) rfl (by decide) (pc2 := 424) (by decide) (a := 2) (b := 1) rfl rfl (fun c417 => ?_) (fun c417 => ?_)
                                                      · refine K.iconst at_424 (pc' := 425) rfl (z := 0) rfl ?_
                                                        refine K.aload at_425 (pc' := 427) rfl rfl rfl ?_
                                                        refine K.iconst at_427 (pc' := 428) rfl (z := 2) rfl ?_
                                                        refine K.iald at_428 (pc' := 429) rfl f_197 (i := 2) rfl rfl ?_
                                                        refine K.calls (argsL := [(.ref w_169), (.int (0 : Int32)), (.int (0 : Int32))]) (rest := []) at_429 (pc' := 432) rfl (c_st0 l Z a0 hw n0 h_190 (a := w_169) (e := (0 : Int32)) ) hw78 hw79 hw80 hw81 (by decide) pd_10 rfl rfl (W := 0) (by simp [Value.category]) (by decide) (by decide) (by decide) (by decide) (fun v_204 h_202 q_203 => ?_)
                                                        obtain ⟨rfl, rfl⟩ := q_203
                                                        show G h_190 10 23 (mkF m 432 #[vi p, vi x1, vi x2, vi y1, vi y2, vi zz, vi 0, vi 0, vi w, vr o_1, vr o_11, vi 1, vr w_126, vr a_151, vi 1, vi 1, vr w_169] [(.int (b2 (True)))])
                                                        refine K.ifeqB at_432 (pc1 := 435) rfl (by decide) (pc2 := 439) (by decide) (fun c432 => ?_) (fun c432 => ?_)
                                                        · exfalso; first | exact c432 rfl | exact c432 trivial
                                                        · refine K.iconst at_435 (pc' := 436) rfl (z := 1) rfl ?_
                                                          refine K.goto at_436 (by decide) (pc' := 440) (by decide) ?_
                                                          refine K.istore at_440 (pc' := 442) rfl (L' := #[vi p, vi x1, vi x2, vi y1, vi y2, vi zz, vi 0, vi 0, vi w, vr o_1, vr o_11, vi 1, vr w_126, vr a_151, vi 1, vi 1, vr w_169]) rfl ?_
                                                          refine K.iload at_442 (pc' := 444) rfl rfl ?_
                                                          refine K.if_eq at_444 (pc1 := 447) rfl (by decide) (pc2 := 474) (by decide) (a := 1) rfl (fun c444 => ?_) (fun c444 => ?_)
                                                          · exfalso; omega
                                                          · refine K.aload at_447 (pc' := 449) rfl rfl rfl ?_
                                                            refine K.iconst at_449 (pc' := 450) rfl (z := 3) rfl ?_
                                                            refine K.iload at_450 (pc' := 452) rfl rfl ?_
                                                            refine K.icmp_ge at_452 (pc1 := 455) rfl (by decide) (pc2 := 459) (by decide) (a := 3) (b := 1) rfl rfl (fun c452 => ?_) (fun c452 => ?_)
                                                            · refine K.iconst at_459 (pc' := 460) rfl (z := 0) rfl ?_
                                                              refine K.aload at_460 (pc' := 462) rfl rfl rfl ?_
                                                              refine K.iconst at_462 (pc' := 463) rfl (z := 3) rfl ?_
                                                              refine K.iald at_463 (pc' := 464) rfl f_197 (i := 3) rfl rfl ?_
                                                              refine K.calls (argsL := [(.ref w_169), (.int (0 : Int32)), (.int (0 : Int32))]) (rest := []) at_464 (pc' := 467) rfl (c_st0 l Z a0 hw n0 h_190 (a := w_169) (e := (0 : Int32)) ) hw78 hw79 hw80 hw81 (by decide) pd_10 rfl rfl (W := 0) (by simp [Value.category]) (by decide) (by decide) (by decide) (by decide) (fun v_208 h_206 q_207 => ?_)
                                                              obtain ⟨rfl, rfl⟩ := q_207
                                                              show G h_190 10 23 (mkF m 467 #[vi p, vi x1, vi x2, vi y1, vi y2, vi zz, vi 0, vi 0, vi w, vr o_1, vr o_11, vi 1, vr w_126, vr a_151, vi 1, vi 1, vr w_169] [(.int (b2 (True)))])
                                                              refine K.ifeqB at_467 (pc1 := 470) rfl (by decide) (pc2 := 474) (by decide) (fun c467 => ?_) (fun c467 => ?_)
                                                              · exfalso; first | exact c467 rfl | exact c467 trivial
                                                              · refine K.iconst at_470 (pc' := 471) rfl (z := 1) rfl ?_
                                                                refine K.goto at_471 (by decide) (pc' := 475) (by decide) ?_
                                                                refine K.istore at_475 (pc' := 477) rfl (L' := #[vi p, vi x1, vi x2, vi y1, vi y2, vi zz, vi 0, vi 0, vi w, vr o_1, vr o_11, vi 1, vr w_126, vr a_151, vi 1, vi 1, vr w_169]) rfl ?_
                                                                refine K.iload at_477 (pc' := 479) rfl rfl ?_
                                                                refine K.if_eq at_479 (pc1 := 482) rfl (by decide) (pc2 := 509) (by decide) (a := 1) rfl (fun c479 => ?_) (fun c479 => ?_)
                                                                · exfalso; omega
                                                                · refine K.aload at_482 (pc' := 484) rfl rfl rfl ?_
                                                                  refine K.iconst at_484 (pc' := 485) rfl (z := 4) rfl ?_
                                                                  refine K.iload at_485 (pc' := 487) rfl rfl ?_
                                                                  refine K.icmp_ge at_487 (pc1 := 490) rfl (by decide) (pc2 := 494) (by decide) (a := 4) (b := 1) rfl rfl (fun c487 => ?_) (fun c487 => ?_)
                                                                  · refine K.iconst at_494 (pc' := 495) rfl (z := 0) rfl ?_
                                                                    refine K.aload at_495 (pc' := 497) rfl rfl rfl ?_
                                                                    refine K.iconst at_497 (pc' := 498) rfl (z := 4) rfl ?_
                                                                    refine K.iald at_498 (pc' := 499) rfl f_197 (i := 4) rfl rfl ?_
                                                                    refine K.calls (argsL := [(.ref w_169), (.int (0 : Int32)), (.int (0 : Int32))]) (rest := []) at_499 (pc' := 502) rfl (c_st0 l Z a0 hw n0 h_190 (a := w_169) (e := (0 : Int32)) ) hw78 hw79 hw80 hw81 (by decide) pd_10 rfl rfl (W := 0) (by simp [Value.category]) (by decide) (by decide) (by decide) (by decide) (fun v_212 h_210 q_211 => ?_)
                                                                    obtain ⟨rfl, rfl⟩ := q_211
                                                                    show G h_190 10 23 (mkF m 502 #[vi p, vi x1, vi x2, vi y1, vi y2, vi zz, vi 0, vi 0, vi w, vr o_1, vr o_11, vi 1, vr w_126, vr a_151, vi 1, vi 1, vr w_169] [(.int (b2 (True)))])
                                                                    refine K.ifeqB at_502 (pc1 := 505) rfl (by decide) (pc2 := 509) (by decide) (fun c502 => ?_) (fun c502 => ?_)
                                                                    · exfalso; first | exact c502 rfl | exact c502 trivial
                                                                    · refine K.iconst at_505 (pc' := 506) rfl (z := 1) rfl ?_
                                                                      refine K.goto at_506 (by decide) (pc' := 510) (by decide) ?_
                                                                      refine K.istore at_510 (pc' := 512) rfl (L' := #[vi p, vi x1, vi x2, vi y1, vi y2, vi zz, vi 0, vi 0, vi w, vr o_1, vr o_11, vi 1, vr w_126, vr a_151, vi 1, vi 1, vr w_169]) rfl ?_
                                                                      refine K.iload at_512 (pc' := 514) rfl rfl ?_
                                                                      refine K.if_eq at_514 (pc1 := 517) rfl (by decide) (pc2 := 531) (by decide) (a := 1) rfl (fun c514 => ?_) (fun c514 => ?_)
                                                                      · exfalso; omega
                                                                      · refine K.aload at_517 (pc' := 519) rfl rfl rfl ?_
                                                                        have f_214 : Exa Z h_190 w_169 sI := (f_173.keep K_194)
                                                                        refine K.calli (z := (⟨sI, "hasNext", "()Z"⟩ : MethodName)) (argsL := []) (rest := []) at_519 (pc' := 524) rfl (c_has0 l Z a0 hw n0 h_190 (a := w_169) f_214 f_195) f_214 hw46 hw47 hw48 rfl hw49 hw50 hw51 hw52 hw53 hw36 hw54 (by decide) pd_4 rfl rfl (W := 0) (by simp [Value.category]) (by decide) (by decide) (by decide) (by decide) (fun v_217 h_215 q_216 => ?_)
                                                                        obtain ⟨rfl, rfl⟩ := q_216
                                                                        show G h_190 10 23 (mkF m 524 #[vi p, vi x1, vi x2, vi y1, vi y2, vi zz, vi 0, vi 0, vi w, vr o_1, vr o_11, vi 1, vr w_126, vr a_151, vi 1, vi 1, vr w_169] [(.int (b2 (False)))])
                                                                        refine K.ifneB at_524 (pc1 := 527) rfl (by decide) (pc2 := 531) (by decide) (fun c524 => ?_) (fun c524 => ?_)
                                                                        · exfalso; exact c524
                                                                        · refine K.iconst at_527 (pc' := 528) rfl (z := 1) rfl ?_
                                                                          refine K.goto at_528 (by decide) (pc' := 532) (by decide) ?_
                                                                          exact K.retz at_532 (Or.inr rfl) (by decide) (by decide) rfl
                                                                  · exfalso; omega
                                                            · exfalso; omega
                                                      · exfalso; omega
                                                · exfalso; omega
                                      · exfalso; omega
                                    · exfalso; omega
                                  · exfalso; omega
                                · exfalso; omega
            · exfalso; omega
          · exfalso; omega
        · exfalso; omega
      · exfalso; omega
    · refine K.iload at_16 (pc' := 18) rfl rfl ?_
      refine K.iconst at_18 (pc' := 19) rfl (z := -1) rfl ?_
      obtain ⟨w, e_w⟩ : ∃ z, zz ^^^ (-1 : Int32) = z := ⟨_, rfl⟩
      refine K.ixor at_19 (pc' := 20) rfl e_w ?_
      refine K.istore at_20 (pc' := 22) rfl (L' := #[vi p, vi x1, vi x2, vi y1, vi y2, vi zz, vi 0, vi 1, vi w, .unset, .unset, .unset, .unset, .unset, .unset, .unset, .unset]) rfl ?_
      refine K.newo at_22 (pc' := 25) rfl hw1 hw2 hw3 (by decide) (by decide) (fun h_220 o_219 g_o_219 E_221 x_o_219 D_o_219 => ?_)
      have ge_o_219 : n0 ≤ o_219 := g_o_219 ▸ Z0
      have f_222 : Fld Z h_220 o_219 sC "first" dL .null := D_o_219 (Or.inl hw21) (ty := (.object sL)) (by decide)
      have f_223 : Fld Z h_220 o_219 sC "size" "I" (.int (0 : Int32)) := D_o_219 (Or.inl hw28) (ty := .int) (by decide)
      have f_224 : Fld Z h_220 o_219 sC "last" dL .null := D_o_219 (Or.inl hw77) (ty := (.object sL)) (by decide)
      refine K.dup at_25 (pc' := 26) rfl rfl ?_
      refine K.callc (argsL := []) (rest := [(.ref o_219)]) at_26 (pc' := 29) rfl rfl (c_chn l Z a0 hw n0 h_220 (a := o_219) ) hw4 hw5 hw3 hw6 (by decide) pd_0 rfl rfl (W := 1) (by simp [Value.category]) (by decide) (by decide) (by decide) (by decide) (fun v_227 h_225 q_226 => ?_)
      obtain ⟨rfl, rfl⟩ := q_226
      show G h_220 1 3 (mkF m 29 #[vi p, vi x1, vi x2, vi y1, vi y2, vi zz, vi 0, vi 1, vi w, .unset, .unset, .unset, .unset, .unset, .unset, .unset, .unset] [(.ref o_219)])
      refine K.astore at_29 (pc' := 31) rfl rfl (L' := #[vi p, vi x1, vi x2, vi y1, vi y2, vi zz, vi 0, vi 1, vi w, vr o_219, .unset, .unset, .unset, .unset, .unset, .unset, .unset]) rfl ?_
      refine K.newo at_31 (pc' := 34) rfl hw1 hw2 hw3 (by decide) (by decide) (fun h_230 o_229 g_o_229 E_231 x_o_229 D_o_229 => ?_)
      have sz_232 : n0 ≤ h_220.size := Nat.le_trans Z0 E_221.1
      have ge_o_229 : n0 ≤ o_229 := g_o_229 ▸ sz_232
      have f_233 : Fld Z h_230 o_229 sC "first" dL .null := D_o_229 (Or.inl hw21) (ty := (.object sL)) (by decide)
      have f_234 : Fld Z h_230 o_229 sC "size" "I" (.int (0 : Int32)) := D_o_229 (Or.inl hw28) (ty := .int) (by decide)
      have f_235 : Fld Z h_230 o_229 sC "last" dL .null := D_o_229 (Or.inl hw77) (ty := (.object sL)) (by decide)
      refine K.dup at_34 (pc' := 35) rfl rfl ?_
      refine K.callc (argsL := []) (rest := [(.ref o_229)]) at_35 (pc' := 38) rfl rfl (c_chn l Z a0 hw n0 h_230 (a := o_229) ) hw4 hw5 hw3 hw6 (by decide) pd_0 rfl rfl (W := 1) (by simp [Value.category]) (by decide) (by decide) (by decide) (by decide) (fun v_238 h_236 q_237 => ?_)
      obtain ⟨rfl, rfl⟩ := q_237
      show G h_230 2 6 (mkF m 38 #[vi p, vi x1, vi x2, vi y1, vi y2, vi zz, vi 0, vi 1, vi w, vr o_219, .unset, .unset, .unset, .unset, .unset, .unset, .unset] [(.ref o_229)])
      refine K.astore at_38 (pc' := 40) rfl rfl (L' := #[vi p, vi x1, vi x2, vi y1, vi y2, vi zz, vi 0, vi 1, vi w, vr o_219, vr o_229, .unset, .unset, .unset, .unset, .unset, .unset]) rfl ?_
      refine K.iload at_40 (pc' := 42) rfl rfl ?_
      refine K.if_le at_42 (pc1 := 45) rfl (by decide) (pc2 := 55) (by decide) (a := 0) rfl (fun c42 => ?_) (fun c42 => ?_)
      · refine K.iload at_55 (pc' := 57) rfl rfl ?_
        refine K.iconst at_57 (pc' := 58) rfl (z := 1) rfl ?_
        refine K.icmp_le at_58 (pc1 := 61) rfl (by decide) (pc2 := 71) (by decide) (a := 0) (b := 1) rfl rfl (fun c58 => ?_) (fun c58 => ?_)
        · refine K.iload at_71 (pc' := 73) rfl rfl ?_
          refine K.if_le at_73 (pc1 := 76) rfl (by decide) (pc2 := 86) (by decide) (a := 1) rfl (fun c73 => ?_) (fun c73 => ?_)
          · exfalso; omega
          · refine K.aload at_76 (pc' := 78) rfl rfl rfl ?_
            refine K.iloadN at_78 (pc' := 79) rfl rfl ?_
            have sz_240 : n0 ≤ h_230.size := Nat.le_trans sz_232 E_231.1
            have f_241 : Old Z n0 h_230 := ((P2.ext E_221).ext E_231)
            refine K.calls (argsL := [(.int y1)]) (rest := [(.ref o_229)]) at_79 (pc' := 82) rfl (c_val l Z a0 hw n0 h_230 (p := y1) (ca := ca) (cc := cc) sz_240 f_241 P3 P4 hbx) hw55 hw56 hw57 hw58 (by decide) pd_8 rfl rfl (W := 1) (by simp [Value.category]) (by decide) (by decide) (by decide) (by decide) (fun v_244 h_242 q_243 => ?_)
            obtain ⟨w_245, rfl, K_246, f_247, f_248, f_249⟩ := q_243
            show G h_242 3 7 (mkF m 82 #[vi p, vi x1, vi x2, vi y1, vi y2, vi zz, vi 0, vi 1, vi w, vr o_219, vr o_229, .unset, .unset, .unset, .unset, .unset, .unset] [(.ref w_245), (.ref o_229)])
            have f_250 : Exa Z h_242 o_229 sC := (x_o_229.keep K_246)
            have f_251 : Fld Z h_242 o_229 sC "last" dL .null := (f_235.keep K_246 nin0)
            have f_252 : Fld Z h_242 o_229 sC "size" "I" (.int (0 : Int32)) := (f_234.keep K_246 nin0)
            have sz_253 : n0 ≤ h_242.size := Nat.le_trans sz_240 K_246.1
            have f_254 : Fld Z h_242 o_229 sC "first" dL .null := (f_233.keep K_246 nin0)
            refine K.callv (z := (⟨sC, "add", "(Ljava/lang/Object;)Z"⟩ : MethodName)) (argsL := [(.ref w_245)]) (rest := []) at_82 (pc' := 85) rfl (c_add0 l Z a0 hw n0 h_242 (a := o_229) (e := w_245) (n := (0 : Int32)) sz_253 f_250 ge_o_229 f_254 f_251 f_252 (by first | decide | omega)) f_250 hw62 hw63 (nf_sel hw65 rfl) hw65 hw64 hw3 hw66 (by decide) pd_9 rfl rfl (W := 0) (by simp [Value.category]) (by decide) (by decide) (by decide) (by decide) (fun v_257 h_255 q_256 => ?_)
            obtain ⟨lk_259, n1_260, rfl, K_261, hn1_w_258, f_262, f_263, f_264, f_265, f_266, f_267, f_268, f_269⟩ := q_256
            show G h_255 4 9 (mkF m 85 #[vi p, vi x1, vi x2, vi y1, vi y2, vi zz, vi 0, vi 1, vi w, vr o_219, vr o_229, .unset, .unset, .unset, .unset, .unset, .unset] [(.int (b2 (True)))])
            refine K.pop at_85 (pc' := 86) rfl rfl ?_
            refine K.iload at_86 (pc' := 88) rfl rfl ?_
            refine K.iconst at_88 (pc' := 89) rfl (z := 1) rfl ?_
            refine K.icmp_le at_89 (pc1 := 92) rfl (by decide) (pc2 := 103) (by decide) (a := 1) (b := 1) rfl rfl (fun c89 => ?_) (fun c89 => ?_)
            · refine K.aload at_103 (pc' := 105) rfl rfl rfl ?_
              refine K.aload at_105 (pc' := 107) rfl rfl rfl ?_
              have f_270 : Exa Z h_255 o_219 sC := (((x_o_219.ext E_231).keep K_246).keep K_261)
              have ne_271 : o_219 ≠ o_229 := (Nat.ne_of_lt (Nat.lt_of_lt_of_le x_o_219.lt (Nat.le_trans (Nat.le_refl _) (Nat.le_of_eq g_o_229.symm))))
              have f_272 : Fld Z h_255 o_219 sC "last" dL .null := (((f_224.ext E_231).keep K_246 nin0).keep K_261 (ninS ne_271 nin0))
              have f_273 : Fld Z h_255 o_219 sC "size" "I" (.int (0 : Int32)) := (((f_223.ext E_231).keep K_246 nin0).keep K_261 (ninS ne_271 nin0))
              have f_274 : Exa Z h_255 o_229 sC := (f_250.keep K_261)
              have f_275 : Fld Z h_255 o_219 sC "first" dL .null := (((f_222.ext E_231).keep K_246 nin0).keep K_261 (ninS ne_271 nin0))
              refine K.callv (z := (⟨sC, "moveAll", "(Lcom/example/quadrille/quadrille/formats/Chain;)V"⟩ : MethodName)) (argsL := [(.ref o_229)]) (rest := []) at_107 (pc' := 110) rfl (c_mv0 l Z a0 hw n0 h_255 (a := o_219) (b := o_229) (n := (0 : Int32)) (k := n1_260) (f1 := lk_259) (l1 := lk_259) f_270 ge_o_219 f_274 ge_o_229 ne_271 f_275 f_272 f_273 f_267 f_268 f_269 (by first | decide | omega) (by omega)) f_270 hw15 hw16 (nf_sel hw18 rfl) hw18 hw17 hw3 hw19 (by decide) pd_3 rfl rfl (W := 0) (by simp [Value.category]) (by decide) (by decide) (by decide) (by decide) (fun v_278 h_276 q_277 => ?_)
              obtain ⟨n1_280, rfl, K_281, hn1_w_279, f_282, f_283, f_284, f_285, f_286, f_287⟩ := q_277
              show G h_276 4 9 (mkF m 110 #[vi p, vi x1, vi x2, vi y1, vi y2, vi zz, vi 0, vi 1, vi w, vr o_219, vr o_229, .unset, .unset, .unset, .unset, .unset, .unset] [])
              refine K.aload at_110 (pc' := 112) rfl rfl rfl ?_
              have f_288 : Exa Z h_276 o_219 sC := (f_270.keep K_281)
              refine K.callv (z := (⟨sC, "size", "()I"⟩ : MethodName)) (argsL := []) (rest := []) at_112 (pc' := 115) rfl (c_size l Z a0 hw n0 h_276 (a := o_219) (n := n1_280) f_288 f_284) f_288 hw22 hw23 (nf_sel hw25 rfl) hw25 hw24 hw3 hw26 (by decide) pd_6 rfl rfl (W := 0) (by simp [Value.category]) (by decide) (by decide) (by decide) (by decide) (fun v_291 h_289 q_290 => ?_)
              obtain ⟨rfl, rfl⟩ := q_290
              show G h_276 4 9 (mkF m 115 #[vi p, vi x1, vi x2, vi y1, vi y2, vi zz, vi 0, vi 1, vi w, vr o_219, vr o_229, .unset, .unset, .unset, .unset, .unset, .unset] [(.int n1_280)])
              refine K.iload at_115 (pc' := 117) rfl rfl ?_
              refine K.iload at_117 (pc' := 119) rfl rfl ?_
              refine K.iadd at_119 (pc' := 120) rfl (z := (1 : Int32)) (by decide) ?_
              refine K.icmp_ne at_120 (pc1 := 123) rfl (by decide) (pc2 := 148) (by decide) (a := n1_280.toInt) (b := 1) rfl rfl (fun c120 => ?_) (fun c120 => ?_)
              · exfalso; have o0 : (0 : Int32).toInt = 0 := rfl; have o1 : (1 : Int32).toInt = 1 := rfl; have o2 : (2 : Int32).toInt = 2 := rfl; omega
              · refine K.aload at_123 (pc' := 125) rfl rfl rfl ?_
                have f_293 : Exa Z h_276 o_229 sC := (f_274.keep K_281)
                refine K.callv (z := (⟨sC, "size", "()I"⟩ : MethodName)) (argsL := []) (rest := []) at_125 (pc' := 128) rfl (c_size l Z a0 hw n0 h_276 (a := o_229) (n := (0 : Int32)) f_293 f_287) f_293 hw22 hw23 (nf_sel hw25 rfl) hw25 hw24 hw3 hw26 (by decide) pd_6 rfl rfl (W := 0) (by simp [Value.category]) (by decide) (by decide) (by decide) (by decide) (fun v_296 h_294 q_295 => ?_)
                obtain ⟨rfl, rfl⟩ := q_295
                show G h_276 4 9 (mkF m 128 #[vi p, vi x1, vi x2, vi y1, vi y2, vi zz, vi 0, vi 1, vi w, vr o_219, vr o_229, .unset, .unset, .unset, .unset, .unset, .unset] [(.int (0 : Int32))])
                refine K.if_ne at_128 (pc1 := 131) rfl (by decide) (pc2 := 148) (by decide) (a := 0) rfl (fun c128 => ?_) (fun c128 => ?_)
                · exfalso; have o0 : (0 : Int32).toInt = 0 := rfl; have o1 : (1 : Int32).toInt = 1 := rfl; have o2 : (2 : Int32).toInt = 2 := rfl; omega
                · refine K.aload at_131 (pc' := 133) rfl rfl rfl ?_
                  have sz_298 : n0 ≤ h_276.size := Nat.le_trans sz_253 (Nat.le_trans K_261.1 K_281.1)
                  refine K.callv (z := (⟨sC, "iterator", "()Ljava/util/Iterator;"⟩ : MethodName)) (argsL := []) (rest := []) at_133 (pc' := 136) rfl (c_it0 l Z a0 hw n0 h_276 (b := o_229) sz_298 f_293 f_285) f_293 hw29 hw30 (nf_sel hw32 rfl) hw32 hw31 hw3 hw33 (by decide) pd_7 rfl rfl (W := 0) (by simp [Value.category]) (by decide) (by decide) (by decide) (by decide) (fun v_301 h_299 q_300 => ?_)
                  obtain ⟨w_302, rfl, K_303, f_304, f_305, f_306, f_307⟩ := q_300
                  show G h_299 5 11 (mkF m 136 #[vi p, vi x1, vi x2, vi y1, vi y2, vi zz, vi 0, vi 1, vi w, vr o_219, vr o_229, .unset, .unset, .unset, .unset, .unset, .unset] [(.ref w_302)])
                  refine K.calli (z := (⟨sI, "hasNext", "()Z"⟩ : MethodName)) (argsL := []) (rest := []) at_136 (pc' := 141) rfl (c_has0 l Z a0 hw n0 h_299 (a := w_302) f_306 f_307) f_306 hw46 hw47 hw48 rfl hw49 hw50 hw51 hw52 hw53 hw36 hw54 (by decide) pd_4 rfl rfl (W := 0) (by simp [Value.category]) (by decide) (by decide) (by decide) (by decide) (fun v_310 h_308 q_309 => ?_)
                  obtain ⟨rfl, rfl⟩ := q_309
                  show G h_299 5 11 (mkF m 141 #[vi p, vi x1, vi x2, vi y1, vi y2, vi zz, vi 0, vi 1, vi w, vr o_219, vr o_229, .unset, .unset, .unset, .unset, .unset, .unset] [(.int (b2 (False)))])
                  refine K.ifneB at_141 (pc1 := 144) rfl (by decide) (pc2 := 148) (by decide) (fun c141 => ?_) (fun c141 => ?_)
                  · exfalso; exact c141
                  · refine K.iconst at_144 (pc' := 145) rfl (z := 1) rfl ?_
                    refine K.goto at_145 (by decide) (pc' := 149) (by decide) ?_
                    refine K.istore at_149 (pc' := 151) rfl (L' := #[vi p, vi x1, vi x2, vi y1, vi y2, vi zz, vi 0, vi 1, vi w, vr o_219, vr o_229, vi 1, .unset, .unset, .unset, .unset, .unset]) rfl ?_
                    refine K.aload at_151 (pc' := 153) rfl rfl rfl ?_
                    refine K.iload at_153 (pc' := 155) rfl rfl ?_
                    have sz_312 : n0 ≤ h_299.size := Nat.le_trans sz_298 K_303.1
                    have f_313 : Old Z n0 h_299 := ((((f_241.keep K_246 all0).keep K_261 (allS ge_o_229 all0)).keep K_281 (allS ge_o_219 (allS ge_o_229 all0))).keep K_303 all0)
                    refine K.calls (argsL := [(.int zz)]) (rest := [(.ref o_219)]) at_155 (pc' := 158) rfl (c_val l Z a0 hw n0 h_299 (p := zz) (ca := ca) (cc := cc) sz_312 f_313 P3 P4 hbx) hw55 hw56 hw57 hw58 (by decide) pd_8 rfl rfl (W := 1) (by simp [Value.category]) (by decide) (by decide) (by decide) (by decide) (fun v_316 h_314 q_315 => ?_)
                    obtain ⟨w_317, rfl, K_318, f_319, f_320, f_321⟩ := q_315
                    show G h_314 6 12 (mkF m 158 #[vi p, vi x1, vi x2, vi y1, vi y2, vi zz, vi 0, vi 1, vi w, vr o_219, vr o_229, vi 1, .unset, .unset, .unset, .unset, .unset] [(.ref w_317), (.ref o_219)])
                    have f_322 : Exa Z h_314 o_219 sC := ((f_288.keep K_303).keep K_318)
                    have f_323 : Fld Z h_314 o_219 sC "last" dL (.ref lk_259) := ((f_283.keep K_303 nin0).keep K_318 nin0)
                    have f_324 : Fld Z h_314 o_219 sC "first" dL (.ref lk_259) := ((f_282.keep K_303 nin0).keep K_318 nin0)
                    have f_325 : Fld Z h_314 o_219 sC "size" "I" (.int n1_280) := ((f_284.keep K_303 nin0).keep K_318 nin0)
                    have ne_326 : lk_259 ≠ o_229 := (Ne.symm (Nat.ne_of_lt (Nat.lt_of_lt_of_le x_o_229.lt (Nat.le_trans K_246.1 f_262))))
                    have ne_327 : lk_259 ≠ o_219 := (Ne.symm (Nat.ne_of_lt (Nat.lt_of_lt_of_le x_o_219.lt (Nat.le_trans (Nat.le_trans E_231.1 K_246.1) f_262))))
                    have f_328 : Fld Z h_314 lk_259 sL "element" "Ljava/lang/Object;" (.ref w_245) := (((f_265.keep K_281 (ninS ne_327 (ninS ne_326 nin0))).keep K_303 nin0).keep K_318 nin0)
                    have sz_329 : n0 ≤ h_314.size := Nat.le_trans sz_312 K_318.1
                    have f_330 : Exa Z h_314 lk_259 sL := (((f_264.keep K_281).keep K_303).keep K_318)
                    have f_331 : Fld Z h_314 lk_259 sL "next" dL .null := (((f_266.keep K_281 (ninS ne_327 (ninS ne_326 nin0))).keep K_303 nin0).keep K_318 nin0)
                    refine K.callv (z := (⟨sC, "add", "(Ljava/lang/Object;)Z"⟩ : MethodName)) (argsL := [(.ref w_317)]) (rest := []) at_158 (pc' := 161) rfl (c_add1 l Z a0 hw n0 h_314 (a := o_219) (e := w_317) (n := n1_280) (f0 := lk_259) (t := lk_259) (te := w_245) sz_329 f_322 ge_o_219 f_330 f_263 ne_327 f_331 f_328 f_324 f_323 f_325 (by omega)) f_322 hw62 hw63 (nf_sel hw65 rfl) hw65 hw64 hw3 hw66 (by decide) pd_9 rfl rfl (W := 0) (by simp [Value.category]) (by decide) (by decide) (by decide) (by decide) (fun v_334 h_332 q_333 => ?_)
                    obtain ⟨lk_336, n1_337, rfl, K_338, hn1_w_335, f_339, f_340, f_341, f_342, f_343, f_344, f_345, f_346, f_347, f_348⟩ := q_333
                    show G h_332 7 14 (mkF m 161 #[vi p, vi x1, vi x2, vi y1, vi y2, vi zz, vi 0, vi 1, vi w, vr o_219, vr o_229, vi 1, .unset, .unset, .unset, .unset, .unset] [(.int (b2 (True)))])
                    refine K.pop at_161 (pc' := 162) rfl rfl ?_
                    refine K.aload at_162 (pc' := 164) rfl rfl rfl ?_
                    refine K.iload at_164 (pc' := 166) rfl rfl ?_
                    have sz_349 : n0 ≤ h_332.size := Nat.le_trans sz_329 K_338.1
                    have f_350 : Old Z n0 h_332 := ((f_313.keep K_318 all0).keep K_338 (allS ge_o_219 (allS f_263 all0)))
                    refine K.calls (argsL := [(.int w)]) (rest := [(.ref o_229)]) at_166 (pc' := 169) rfl (c_val l Z a0 hw n0 h_332 (p := w) (ca := ca) (cc := cc) sz_349 f_350 P3 P4 hbx) hw55 hw56 hw57 hw58 (by decide) pd_8 rfl rfl (W := 1) (by simp [Value.category]) (by decide) (by decide) (by decide) (by decide) (fun v_353 h_351 q_352 => ?_)
                    obtain ⟨w_354, rfl, K_355, f_356, f_357, f_358⟩ := q_352
                    show G h_351 8 15 (mkF m 169 #[vi p, vi x1, vi x2, vi y1, vi y2, vi zz, vi 0, vi 1, vi w, vr o_219, vr o_229, vi 1, .unset, .unset, .unset, .unset, .unset] [(.ref w_354), (.ref o_229)])
                    have f_359 : Exa Z h_351 o_229 sC := ((((f_293.keep K_303).keep K_318).keep K_338).keep K_355)
                    have f_360 : Fld Z h_351 o_229 sC "last" dL .null := ((((f_286.keep K_303 nin0).keep K_318 nin0).keep K_338 (ninS (Ne.symm ne_271) (ninS (Ne.symm ne_326) nin0))).keep K_355 nin0)
                    have f_361 : Fld Z h_351 o_229 sC "size" "I" (.int (0 : Int32)) := ((((f_287.keep K_303 nin0).keep K_318 nin0).keep K_338 (ninS (Ne.symm ne_271) (ninS (Ne.symm ne_326) nin0))).keep K_355 nin0)
                    have sz_362 : n0 ≤ h_351.size := Nat.le_trans sz_349 K_355.1
                    have f_363 : Fld Z h_351 o_229 sC "first" dL .null := ((((f_285.keep K_303 nin0).keep K_318 nin0).keep K_338 (ninS (Ne.symm ne_271) (ninS (Ne.symm ne_326) nin0))).keep K_355 nin0)
                    refine K.callv (z := (⟨sC, "add", "(Ljava/lang/Object;)Z"⟩ : MethodName)) (argsL := [(.ref w_354)]) (rest := []) at_169 (pc' := 172) rfl (c_add0 l Z a0 hw n0 h_351 (a := o_229) (e := w_354) (n := (0 : Int32)) sz_362 f_359 ge_o_229 f_363 f_360 f_361 (by first | decide | omega)) f_359 hw62 hw63 (nf_sel hw65 rfl) hw65 hw64 hw3 hw66 (by decide) pd_9 rfl rfl (W := 0) (by simp [Value.category]) (by decide) (by decide) (by decide) (by decide) (fun v_366 h_364 q_365 => ?_)
                    obtain ⟨lk_368, n1_369, rfl, K_370, hn1_w_367, f_371, f_372, f_373, f_374, f_375, f_376, f_377, f_378⟩ := q_365
                    show G h_364 9 17 (mkF m 172 #[vi p, vi x1, vi x2, vi y1, vi y2, vi zz, vi 0, vi 1, vi w, vr o_219, vr o_229, vi 1, .unset, .unset, .unset, .unset, .unset] [(.int (b2 (True)))])
                    refine K.pop at_172 (pc' := 173) rfl rfl ?_
                    refine K.iload at_173 (pc' := 175) rfl rfl ?_
                    refine K.if_eq at_175 (pc1 := 178) rfl (by decide) (pc2 := 206) (by decide) (a := 1) rfl (fun c175 => ?_) (fun c175 => ?_)
                    · exfalso; omega
                    · refine K.aload at_178 (pc' := 180) rfl rfl rfl ?_
                      have f_379 : Exa Z h_364 o_219 sC := (((f_322.keep K_338).keep K_355).keep K_370)
                      have f_380 : Fld Z h_364 o_219 sC "size" "I" (.int n1_337) := ((f_348.keep K_355 nin0).keep K_370 (ninS ne_271 nin0))
                      refine K.callv (z := (⟨sC, "size", "()I"⟩ : MethodName)) (argsL := []) (rest := []) at_180 (pc' := 183) rfl (c_size l Z a0 hw n0 h_364 (a := o_219) (n := n1_337) f_379 f_380) f_379 hw22 hw23 (nf_sel hw25 rfl) hw25 hw24 hw3 hw26 (by decide) pd_6 rfl rfl (W := 0) (by simp [Value.category]) (by decide) (by decide) (by decide) (by decide) (fun v_383 h_381 q_382 => ?_)
                      obtain ⟨rfl, rfl⟩ := q_382
                      show G h_364 9 17 (mkF m 183 #[vi p, vi x1, vi x2, vi y1, vi y2, vi zz, vi 0, vi 1, vi w, vr o_219, vr o_229, vi 1, .unset, .unset, .unset, .unset, .unset] [(.int n1_337)])
                      refine K.iload at_183 (pc' := 185) rfl rfl ?_
                      refine K.iload at_185 (pc' := 187) rfl rfl ?_
                      refine K.iadd at_187 (pc' := 188) rfl (z := (1 : Int32)) (by decide) ?_
                      refine K.iconst at_188 (pc' := 189) rfl (z := 1) rfl ?_
                      refine K.iadd at_189 (pc' := 190) rfl (z := (2 : Int32)) (by decide) ?_
                      refine K.icmp_ne at_190 (pc1 := 193) rfl (by decide) (pc2 := 206) (by decide) (a := n1_337.toInt) (b := 2) rfl rfl (fun c190 => ?_) (fun c190 => ?_)
                      · exfalso; have o0 : (0 : Int32).toInt = 0 := rfl; have o1 : (1 : Int32).toInt = 1 := rfl; have o2 : (2 : Int32).toInt = 2 := rfl; omega
                      · refine K.aload at_193 (pc' := 195) rfl rfl rfl ?_
                        have f_385 : Exa Z h_364 o_229 sC := (f_359.keep K_370)
                        refine K.callv (z := (⟨sC, "size", "()I"⟩ : MethodName)) (argsL := []) (rest := []) at_195 (pc' := 198) rfl (c_size l Z a0 hw n0 h_364 (a := o_229) (n := n1_369) f_385 f_378) f_385 hw22 hw23 (nf_sel hw25 rfl) hw25 hw24 hw3 hw26 (by decide) pd_6 rfl rfl (W := 0) (by simp [Value.category]) (by decide) (by decide) (by decide) (by decide) (fun v_388 h_386 q_387 => ?_)
                        obtain ⟨rfl, rfl⟩ := q_387
                        show G h_364 9 17 (mkF m 198 #[vi p, vi x1, vi x2, vi y1, vi y2, vi zz, vi 0, vi 1, vi w, vr o_219, vr o_229, vi 1, .unset, .unset, .unset, .unset, .unset] [(.int n1_369)])
                        refine K.iconst at_198 (pc' := 199) rfl (z := 1) rfl ?_
                        refine K.icmp_ne at_199 (pc1 := 202) rfl (by decide) (pc2 := 206) (by decide) (a := n1_369.toInt) (b := 1) rfl rfl (fun c199 => ?_) (fun c199 => ?_)
                        · exfalso; have o0 : (0 : Int32).toInt = 0 := rfl; have o1 : (1 : Int32).toInt = 1 := rfl; have o2 : (2 : Int32).toInt = 2 := rfl; omega
                        · refine K.iconst at_202 (pc' := 203) rfl (z := 1) rfl ?_
                          refine K.goto at_203 (by decide) (pc' := 207) (by decide) ?_
                          refine K.istore at_207 (pc' := 209) rfl (L' := #[vi p, vi x1, vi x2, vi y1, vi y2, vi zz, vi 0, vi 1, vi w, vr o_219, vr o_229, vi 1, .unset, .unset, .unset, .unset, .unset]) rfl ?_
                          refine K.aload at_209 (pc' := 211) rfl rfl rfl ?_
                          have sz_390 : n0 ≤ h_364.size := Nat.le_trans sz_362 K_370.1
                          refine K.callv (z := (⟨sC, "iterator", "()Ljava/util/Iterator;"⟩ : MethodName)) (argsL := []) (rest := []) at_211 (pc' := 214) rfl (c_it1 l Z a0 hw n0 h_364 (b := o_229) (x := lk_368) sz_390 f_385 f_376) f_385 hw29 hw30 (nf_sel hw32 rfl) hw32 hw31 hw3 hw33 (by decide) pd_7 rfl rfl (W := 0) (by simp [Value.category]) (by decide) (by decide) (by decide) (by decide) (fun v_393 h_391 q_392 => ?_)
                          obtain ⟨w_394, rfl, K_395, f_396, f_397, f_398, f_399⟩ := q_392
                          show G h_391 10 19 (mkF m 214 #[vi p, vi x1, vi x2, vi y1, vi y2, vi zz, vi 0, vi 1, vi w, vr o_219, vr o_229, vi 1, .unset, .unset, .unset, .unset, .unset] [(.ref w_394)])
                          refine K.astore at_214 (pc' := 216) rfl rfl (L' := #[vi p, vi x1, vi x2, vi y1, vi y2, vi zz, vi 0, vi 1, vi w, vr o_219, vr o_229, vi 1, vr w_394, .unset, .unset, .unset, .unset]) rfl ?_
                          refine K.iload at_216 (pc' := 218) rfl rfl ?_
                          refine K.if_eq at_218 (pc1 := 221) rfl (by decide) (pc2 := 246) (by decide) (a := 1) rfl (fun c218 => ?_) (fun c218 => ?_)
                          · exfalso; omega
                          · refine K.aload at_221 (pc' := 223) rfl rfl rfl ?_
                            refine K.iconst at_223 (pc' := 224) rfl (z := 1) rfl ?_
                            refine K.iload at_224 (pc' := 226) rfl rfl ?_
                            have f_400 : Fld Z h_391 lk_368 sL "next" dL .null := (f_375.keep K_395 nin0)
                            have f_401 : Fld Z h_391 lk_368 sL "element" "Ljava/lang/Object;" (.ref w_354) := (f_374.keep K_395 nin0)
                            have ne_402 : w_354 ≠ o_229 := (f_358.elim (fun q => Nat.ne_of_lt (Nat.lt_of_lt_of_le q ge_o_229)) (fun q => Nat.ne_of_gt (Nat.lt_of_lt_of_le x_o_229.lt (Nat.le_trans (Nat.le_trans K_246.1 (Nat.le_trans K_261.1 (Nat.le_trans K_281.1 (Nat.le_trans K_303.1 (Nat.le_trans K_318.1 K_338.1))))) q))))
                            have f_403 : Fld Z h_391 w_354 sN "value" "I" (.int w) := ((f_357.keep K_370 (ninS ne_402 nin0)).keep K_395 nin0)
                            have f_404 : Exa Z h_391 lk_368 sL := (f_373.keep K_395)
                            have ne_405 : lk_368 ≠ w_394 := (Nat.ne_of_lt (Nat.lt_of_lt_of_le f_373.lt (Nat.le_trans (Nat.le_refl _) f_396)))
                            have ne_406 : w_354 ≠ w_394 := (Nat.ne_of_lt (Nat.lt_of_lt_of_le f_356.lt (Nat.le_trans K_370.1 f_396)))
                            have f_407 : Exa Z h_391 w_354 sN := ((f_356.keep K_370).keep K_395)
                            refine K.calls (argsL := [(.ref w_394), (.int (1 : Int32)), (.int w)]) (rest := []) at_226 (pc' := 229) rfl (c_st10 l Z a0 hw n0 h_391 (a := w_394) (e := w) (lk := lk_368) (b := w_354) (v0 := w) f_398 f_397 f_399 f_404 ne_405 f_401 f_400 ne_406 f_407 f_403) hw78 hw79 hw80 hw81 (by decide) pd_10 rfl rfl (W := 0) (by simp [Value.category]) (by decide) (by decide) (by decide) (by decide) (fun v_410 h_408 q_409 => ?_)
                            obtain ⟨rfl, K_412, f_413⟩ := q_409
                            show G h_408 10 19 (mkF m 229 #[vi p, vi x1, vi x2, vi y1, vi y2, vi zz, vi 0, vi 1, vi w, vr o_219, vr o_229, vi 1, vr w_394, .unset, .unset, .unset, .unset] [(.int (b2 (w.toInt = w.toInt)))])
                            refine K.ifeqB at_229 (pc1 := 232) rfl (by decide) (pc2 := 246) (by decide) (fun c229 => ?_) (fun c229 => ?_)
                            · exfalso; first | exact c229 rfl | exact c229 trivial
                            · refine K.aload at_232 (pc' := 234) rfl rfl rfl ?_
                              have f_414 : Exa Z h_408 w_394 sI := (f_398.keep K_412)
                              refine K.calli (z := (⟨sI, "hasNext", "()Z"⟩ : MethodName)) (argsL := []) (rest := []) at_234 (pc' := 239) rfl (c_has0 l Z a0 hw n0 h_408 (a := w_394) f_414 f_413) f_414 hw46 hw47 hw48 rfl hw49 hw50 hw51 hw52 hw53 hw36 hw54 (by decide) pd_4 rfl rfl (W := 0) (by simp [Value.category]) (by decide) (by decide) (by decide) (by decide) (fun v_417 h_415 q_416 => ?_)
                              obtain ⟨rfl, rfl⟩ := q_416
                              show G h_408 10 19 (mkF m 239 #[vi p, vi x1, vi x2, vi y1, vi y2, vi zz, vi 0, vi 1, vi w, vr o_219, vr o_229, vi 1, vr w_394, .unset, .unset, .unset, .unset] [(.int (b2 (False)))])
                              refine K.ifneB at_239 (pc1 := 242) rfl (by decide) (pc2 := 246) (by decide) (fun c239 => ?_) (fun c239 => ?_)
                              · exfalso; exact c239
                              · refine K.iconst at_242 (pc' := 243) rfl (z := 1) rfl ?_
                                refine K.goto at_243 (by decide) (pc' := 247) (by decide) ?_
                                refine K.istore at_247 (pc' := 249) rfl (L' := #[vi p, vi x1, vi x2, vi y1, vi y2, vi zz, vi 0, vi 1, vi w, vr o_219, vr o_229, vi 1, vr w_394, .unset, .unset, .unset, .unset]) rfl ?_
                                refine K.iconst at_249 (pc' := 250) rfl (z := 5) rfl ?_
                                refine K.newa at_250 (pc' := 252) rfl hw102 (k := 5) (cap := 5) rfl (by decide) (by decide) (by decide) (by decide) (ad := "[I") (by decide) (fun h_420 a_419 g_a_419 E_421 A_422 x_a_419 => ?_)
                                have sz_423 : n0 ≤ h_408.size := Nat.le_trans sz_390 (Nat.le_trans K_395.1 K_412.1)
                                have ge_a_419 : n0 ≤ a_419 := g_a_419 ▸ sz_423
                                have A_424 : Ary Z h_420 a_419 .int [(.int (0 : Int32)), (.int (0 : Int32)), (.int (0 : Int32)), (.int (0 : Int32)), (.int (0 : Int32))] := A_422
                                refine K.astore at_252 (pc' := 254) rfl rfl (L' := #[vi p, vi x1, vi x2, vi y1, vi y2, vi zz, vi 0, vi 1, vi w, vr o_219, vr o_229, vi 1, vr w_394, vr a_419, .unset, .unset, .unset]) rfl ?_
                                refine K.iconst at_254 (pc' := 255) rfl (z := 0) rfl ?_
                                refine K.istore at_255 (pc' := 257) rfl (L' := #[vi p, vi x1, vi x2, vi y1, vi y2, vi zz, vi 0, vi 1, vi w, vr o_219, vr o_229, vi 1, vr w_394, vr a_419, vi 0, .unset, .unset]) rfl ?_
                                refine K.iload at_257 (pc' := 259) rfl rfl ?_
                                refine K.if_le at_259 (pc1 := 262) rfl (by decide) (pc2 := 271) (by decide) (a := 0) rfl (fun c259 => ?_) (fun c259 => ?_)
                                · refine K.iload at_271 (pc' := 273) rfl rfl ?_
                                  refine K.iconst at_273 (pc' := 274) rfl (z := 1) rfl ?_
                                  refine K.icmp_le at_274 (pc1 := 277) rfl (by decide) (pc2 := 286) (by decide) (a := 0) (b := 1) rfl rfl (fun c274 => ?_) (fun c274 => ?_)
                                  · refine K.iload at_286 (pc' := 288) rfl rfl ?_
                                    refine K.if_le at_288 (pc1 := 291) rfl (by decide) (pc2 := 300) (by decide) (a := 1) rfl (fun c288 => ?_) (fun c288 => ?_)
                                    · exfalso; omega
                                    · refine K.aload at_291 (pc' := 293) rfl rfl rfl ?_
                                      refine K.iload at_293 (pc' := 295) rfl rfl ?_
                                      refine K.iloadN at_295 (pc' := 296) rfl rfl ?_
                                      refine K.iast at_296 (pc' := 297) rfl A_424 (i := 0) rfl (show 0 < 5 by decide) ge_a_419 (fun h_425 W_426 A_427 => ?_)
                                      have A_428 : Ary Z h_425 a_419 .int [(.int y1), (.int (0 : Int32)), (.int (0 : Int32)), (.int (0 : Int32)), (.int (0 : Int32))] := A_427
                                      refine K.iinc at_297 (pc' := 300) rfl rfl (z := (1 : Int32)) rfl (L' := #[vi p, vi x1, vi x2, vi y1, vi y2, vi zz, vi 0, vi 1, vi w, vr o_219, vr o_229, vi 1, vr w_394, vr a_419, vi 1, .unset, .unset]) rfl ?_
                                      refine K.iload at_300 (pc' := 302) rfl rfl ?_
                                      refine K.iconst at_302 (pc' := 303) rfl (z := 1) rfl ?_
                                      refine K.icmp_le at_303 (pc1 := 306) rfl (by decide) (pc2 := 316) (by decide) (a := 1) (b := 1) rfl rfl (fun c303 => ?_) (fun c303 => ?_)
                                      · refine K.aload at_316 (pc' := 318) rfl rfl rfl ?_
                                        refine K.iload at_318 (pc' := 320) rfl rfl ?_
                                        refine K.iload at_320 (pc' := 322) rfl rfl ?_
                                        refine K.iast at_322 (pc' := 323) rfl A_428 (i := 1) rfl (show 1 < 5 by decide) ge_a_419 (fun h_429 W_430 A_431 => ?_)
                                        have A_432 : Ary Z h_429 a_419 .int [(.int y1), (.int zz), (.int (0 : Int32)), (.int (0 : Int32)), (.int (0 : Int32))] := A_431
                                        refine K.iinc at_323 (pc' := 326) rfl rfl (z := (2 : Int32)) rfl (L' := #[vi p, vi x1, vi x2, vi y1, vi y2, vi zz, vi 0, vi 1, vi w, vr o_219, vr o_229, vi 1, vr w_394, vr a_419, vi 2, .unset, .unset]) rfl ?_
                                        refine K.iload at_326 (pc' := 328) rfl rfl ?_
                                        refine K.istore at_328 (pc' := 330) rfl (L' := #[vi p, vi x1, vi x2, vi y1, vi y2, vi zz, vi 0, vi 1, vi w, vr o_219, vr o_229, vi 1, vr w_394, vr a_419, vi 2, vi 2, .unset]) rfl ?_
                                        refine K.aload at_330 (pc' := 332) rfl rfl rfl ?_
                                        have f_433 : Exa Z h_429 o_219 sC := (((((f_379.keep K_395).keep K_412).ext E_421).wr W_426).wr W_430)
                                        have ne_434 : o_219 ≠ w_394 := (Nat.ne_of_lt (Nat.lt_of_lt_of_le x_o_219.lt (Nat.le_trans (Nat.le_trans E_231.1 (Nat.le_trans K_246.1 (Nat.le_trans K_261.1 (Nat.le_trans K_281.1 (Nat.le_trans K_303.1 (Nat.le_trans K_318.1 (Nat.le_trans K_338.1 (Nat.le_trans K_355.1 K_370.1)))))))) f_396)))
                                        have ne_435 : o_219 ≠ a_419 := (Nat.ne_of_lt (Nat.lt_of_lt_of_le x_o_219.lt (Nat.le_trans (Nat.le_trans E_231.1 (Nat.le_trans K_246.1 (Nat.le_trans K_261.1 (Nat.le_trans K_281.1 (Nat.le_trans K_303.1 (Nat.le_trans K_318.1 (Nat.le_trans K_338.1 (Nat.le_trans K_355.1 (Nat.le_trans K_370.1 (Nat.le_trans K_395.1 K_412.1)))))))))) (Nat.le_of_eq g_a_419.symm))))
                                        have f_436 : Fld Z h_429 o_219 sC "first" dL (.ref lk_259) := (((((((f_346.keep K_355 nin0).keep K_370 (ninS ne_271 nin0)).keep K_395 nin0).keep K_412 (ninS ne_434 nin0)).ext E_421).other W_426 (Or.inl ne_435)).other W_430 (Or.inl ne_435))
                                        have sz_437 : n0 ≤ h_429.size := Nat.le_trans sz_423 (Nat.le_trans E_421.1 (Nat.le_trans (Keep.of_wr W_426).1 (Keep.of_wr W_430).1))
                                        refine K.callv (z := (⟨sC, "iterator", "()Ljava/util/Iterator;"⟩ : MethodName)) (argsL := []) (rest := []) at_332 (pc' := 335) rfl (c_it1 l Z a0 hw n0 h_429 (b := o_219) (x := lk_259) sz_437 f_433 f_436) f_433 hw29 hw30 (nf_sel hw32 rfl) hw32 hw31 hw3 hw33 (by decide) pd_7 rfl rfl (W := 0) (by simp [Value.category]) (by decide) (by decide) (by decide) (by decide) (fun v_440 h_438 q_439 => ?_)
                                        obtain ⟨w_441, rfl, K_442, f_443, f_444, f_445, f_446⟩ := q_439
                                        show G h_438 12 26 (mkF m 335 #[vi p, vi x1, vi x2, vi y1, vi y2, vi zz, vi 0, vi 1, vi w, vr o_219, vr o_229, vi 1, vr w_394, vr a_419, vi 2, vi 2, .unset] [(.ref w_441)])
                                        refine K.astore at_335 (pc' := 337) rfl rfl (L' := #[vi p, vi x1, vi x2, vi y1, vi y2, vi zz, vi 0, vi 1, vi w, vr o_219, vr o_229, vi 1, vr w_394, vr a_419, vi 2, vi 2, vr w_441]) rfl ?_
                                        refine K.iload at_337 (pc' := 339) rfl rfl ?_
                                        refine K.if_eq at_339 (pc1 := 342) rfl (by decide) (pc2 := 369) (by decide) (a := 1) rfl (fun c339 => ?_) (fun c339 => ?_)
                                        · exfalso; omega
                                        · refine K.aload at_342 (pc' := 344) rfl rfl rfl ?_
                                          refine K.iconst at_344 (pc' := 345) rfl (z := 0) rfl ?_
                                          refine K.iload at_345 (pc' := 347) rfl rfl ?_
                                          refine K.icmp_ge at_347 (pc1 := 350) rfl (by decide) (pc2 := 354) (by decide) (a := 0) (b := 2) rfl rfl (fun c347 => ?_) (fun c347 => ?_)
                                          · exfalso; omega
                                          · refine K.iconst at_350 (pc' := 351) rfl (z := 1) rfl ?_
                                            refine K.goto at_351 (by decide) (pc' := 355) (by decide) ?_
                                            refine K.aload at_355 (pc' := 357) rfl rfl rfl ?_
                                            refine K.iconst at_357 (pc' := 358) rfl (z := 0) rfl ?_
                                            have f_447 : Ary Z h_438 a_419 .int [(.int y1), (.int zz), (.int (0 : Int32)), (.int (0 : Int32)), (.int (0 : Int32))] := (A_432.keep K_442 nin0)
                                            refine K.iald at_358 (pc' := 359) rfl f_447 (i := 0) rfl rfl ?_
                                            have ne_448 : lk_259 ≠ w_394 := (Nat.ne_of_lt (Nat.lt_of_lt_of_le f_264.lt (Nat.le_trans (Nat.le_trans K_281.1 (Nat.le_trans K_303.1 (Nat.le_trans K_318.1 (Nat.le_trans K_338.1 (Nat.le_trans K_355.1 K_370.1))))) f_396)))
                                            have ne_449 : lk_259 ≠ a_419 := (Nat.ne_of_lt (Nat.lt_of_lt_of_le f_264.lt (Nat.le_trans (Nat.le_trans K_281.1 (Nat.le_trans K_303.1 (Nat.le_trans K_318.1 (Nat.le_trans K_338.1 (Nat.le_trans K_355.1 (Nat.le_trans K_370.1 (Nat.le_trans K_395.1 K_412.1))))))) (Nat.le_of_eq g_a_419.symm))))
                                            have f_450 : Fld Z h_438 lk_259 sL "next" dL (.ref lk_336) := ((((((((f_344.keep K_355 nin0).keep K_370 (ninS ne_326 nin0)).keep K_395 nin0).keep K_412 (ninS ne_448 nin0)).ext E_421).other W_426 (Or.inl ne_449)).other W_430 (Or.inl ne_449)).keep K_442 nin0)
                                            have f_451 : Fld Z h_438 lk_259 sL "element" "Ljava/lang/Object;" (.ref w_245) := ((((((((f_345.keep K_355 nin0).keep K_370 (ninS ne_326 nin0)).keep K_395 nin0).keep K_412 (ninS ne_448 nin0)).ext E_421).other W_426 (Or.inl ne_449)).other W_430 (Or.inl ne_449)).keep K_442 nin0)
                                            have ne_452 : w_245 ≠ o_229 := (f_249.elim (fun q => Nat.ne_of_lt (Nat.lt_of_lt_of_le q ge_o_229)) (fun q => Nat.ne_of_gt (Nat.lt_of_lt_of_le x_o_229.lt (Nat.le_trans (Nat.le_refl _) q))))
                                            have ne_453 : w_245 ≠ o_219 := (f_249.elim (fun q => Nat.ne_of_lt (Nat.lt_of_lt_of_le q ge_o_219)) (fun q => Nat.ne_of_gt (Nat.lt_of_lt_of_le x_o_219.lt (Nat.le_trans E_231.1 q))))
                                            have ne_454 : w_245 ≠ lk_259 := (Nat.ne_of_lt (Nat.lt_of_lt_of_le f_247.lt (Nat.le_trans (Nat.le_refl _) f_262)))
                                            have ne_455 : w_245 ≠ w_394 := (Nat.ne_of_lt (Nat.lt_of_lt_of_le f_247.lt (Nat.le_trans (Nat.le_trans K_261.1 (Nat.le_trans K_281.1 (Nat.le_trans K_303.1 (Nat.le_trans K_318.1 (Nat.le_trans K_338.1 (Nat.le_trans K_355.1 K_370.1)))))) f_396)))
                                            have ne_456 : w_245 ≠ a_419 := (Nat.ne_of_lt (Nat.lt_of_lt_of_le f_247.lt (Nat.le_trans (Nat.le_trans K_261.1 (Nat.le_trans K_281.1 (Nat.le_trans K_303.1 (Nat.le_trans K_318.1 (Nat.le_trans K_338.1 (Nat.le_trans K_355.1 (Nat.le_trans K_370.1 (Nat.le_trans K_395.1 K_412.1)))))))) (Nat.le_of_eq g_a_419.symm))))
                                            have f_457 : Fld Z h_438 w_245 sN "value" "I" (.int y1) := (((((((((((((f_248.keep K_261 (ninS ne_452 nin0)).keep K_281 (ninS ne_453 (ninS ne_452 nin0))).keep K_303 nin0).keep K_318 nin0).keep K_338 (ninS ne_453 (ninS ne_454 nin0))).keep K_355 nin0).keep K_370 (ninS ne_452 nin0)).keep K_395 nin0).keep K_412 (ninS ne_455 nin0)).ext E_421).other W_426 (Or.inl ne_456)).other W_430 (Or.inl ne_456)).keep K_442 nin0)
                                            have f_458 : Exa Z h_438 lk_259 sL := (((((((((f_330.keep K_338).keep K_355).keep K_370).keep K_395).keep K_412).ext E_421).wr W_426).wr W_430).keep K_442)
                                            have ne_459 : lk_259 ≠ w_441 := (Nat.ne_of_lt (Nat.lt_of_lt_of_le f_264.lt (Nat.le_trans (Nat.le_trans K_281.1 (Nat.le_trans K_303.1 (Nat.le_trans K_318.1 (Nat.le_trans K_338.1 (Nat.le_trans K_355.1 (Nat.le_trans K_370.1 (Nat.le_trans K_395.1 (Nat.le_trans K_412.1 (Nat.le_trans E_421.1 (Nat.le_trans (Keep.of_wr W_426).1 (Keep.of_wr W_430).1)))))))))) f_443)))
                                            have ne_460 : w_245 ≠ w_441 := (Nat.ne_of_lt (Nat.lt_of_lt_of_le f_247.lt (Nat.le_trans (Nat.le_trans K_261.1 (Nat.le_trans K_281.1 (Nat.le_trans K_303.1 (Nat.le_trans K_318.1 (Nat.le_trans K_338.1 (Nat.le_trans K_355.1 (Nat.le_trans K_370.1 (Nat.le_trans K_395.1 (Nat.le_trans K_412.1 (Nat.le_trans E_421.1 (Nat.le_trans (Keep.of_wr W_426).1 (Keep.of_wr W_430).1))))))))))) f_443)))
                                            have f_461 : Exa Z h_438 w_245 sN := (((((((((((((f_247.keep K_261).keep K_281).keep K_303).keep K_318).keep K_338).keep K_355).keep K_370).keep K_395).keep K_412).ext E_421).wr W_426).wr W_430).keep K_442)
                                            refine K.calls (argsL := [(.ref w_441), (.int (1 : Int32)), (.int y1)]) (rest := []) at_359 (pc' := 362) rfl (c_st11 l Z a0 hw n0 h_438 (a := w_441) (e := y1) (lk := lk_259) (b := w_245) (v0 := y1) (x := lk_336) f_445 f_444 f_446 f_458 ne_459 f_451 f_450 ne_460 f_461 f_457) hw78 hw79 hw80 hw81 (by decide) pd_10 rfl rfl (W := 0) (by simp [Value.category]) (by decide) (by decide) (by decide) (by decide) (fun v_464 h_462 q_463 => ?_)
                                            obtain ⟨rfl, K_466, f_467⟩ := q_463
                                            show G h_462 12 26 (mkF m 362 #[vi p, vi x1, vi x2, vi y1, vi y2, vi zz, vi 0, vi 1, vi w, vr o_219, vr o_229, vi 1, vr w_394, vr a_419, vi 2, vi 2, vr w_441] [(.int (b2 (y1.toInt = y1.toInt)))])
                                            refine K.ifeqB at_362 (pc1 := 365) rfl (by decide) (pc2 := 369) (by decide) (fun c362 => ?_) (fun c362 => ?_)
                                            · exfalso; first | exact c362 rfl | exact c362 trivial
                                            · refine K.iconst at_365 (pc' := 366) rfl (z := 1) rfl ?_
                                              refine K.goto at_366 (by decide) (pc' := 370) (by decide) ?_
                                              refine K.istore at_370 (pc' := 372) rfl (L' := #[vi p, vi x1, vi x2, vi y1, vi y2, vi zz, vi 0, vi 1, vi w, vr o_219, vr o_229, vi 1, vr w_394, vr a_419, vi 2, vi 2, vr w_441]) rfl ?_
                                              refine K.iload at_372 (pc' := 374) rfl rfl ?_
                                              refine K.if_eq at_374 (pc1 := 377) rfl (by decide) (pc2 := 404) (by decide) (a := 1) rfl (fun c374 => ?_) (fun c374 => ?_)
                                              · exfalso; omega
                                              · refine K.aload at_377 (pc' := 379) rfl rfl rfl ?_
                                                refine K.iconst at_379 (pc' := 380) rfl (z := 1) rfl ?_
                                                refine K.iload at_380 (pc' := 382) rfl rfl ?_
                                                refine K.icmp_ge at_382 (pc1 := 385) rfl (by decide) (pc2 := 389) (by decide) (a := 1) (b := 2) rfl rfl (fun c382 => ?_) (fun c382 => ?_)
                                                · exfalso; omega
                                                · refine K.iconst at_385 (pc' := 386) rfl (z := 1) rfl ?_
                                                  refine K.goto at_386 (by decide) (pc' := 390) (by decide) ?_
                                                  refine K.aload at_390 (pc' := 392) rfl rfl rfl ?_
                                                  refine K.iconst at_392 (pc' := 393) rfl (z := 1) rfl ?_
                                                  have ne_468 : a_419 ≠ w_441 := (Nat.ne_of_lt (Nat.lt_of_lt_of_le A_424.lt (Nat.le_trans (Nat.le_trans (Keep.of_wr W_426).1 (Keep.of_wr W_430).1) f_443)))
                                                  have f_469 : Ary Z h_462 a_419 .int [(.int y1), (.int zz), (.int (0 : Int32)), (.int (0 : Int32)), (.int (0 : Int32))] := (f_447.keep K_466 (ninS ne_468 nin0))
                                                  refine K.iald at_393 (pc' := 394) rfl f_469 (i := 1) rfl rfl ?_
                                                  have ne_470 : lk_336 ≠ o_229 := (Ne.symm (Nat.ne_of_lt (Nat.lt_of_lt_of_le x_o_229.lt (Nat.le_trans (Nat.le_trans K_246.1 (Nat.le_trans K_261.1 (Nat.le_trans K_281.1 (Nat.le_trans K_303.1 K_318.1)))) f_339))))
                                                  have ne_471 : lk_336 ≠ w_394 := (Nat.ne_of_lt (Nat.lt_of_lt_of_le f_341.lt (Nat.le_trans (Nat.le_trans K_355.1 K_370.1) f_396)))
                                                  have ne_472 : lk_336 ≠ a_419 := (Nat.ne_of_lt (Nat.lt_of_lt_of_le f_341.lt (Nat.le_trans (Nat.le_trans K_355.1 (Nat.le_trans K_370.1 (Nat.le_trans K_395.1 K_412.1))) (Nat.le_of_eq g_a_419.symm))))
                                                  have ne_473 : lk_336 ≠ w_441 := (Nat.ne_of_lt (Nat.lt_of_lt_of_le f_341.lt (Nat.le_trans (Nat.le_trans K_355.1 (Nat.le_trans K_370.1 (Nat.le_trans K_395.1 (Nat.le_trans K_412.1 (Nat.le_trans E_421.1 (Nat.le_trans (Keep.of_wr W_426).1 (Keep.of_wr W_430).1)))))) f_443)))
                                                  have f_474 : Fld Z h_462 lk_336 sL "next" dL .null := (((((((((f_343.keep K_355 nin0).keep K_370 (ninS ne_470 nin0)).keep K_395 nin0).keep K_412 (ninS ne_471 nin0)).ext E_421).other W_426 (Or.inl ne_472)).other W_430 (Or.inl ne_472)).keep K_442 nin0).keep K_466 (ninS ne_473 nin0))
                                                  have f_475 : Fld Z h_462 lk_336 sL "element" "Ljava/lang/Object;" (.ref w_317) := (((((((((f_342.keep K_355 nin0).keep K_370 (ninS ne_470 nin0)).keep K_395 nin0).keep K_412 (ninS ne_471 nin0)).ext E_421).other W_426 (Or.inl ne_472)).other W_430 (Or.inl ne_472)).keep K_442 nin0).keep K_466 (ninS ne_473 nin0))
                                                  have ne_476 : w_317 ≠ lk_259 := (f_321.elim (fun q => Nat.ne_of_lt (Nat.lt_of_lt_of_le q f_263)) (fun q => Nat.ne_of_gt (Nat.lt_of_lt_of_le f_264.lt (Nat.le_trans (Nat.le_trans K_281.1 K_303.1) q))))
                                                  have ne_477 : w_317 ≠ o_219 := (f_321.elim (fun q => Nat.ne_of_lt (Nat.lt_of_lt_of_le q ge_o_219)) (fun q => Nat.ne_of_gt (Nat.lt_of_lt_of_le x_o_219.lt (Nat.le_trans (Nat.le_trans E_231.1 (Nat.le_trans K_246.1 (Nat.le_trans K_261.1 (Nat.le_trans K_281.1 K_303.1)))) q))))
                                                  have ne_478 : w_317 ≠ o_229 := (f_321.elim (fun q => Nat.ne_of_lt (Nat.lt_of_lt_of_le q ge_o_229)) (fun q => Nat.ne_of_gt (Nat.lt_of_lt_of_le x_o_229.lt (Nat.le_trans (Nat.le_trans K_246.1 (Nat.le_trans K_261.1 (Nat.le_trans K_281.1 K_303.1))) q))))
                                                  have ne_479 : w_317 ≠ w_394 := (Nat.ne_of_lt (Nat.lt_of_lt_of_le f_319.lt (Nat.le_trans (Nat.le_trans K_338.1 (Nat.le_trans K_355.1 K_370.1)) f_396)))
                                                  have ne_480 : w_317 ≠ a_419 := (Nat.ne_of_lt (Nat.lt_of_lt_of_le f_319.lt (Nat.le_trans (Nat.le_trans K_338.1 (Nat.le_trans K_355.1 (Nat.le_trans K_370.1 (Nat.le_trans K_395.1 K_412.1)))) (Nat.le_of_eq g_a_419.symm))))
                                                  have ne_481 : w_317 ≠ w_441 := (Nat.ne_of_lt (Nat.lt_of_lt_of_le f_319.lt (Nat.le_trans (Nat.le_trans K_338.1 (Nat.le_trans K_355.1 (Nat.le_trans K_370.1 (Nat.le_trans K_395.1 (Nat.le_trans K_412.1 (Nat.le_trans E_421.1 (Nat.le_trans (Keep.of_wr W_426).1 (Keep.of_wr W_430).1))))))) f_443)))
                                                  have f_482 : Fld Z h_462 w_317 sN "value" "I" (.int zz) := ((((((((((f_320.keep K_338 (ninS ne_477 (ninS ne_476 nin0))).keep K_355 nin0).keep K_370 (ninS ne_478 nin0)).keep K_395 nin0).keep K_412 (ninS ne_479 nin0)).ext E_421).other W_426 (Or.inl ne_480)).other W_430 (Or.inl ne_480)).keep K_442 nin0).keep K_466 (ninS ne_481 nin0))
                                                  have f_483 : Exa Z h_462 w_441 sI := (f_445.keep K_466)
                                                  have f_484 : Exa Z h_462 lk_336 sL := (((((((((f_341.keep K_355).keep K_370).keep K_395).keep K_412).ext E_421).wr W_426).wr W_430).keep K_442).keep K_466)
                                                  have f_485 : Exa Z h_462 w_317 sN := ((((((((((f_319.keep K_338).keep K_355).keep K_370).keep K_395).keep K_412).ext E_421).wr W_426).wr W_430).keep K_442).keep K_466)
                                                  refine K.calls (argsL := [(.ref w_441), (.int (1 : Int32)), (.int zz)]) (rest := []) at_394 (pc' := 397) rfl (c_st10 l Z a0 hw n0 h_462 (a := w_441) (e := zz) (lk := lk_336) (b := w_317) (v0 := zz) f_483 f_444 f_467 f_484 ne_473 f_475 f_474 ne_481 f_485 f_482) hw78 hw79 hw80 hw81 (by decide) pd_10 rfl rfl (W := 0) (by simp [Value.category]) (by decide) (by decide) (by decide) (by decide) (fun v_488 h_486 q_487 => ?_)
                                                  obtain ⟨rfl, K_490, f_491⟩ := q_487
                                                  show G h_486 12 26 (mkF m 397 #[vi p, vi x1, vi x2, vi y1, vi y2, vi zz, vi 0, vi 1, vi w, vr o_219, vr o_229, vi 1, vr w_394, vr a_419, vi 2, vi 2, vr w_441] [(.int (b2 (zz.toInt = zz.toInt)))])
                                                  refine K.ifeqB at_397 (pc1 := 400) rfl (by decide) (pc2 := 404) (by decide) (fun c397 => ?_) (fun c397 => ?_)
                                                  · exfalso; first | exact c397 rfl | exact c397 trivial
                                                  · refine K.iconst at_400 (pc' := 401) rfl (z := 1) rfl ?_
                                                    refine K.goto at_401 (by decide) (pc' := 405) (by decide) ?_
                                                    refine K.istore at_405 (pc' := 407) rfl (L' := #[vi p, vi x1, vi x2, vi y1, vi y2, vi zz, vi 0, vi 1, vi w, vr o_219, vr o_229, vi 1, vr w_394, vr a_419, vi 2, vi 2, vr w_441]) rfl ?_
                                                    refine K.iload at_407 (pc' := 409) rfl rfl ?_
                                                    refine K.if_eq at_409 (pc1 := 412) rfl (by decide) (pc2 := 439) (by decide) (a := 1) rfl (fun c409 => ?_) (fun c409 => ?_)
                                                    · exfalso; omega
                                                    · refine K.aload at_412 (pc' := 414) rfl rfl rfl ?_
                                                      refine K.iconst at_414 (pc' := 415) rfl (z := 2) rfl ?_
                                                      refine K.iload at_415 (pc' := 417) rfl rfl ?_
                                                      refine K.icmp_ge at_417 (pc1 := 420) rfl (by decide) (pc2 := 424) (by decide) (a := 2) (b := 2) rfl rfl (fun c417 => ?_) (fun c417 => ?_)
                                                      · refine K.iconst at_424 (pc' := 425) rfl (z := 0) rfl ?_
                                                        refine K.aload at_425 (pc' := 427) rfl rfl rfl ?_
                                                        refine K.iconst at_427 (pc' := 428) rfl (z := 2) rfl ?_
                                                        have f_492 : Ary Z h_486 a_419 .int [(.int y1), (.int zz), (.int (0 : Int32)), (.int (0 : Int32)), (.int (0 : Int32))] := (f_469.keep K_490 (ninS ne_468 nin0))
                                                        refine K.iald at_428 (pc' := 429) rfl f_492 (i := 2) rfl rfl ?_
                                                        refine K.calls (argsL := [(.ref w_441), (.int (0 : Int32)), (.int (0 : Int32))]) (rest := []) at_429 (pc' := 432) rfl (c_st0 l Z a0 hw n0 h_486 (a := w_441) (e := (0 : Int32)) ) hw78 hw79 hw80 hw81 (by decide) pd_10 rfl rfl (W := 0) (by simp [Value.category]) (by decide) (by decide) (by decide) (by decide) (fun v_495 h_493 q_494 => ?_)
                                                        obtain ⟨rfl, rfl⟩ := q_494
                                                        show G h_486 12 26 (mkF m 432 #[vi p, vi x1, vi x2, vi y1, vi y2, vi zz, vi 0, vi 1, vi w, vr o_219, vr o_229, vi 1, vr w_394, vr a_419, vi 2, vi 2, vr w_441] [(.int (b2 (True)))])
                                                        refine K.ifeqB at_432 (pc1 := 435) rfl (by decide) (pc2 := 439) (by decide) (fun c432 => ?_) (fun c432 => ?_)
                                                        · exfalso; first | exact c432 rfl | exact c432 trivial
                                                        · refine K.iconst at_435 (pc' := 436) rfl (z := 1) rfl ?_
                                                          refine K.goto at_436 (by decide) (pc' := 440) (by decide) ?_
                                                          refine K.istore at_440 (pc' := 442) rfl (L' := #[vi p, vi x1, vi x2, vi y1, vi y2, vi zz, vi 0, vi 1, vi w, vr o_219, vr o_229, vi 1, vr w_394, vr a_419, vi 2, vi 2, vr w_441]) rfl ?_
                                                          refine K.iload at_442 (pc' := 444) rfl rfl ?_
                                                          refine K.if_eq at_444 (pc1 := 447) rfl (by decide) (pc2 := 474) (by decide) (a := 1) rfl (fun c444 => ?_) (fun c444 => ?_)
                                                          · exfalso; omega
                                                          · refine K.aload at_447 (pc' := 449) rfl rfl rfl ?_
                                                            refine K.iconst at_449 (pc' := 450) rfl (z := 3) rfl ?_
                                                            refine K.iload at_450 (pc' := 452) rfl rfl ?_
                                                            refine K.icmp_ge at_452 (pc1 := 455) rfl (by decide) (pc2 := 459) (by decide) (a := 3) (b := 2) rfl rfl (fun c452 => ?_) (fun c452 => ?_)
                                                            · refine K.iconst at_459 (pc' := 460) rfl (z := 0) rfl ?_
                                                              refine K.aload at_460 (pc' := 462) rfl rfl rfl ?_
                                                              refine K.iconst at_462 (pc' := 463) rfl (z := 3) rfl ?_
                                                              refine K.iald at_463 (pc' := 464) rfl f_492 (i := 3) rfl rfl ?_
                                                              refine K.calls (argsL := [(.ref w_441), (.int (0 : Int32)), (.int (0 : Int32))]) (rest := []) at_464 (pc' := 467) rfl (c_st0 l Z a0 hw n0 h_486 (a := w_441) (e := (0 : Int32)) ) hw78 hw79 hw80 hw81 (by decide) pd_10 rfl rfl (W := 0) (by simp [Value.category]) (by decide) (by decide) (by decide) (by decide) (fun v_499 h_497 q_498 => ?_)
                                                              obtain ⟨rfl, rfl⟩ := q_498
                                                              show G h_486 12 26 (mkF m 467 #[vi p, vi x1, vi x2, vi y1, vi y2, vi zz, vi 0, vi 1, vi w, vr o_219, vr o_229, vi 1, vr w_394, vr a_419, vi 2, vi 2, vr w_441] [(.int (b2 (True)))])
                                                              refine K.ifeqB at_467 (pc1 := 470) rfl (by decide) (pc2 := 474) (by decide) (fun c467 => ?_) (fun c467 => ?_)
                                                              · exfalso; first | exact c467 rfl | exact c467 trivial
                                                              · refine K.iconst at_470 (pc' := 471) rfl (z := 1) rfl ?_
                                                                refine K.goto at_471 (by decide) (pc' := 475) (by decide) ?_
                                                                refine K.istore at_475 (pc' := 477) rfl (L' := #[vi p, vi x1, vi x2, vi y1, vi y2, vi zz, vi 0, vi 1, vi w, vr o_219, vr o_229, vi 1, vr w_394, vr a_419, vi 2, vi 2, vr w_441]) rfl ?_
                                                                refine K.iload at_477 (pc' := 479) rfl rfl ?_
                                                                refine K.if_eq at_479 (pc1 := 482) rfl (by decide) (pc2 := 509) (by decide) (a := 1) rfl (fun c479 => ?_) (fun c479 => ?_)
                                                                · exfalso; omega
                                                                · refine K.aload at_482 (pc' := 484) rfl rfl rfl ?_
                                                                  refine K.iconst at_484 (pc' := 485) rfl (z := 4) rfl ?_
                                                                  refine K.iload at_485 (pc' := 487) rfl rfl ?_
                                                                  refine K.icmp_ge at_487 (pc1 := 490) rfl (by decide) (pc2 := 494) (by decide) (a := 4) (b := 2) rfl rfl (fun c487 => ?_) (fun c487 => ?_)
                                                                  · refine K.iconst at_494 (pc' := 495) rfl (z := 0) rfl ?_
                                                                    refine K.aload at_495 (pc' := 497) rfl rfl rfl ?_
                                                                    refine K.iconst at_497 (pc' := 498) rfl (z := 4) rfl ?_
                                                                    refine K.iald at_498 (pc' := 499) rfl f_492 (i := 4) rfl rfl ?_
                                                                    refine K.calls (argsL := [(.ref w_441), (.int (0 : Int32)), (.int (0 : Int32))]) (rest := []) at_499 (pc' := 502) rfl (c_st0 l Z a0 hw n0 h_486 (a := w_441) (e := (0 : Int32)) ) hw78 hw79 hw80 hw81 (by decide) pd_10 rfl rfl (W := 0) (by simp [Value.category]) (by decide) (by decide) (by decide) (by decide) (fun v_503 h_501 q_502 => ?_)
                                                                    obtain ⟨rfl, rfl⟩ := q_502
                                                                    show G h_486 12 26 (mkF m 502 #[vi p, vi x1, vi x2, vi y1, vi y2, vi zz, vi 0, vi 1, vi w, vr o_219, vr o_229, vi 1, vr w_394, vr a_419, vi 2, vi 2, vr w_441] [(.int (b2 (True)))])
                                                                    refine K.ifeqB at_502 (pc1 := 505) rfl (by decide) (pc2 := 509) (by decide) (fun c502 => ?_) (fun c502 => ?_)
                                                                    · exfalso; first | exact c502 rfl | exact c502 trivial
                                                                    · refine K.iconst at_505 (pc' := 506) rfl (z := 1) rfl ?_
                                                                      refine K.goto at_506 (by decide) (pc' := 510) (by decide) ?_
                                                                      refine K.istore at_510 (pc' := 512) rfl (L' := #[vi p, vi x1, vi x2, vi y1, vi y2, vi zz, vi 0, vi 1, vi w, vr o_219, vr o_229, vi 1, vr w_394, vr a_419, vi 2, vi 2, vr w_441]) rfl ?_
                                                                      refine K.iload at_512 (pc' := 514) rfl rfl ?_
                                                                      refine K.if_eq at_514 (pc1 := 517) rfl (by decide) (pc2 := 531) (by decide) (a := 1) rfl (fun c514 => ?_) (fun c514 => ?_)
                                                                      · exfalso; omega
                                                                      · refine K.aload at_517 (pc' := 519) rfl rfl rfl ?_
                                                                        have f_505 : Exa Z h_486 w_441 sI := (f_483.keep K_490)
                                                                        refine K.calli (z := (⟨sI, "hasNext", "()Z"⟩ : MethodName)) (argsL := []) (rest := []) at_519 (pc' := 524) rfl (c_has0 l Z a0 hw n0 h_486 (a := w_441) f_505 f_491) f_505 hw46 hw47 hw48 rfl hw49 hw50 hw51 hw52 hw53 hw36 hw54 (by decide) pd_4 rfl rfl (W := 0) (by simp [Value.category]) (by decide) (by decide) (by decide) (by decide) (fun v_508 h_506 q_507 => ?_)
                                                                        obtain ⟨rfl, rfl⟩ := q_507
                                                                        show G h_486 12 26 (mkF m 524 #[vi p, vi x1, vi x2, vi y1, vi y2, vi zz, vi 0, vi 1, vi w, vr o_219, vr o_229, vi 1, vr w_394, vr a_419, vi 2, vi 2, vr w_441] [(.int (b2 (False)))])
                                                                        refine K.ifneB at_524 (pc1 := 527) rfl (by decide) (pc2 := 531) (by decide) (fun c524 => ?_) (fun c524 => ?_)
                                                                        · exfalso; exact c524
                                                                        · refine K.iconst at_527 (pc' := 528) rfl (z := 1) rfl ?_
                                                                          refine K.goto at_528 (by decide) (pc' := 532) (by decide) ?_
                                                                          exact K.retz at_532 (Or.inr rfl) (by decide) (by decide) rfl
                                                                  · exfalso; omega
                                                            · exfalso; omega
                                                      · exfalso; omega
                                      · exfalso; omega
                                  · exfalso; omega
                                · exfalso; omega
            · exfalso; omega
        · exfalso; omega
      · exfalso; omega
    · refine K.iload at_16 (pc' := 18) rfl rfl ?_
      refine K.iconst at_18 (pc' := 19) rfl (z := -1) rfl ?_
      obtain ⟨w, e_w⟩ : ∃ z, zz ^^^ (-1 : Int32) = z := ⟨_, rfl⟩
      refine K.ixor at_19 (pc' := 20) rfl e_w ?_
      refine K.istore at_20 (pc' := 22) rfl (L' := #[vi p, vi x1, vi x2, vi y1, vi y2, vi zz, vi 0, vi 2, vi w, .unset, .unset, .unset, .unset, .unset, .unset, .unset, .unset]) rfl ?_
      refine K.newo at_22 (pc' := 25) rfl hw1 hw2 hw3 (by decide) (by decide) (fun h_511 o_510 g_o_510 E_512 x_o_510 D_o_510 => ?_)
      have ge_o_510 : n0 ≤ o_510 := g_o_510 ▸ Z0
      have f_513 : Fld Z h_511 o_510 sC "first" dL .null := D_o_510 (Or.inl hw21) (ty := (.object sL)) (by decide)
      have f_514 : Fld Z h_511 o_510 sC "size" "I" (.int (0 : Int32)) := D_o_510 (Or.inl hw28) (ty := .int) (by decide)
      have f_515 : Fld Z h_511 o_510 sC "last" dL .null := D_o_510 (Or.inl hw77) (ty := (.object sL)) (by decide)
      refine K.dup at_25 (pc' := 26) rfl rfl ?_
      refine K.callc (argsL := []) (rest := [(.ref o_510)]) at_26 (pc' := 29) rfl rfl (c_chn l Z a0 hw n0 h_511 (a := o_510) ) hw4 hw5 hw3 hw6 (by decide) pd_0 rfl rfl (W := 1) (by simp [Value.category]) (by decide) (by decide) (by decide) (by decide) (fun v_518 h_516 q_517 => ?_)
      obtain ⟨rfl, rfl⟩ := q_517
      show G h_511 1 3 (mkF m 29 #[vi p, vi x1, vi x2, vi y1, vi y2, vi zz, vi 0, vi 2, vi w, .unset, .unset, .unset, .unset, .unset, .unset, .unset, .unset] [(.ref o_510)])
      refine K.astore at_29 (pc' := 31) rfl rfl (L' := #[vi p, vi x1, vi x2, vi y1, vi y2, vi zz, vi 0, vi 2, vi w, vr o_510, .unset, .unset, .unset, .unset, .unset, .unset, .unset]) rfl ?_
      refine K.newo at_31 (pc' := 34) rfl hw1 hw2 hw3 (by decide) (by decide) (fun h_521 o_520 g_o_520 E_522 x_o_520 D_o_520 => ?_)
      have sz_523 : n0 ≤ h_511.size := Nat.le_trans Z0 E_512.1
      have ge_o_520 : n0 ≤ o_520 := g_o_520 ▸ sz_523
      have f_524 : Fld Z h_521 o_520 sC "first" dL .null := D_o_520 (Or.inl hw21) (ty := (.object sL)) (by decide)
      have f_525 : Fld Z h_521 o_520 sC "size" "I" (.int (0 : Int32)) := D_o_520 (Or.inl hw28) (ty := .int) (by decide)
      have f_526 : Fld Z h_521 o_520 sC "last" dL .null := D_o_520 (Or.inl hw77) (ty := (.object sL)) (by decide)
      refine K.dup at_34 (pc' := 35) rfl rfl ?_
      refine K.callc (argsL := []) (rest := [(.ref o_520)]) at_35 (pc' := 38) rfl rfl (c_chn l Z a0 hw n0 h_521 (a := o_520) ) hw4 hw5 hw3 hw6 (by decide) pd_0 rfl rfl (W := 1) (by simp [Value.category]) (by decide) (by decide) (by decide) (by decide) (fun v_529 h_527 q_528 => ?_)
      obtain ⟨rfl, rfl⟩ := q_528
      show G h_521 2 6 (mkF m 38 #[vi p, vi x1, vi x2, vi y1, vi y2, vi zz, vi 0, vi 2, vi w, vr o_510, .unset, .unset, .unset, .unset, .unset, .unset, .unset] [(.ref o_520)])
      refine K.astore at_38 (pc' := 40) rfl rfl (L' := #[vi p, vi x1, vi x2, vi y1, vi y2, vi zz, vi 0, vi 2, vi w, vr o_510, vr o_520, .unset, .unset, .unset, .unset, .unset, .unset]) rfl ?_
      refine K.iload at_40 (pc' := 42) rfl rfl ?_
      refine K.if_le at_42 (pc1 := 45) rfl (by decide) (pc2 := 55) (by decide) (a := 0) rfl (fun c42 => ?_) (fun c42 => ?_)
      · refine K.iload at_55 (pc' := 57) rfl rfl ?_
        refine K.iconst at_57 (pc' := 58) rfl (z := 1) rfl ?_
        refine K.icmp_le at_58 (pc1 := 61) rfl (by decide) (pc2 := 71) (by decide) (a := 0) (b := 1) rfl rfl (fun c58 => ?_) (fun c58 => ?_)
        · refine K.iload at_71 (pc' := 73) rfl rfl ?_
          refine K.if_le at_73 (pc1 := 76) rfl (by decide) (pc2 := 86) (by decide) (a := 2) rfl (fun c73 => ?_) (fun c73 => ?_)
          · exfalso; omega
          · refine K.aload at_76 (pc' := 78) rfl rfl rfl ?_
            refine K.iloadN at_78 (pc' := 79) rfl rfl ?_
            have sz_531 : n0 ≤ h_521.size := Nat.le_trans sz_523 E_522.1
            have f_532 : Old Z n0 h_521 := ((P2.ext E_512).ext E_522)
            refine K.calls (argsL := [(.int y1)]) (rest := [(.ref o_520)]) at_79 (pc' := 82) rfl (c_val l Z a0 hw n0 h_521 (p := y1) (ca := ca) (cc := cc) sz_531 f_532 P3 P4 hbx) hw55 hw56 hw57 hw58 (by decide) pd_8 rfl rfl (W := 1) (by simp [Value.category]) (by decide) (by decide) (by decide) (by decide) (fun v_535 h_533 q_534 => ?_)
            obtain ⟨w_536, rfl, K_537, f_538, f_539, f_540⟩ := q_534
            show G h_533 3 7 (mkF m 82 #[vi p, vi x1, vi x2, vi y1, vi y2, vi zz, vi 0, vi 2, vi w, vr o_510, vr o_520, .unset, .unset, .unset, .unset, .unset, .unset] [(.ref w_536), (.ref o_520)])
            have f_541 : Exa Z h_533 o_520 sC := (x_o_520.keep K_537)
            have f_542 : Fld Z h_533 o_520 sC "last" dL .null := (f_526.keep K_537 nin0)
            have f_543 : Fld Z h_533 o_520 sC "size" "I" (.int (0 : Int32)) := (f_525.keep K_537 nin0)
            have sz_544 : n0 ≤ h_533.size := Nat.le_trans sz_531 K_537.1
            have f_545 : Fld Z h_533 o_520 sC "first" dL .null := (f_524.keep K_537 nin0)
            refine K.callv (z := (⟨sC, "add", "(Ljava/lang/Object;)Z"⟩ : MethodName)) (argsL := [(.ref w_536)]) (rest := []) at_82 (pc' := 85) rfl (c_add0 l Z a0 hw n0 h_533 (a := o_520) (e := w_536) (n := (0 : Int32)) sz_544 f_541 ge_o_520 f_545 f_542 f_543 (by first | decide | omega)) f_541 hw62 hw63 (nf_sel hw65 rfl) hw65 hw64 hw3 hw66 (by decide) pd_9 rfl rfl (W := 0) (by simp [Value.category]) (by decide) (by decide) (by decide) (by decide) (fun v_548 h_546 q_547 => ?_)
            obtain ⟨lk_550, n1_551, rfl, K_552, hn1_w_549, f_553, f_554, f_555, f_556, f_557, f_558, f_559, f_560⟩ := q_547
            show G h_546 4 9 (mkF m 85 #[vi p, vi x1, vi x2, vi y1, vi y2, vi zz, vi 0, vi 2, vi w, vr o_510, vr o_520, .unset, .unset, .unset, .unset, .unset, .unset] [(.int (b2 (True)))])
            refine K.pop at_85 (pc' := 86) rfl rfl ?_
            refine K.iload at_86 (pc' := 88) rfl rfl ?_
            refine K.iconst at_88 (pc' := 89) rfl (z := 1) rfl ?_
            refine K.icmp_le at_89 (pc1 := 92) rfl (by decide) (pc2 := 103) (by decide) (a := 2) (b := 1) rfl rfl (fun c89 => ?_) (fun c89 => ?_)
            · exfalso; omega
            · refine K.aload at_92 (pc' := 94) rfl rfl rfl ?_
              refine K.iload at_94 (pc' := 96) rfl rfl ?_
              have sz_561 : n0 ≤ h_546.size := Nat.le_trans sz_544 K_552.1
              have f_562 : Old Z n0 h_546 := ((f_532.keep K_537 all0).keep K_552 (allS ge_o_520 all0))
              refine K.calls (argsL := [(.int y2)]) (rest := [(.ref o_520)]) at_96 (pc' := 99) rfl (c_val l Z a0 hw n0 h_546 (p := y2) (ca := ca) (cc := cc) sz_561 f_562 P3 P4 hbx) hw55 hw56 hw57 hw58 (by decide) pd_8 rfl rfl (W := 1) (by simp [Value.category]) (by decide) (by decide) (by decide) (by decide) (fun v_565 h_563 q_564 => ?_)
              obtain ⟨w_566, rfl, K_567, f_568, f_569, f_570⟩ := q_564
              show G h_563 5 10 (mkF m 99 #[vi p, vi x1, vi x2, vi y1, vi y2, vi zz, vi 0, vi 2, vi w, vr o_510, vr o_520, .unset, .unset, .unset, .unset, .unset, .unset] [(.ref w_566), (.ref o_520)])
              have f_571 : Exa Z h_563 o_520 sC := ((f_541.keep K_552).keep K_567)
              have f_572 : Fld Z h_563 o_520 sC "last" dL (.ref lk_550) := (f_559.keep K_567 nin0)
              have f_573 : Fld Z h_563 o_520 sC "first" dL (.ref lk_550) := (f_558.keep K_567 nin0)
              have f_574 : Fld Z h_563 o_520 sC "size" "I" (.int n1_551) := (f_560.keep K_567 nin0)
              have f_575 : Fld Z h_563 lk_550 sL "element" "Ljava/lang/Object;" (.ref w_536) := (f_556.keep K_567 nin0)
              have sz_576 : n0 ≤ h_563.size := Nat.le_trans sz_561 K_567.1
              have f_577 : Exa Z h_563 lk_550 sL := (f_555.keep K_567)
              have ne_578 : lk_550 ≠ o_520 := (Ne.symm (Nat.ne_of_lt (Nat.lt_of_lt_of_le x_o_520.lt (Nat.le_trans K_537.1 f_553))))
              have f_579 : Fld Z h_563 lk_550 sL "next" dL .null := (f_557.keep K_567 nin0)
              refine K.callv (z := (⟨sC, "add", "(Ljava/lang/Object;)Z"⟩ : MethodName)) (argsL := [(.ref w_566)]) (rest := []) at_99 (pc' := 102) rfl (c_add1 l Z a0 hw n0 h_563 (a := o_520) (e := w_566) (n := n1_551) (f0 := lk_550) (t := lk_550) (te := w_536) sz_576 f_571 ge_o_520 f_577 f_554 ne_578 f_579 f_575 f_573 f_572 f_574 (by omega)) f_571 hw62 hw63 (nf_sel hw65 rfl) hw65 hw64 hw3 hw66 (by decide) pd_9 rfl rfl (W := 0) (by simp [Value.category]) (by decide) (by decide) (by decide) (by decide) (fun v_582 h_580 q_581 => ?_)
              obtain ⟨lk_584, n1_585, rfl, K_586, hn1_w_583, f_587, f_588, f_589, f_590, f_591, f_592, f_593, f_594, f_595, f_596⟩ := q_581
              show G h_580 6 12 (mkF m 102 #[vi p, vi x1, vi x2, vi y1, vi y2, vi zz, vi 0, vi 2, vi w, vr o_510, vr o_520, .unset, .unset, .unset, .unset, .unset, .unset] [(.int (b2 (True)))])
              refine K.pop at_102 (pc' := 103) rfl rfl ?_
              refine K.aload at_103 (pc' := 105) rfl rfl rfl ?_
              refine K.aload at_105 (pc' := 107) rfl rfl rfl ?_
              have f_597 : Exa Z h_580 o_510 sC := (((((x_o_510.ext E_522).keep K_537).keep K_552).keep K_567).keep K_586)
              have ne_598 : o_510 ≠ o_520 := (Nat.ne_of_lt (Nat.lt_of_lt_of_le x_o_510.lt (Nat.le_trans (Nat.le_refl _) (Nat.le_of_eq g_o_520.symm))))
              have ne_599 : o_510 ≠ lk_550 := (Nat.ne_of_lt (Nat.lt_of_lt_of_le x_o_510.lt (Nat.le_trans (Nat.le_trans E_522.1 K_537.1) f_553)))
              have f_600 : Fld Z h_580 o_510 sC "last" dL .null := (((((f_515.ext E_522).keep K_537 nin0).keep K_552 (ninS ne_598 nin0)).keep K_567 nin0).keep K_586 (ninS ne_598 (ninS ne_599 nin0)))
              have f_601 : Fld Z h_580 o_510 sC "size" "I" (.int (0 : Int32)) := (((((f_514.ext E_522).keep K_537 nin0).keep K_552 (ninS ne_598 nin0)).keep K_567 nin0).keep K_586 (ninS ne_598 (ninS ne_599 nin0)))
              have f_602 : Exa Z h_580 o_520 sC := (f_571.keep K_586)
              have f_603 : Fld Z h_580 o_510 sC "first" dL .null := (((((f_513.ext E_522).keep K_537 nin0).keep K_552 (ninS ne_598 nin0)).keep K_567 nin0).keep K_586 (ninS ne_598 (ninS ne_599 nin0)))
              refine K.callv (z := (⟨sC, "moveAll", "(Lcom/example/quadrille/quadrille/formats/Chain;)V"⟩ : MethodName)) (argsL := [(.ref o_520)]) (rest := []) at_107 (pc' := 110) rfl (c_mv0 l Z a0 hw n0 h_580 (a := o_510) (b := o_520) (n := (0 : Int32)) (k := n1_585) (f1 := lk_550) (l1 := lk_584) f_597 ge_o_510 f_602 ge_o_520 ne_598 f_603 f_600 f_601 f_594 f_595 f_596 (by first | decide | omega) (by omega)) f_597 hw15 hw16 (nf_sel hw18 rfl) hw18 hw17 hw3 hw19 (by decide) pd_3 rfl rfl (W := 0) (by simp [Value.category]) (by decide) (by decide) (by decide) (by decide) (fun v_606 h_604 q_605 => ?_)
              obtain ⟨n1_608, rfl, K_609, hn1_w_607, f_610, f_611, f_612, f_613, f_614, f_615⟩ := q_605
              show G h_604 6 12 (mkF m 110 #[vi p, vi x1, vi x2, vi y1, vi y2, vi zz, vi 0, vi 2, vi w, vr o_510, vr o_520, .unset, .unset, .unset, .unset, .unset, .unset] [])
              refine K.aload at_110 (pc' := 112) rfl rfl rfl ?_
              have f_616 : Exa Z h_604 o_510 sC := (f_597.keep K_609)
              refine K.callv (z := (⟨sC, "size", "()I"⟩ : MethodName)) (argsL := []) (rest := []) at_112 (pc' := 115) rfl (c_size l Z a0 hw n0 h_604 (a := o_510) (n := n1_608) f_616 f_612) f_616 hw22 hw23 (nf_sel hw25 rfl) hw25 hw24 hw3 hw26 (by decide) pd_6 rfl rfl (W := 0) (by simp [Value.category]) (by decide) (by decide) (by decide) (by decide) (fun v_619 h_617 q_618 => ?_)
              obtain ⟨rfl, rfl⟩ := q_618
              show G h_604 6 12 (mkF m 115 #[vi p, vi x1, vi x2, vi y1, vi y2, vi zz, vi 0, vi 2, vi w, vr o_510, vr o_520, .unset, .unset, .unset, .unset, .unset, .unset] [(.int n1_608)])
              refine K.iload at_115 (pc' := 117) rfl rfl ?_
              refine K.iload at_117 (pc' := 119) rfl rfl ?_
              refine K.iadd at_119 (pc' := 120) rfl (z := (2 : Int32)) (by decide) ?_
              refine K.icmp_ne at_120 (pc1 := 123) rfl (by decide) (pc2 := 148) (by decide) (a := n1_608.toInt) (b := 2) rfl rfl (fun c120 => ?_) (fun c120 => ?_)
              · exfalso; have o0 : (0 : Int32).toInt = 0 := rfl; have o1 : (1 : Int32).toInt = 1 := rfl; have o2 : (2 : Int32).toInt = 2 := rfl; omega
              · refine K.aload at_123 (pc' := 125) rfl rfl rfl ?_
                have f_621 : Exa Z h_604 o_520 sC := (f_602.keep K_609)
                refine K.callv (z := (⟨sC, "size", "()I"⟩ : MethodName)) (argsL := []) (rest := []) at_125 (pc' := 128) rfl (c_size l Z a0 hw n0 h_604 (a := o_520) (n := (0 : Int32)) f_621 f_615) f_621 hw22 hw23 (nf_sel hw25 rfl) hw25 hw24 hw3 hw26 (by decide) pd_6 rfl rfl (W := 0) (by simp [Value.category]) (by decide) (by decide) (by decide) (by decide) (fun v_624 h_622 q_623 => ?_)
                obtain ⟨rfl, rfl⟩ := q_623
                show G h_604 6 12 (mkF m 128 #[vi p, vi x1, vi x2, vi y1, vi y2, vi zz, vi 0, vi 2, vi w, vr o_510, vr o_520, .unset, .unset, .unset, .unset, .unset, .unset] [(.int (0 : Int32))])
                refine K.if_ne at_128 (pc1 := 131) rfl (by decide) (pc2 := 148) (by decide) (a := 0) rfl (fun c128 => ?_) (fun c128 => ?_)
                · exfalso; have o0 : (0 : Int32).toInt = 0 := rfl; have o1 : (1 : Int32).toInt = 1 := rfl; have o2 : (2 : Int32).toInt = 2 := rfl; omega
                · refine K.aload at_131 (pc' := 133) rfl rfl rfl ?_
                  have sz_626 : n0 ≤ h_604.size := Nat.le_trans sz_576 (Nat.le_trans K_586.1 K_609.1)
                  refine K.callv (z := (⟨sC, "iterator", "()Ljava/util/Iterator;"⟩ : MethodName)) (argsL := []) (rest := []) at_133 (pc' := 136) rfl (c_it0 l Z a0 hw n0 h_604 (b := o_520) sz_626 f_621 f_613) f_621 hw29 hw30 (nf_sel hw32 rfl) hw32 hw31 hw3 hw33 (by decide) pd_7 rfl rfl (W := 0) (by simp [Value.category]) (by decide) (by decide) (by decide) (by decide) (fun v_629 h_627 q_628 => ?_)
                  obtain ⟨w_630, rfl, K_631, f_632, f_633, f_634, f_635⟩ := q_628
                  show G h_627 7 14 (mkF m 136 #[vi p, vi x1, vi x2, vi y1, vi y2, vi zz, vi 0, vi 2, vi w, vr o_510, vr o_520, .unset, .unset, .unset, .unset, .unset, .unset] [(.ref w_630)])
                  refine K.calli (z := (⟨sI, "hasNext", "()Z"⟩ : MethodName)) (argsL := []) (rest := []) at_136 (pc' := 141) rfl (c_has0 l Z a0 hw n0 h_627 (a := w_630) f_634 f_635) f_634 hw46 hw47 hw48 rfl hw49 hw50 hw51 hw52 hw53 hw36 hw54 (by decide) pd_4 rfl rfl (W := 0) (by simp [Value.category]) (by decide) (by decide) (by decide) (by decide) (fun v_638 h_636 q_637 => ?_)
                  obtain ⟨rfl, rfl⟩ := q_637
                  show G h_627 7 14 (mkF m 141 #[vi p, vi x1, vi x2, vi y1, vi y2, vi zz, vi 0, vi 2, vi w, vr o_510, vr o_520, .unset, .unset, .unset, .unset, .unset, .unset] [(.int (b2 (False)))])
                  refine K.ifneB at_141 (pc1 := 144) rfl (by decide) (pc2 := 148) (by decide) (fun c141 => ?_) (fun c141 => ?_)
                  · exfalso; exact c141
                  · refine K.iconst at_144 (pc' := 145) rfl (z := 1) rfl ?_
                    refine K.goto at_145 (by decide) (pc' := 149) (by decide) ?_
                    refine K.istore at_149 (pc' := 151) rfl (L' := #[vi p, vi x1, vi x2, vi y1, vi y2, vi zz, vi 0, vi 2, vi w, vr o_510, vr o_520, vi 1, .unset, .unset, .unset, .unset, .unset]) rfl ?_
                    refine K.aload at_151 (pc' := 153) rfl rfl rfl ?_
                    refine K.iload at_153 (pc' := 155) rfl rfl ?_
                    have sz_640 : n0 ≤ h_627.size := Nat.le_trans sz_626 K_631.1
                    have f_641 : Old Z n0 h_627 := ((((f_562.keep K_567 all0).keep K_586 (allS ge_o_520 (allS f_554 all0))).keep K_609 (allS ge_o_510 (allS ge_o_520 all0))).keep K_631 all0)
                    refine K.calls (argsL := [(.int zz)]) (rest := [(.ref o_510)]) at_155 (pc' := 158) rfl (c_val l Z a0 hw n0 h_627 (p := zz) (ca := ca) (cc := cc) sz_640 f_641 P3 P4 hbx) hw55 hw56 hw57 hw58 (by decide) pd_8 rfl rfl (W := 1) (by simp [Value.category]) (by decide) (by decide) (by decide) (by decide) (fun v_644 h_642 q_643 => ?_)
                    obtain ⟨w_645, rfl, K_646, f_647, f_648, f_649⟩ := q_643
                    show G h_642 8 15 (mkF m 158 #[vi p, vi x1, vi x2, vi y1, vi y2, vi zz, vi 0, vi 2, vi w, vr o_510, vr o_520, vi 1, .unset, .unset, .unset, .unset, .unset] [(.ref w_645), (.ref o_510)])
                    have f_650 : Exa Z h_642 o_510 sC := ((f_616.keep K_631).keep K_646)
                    have f_651 : Fld Z h_642 o_510 sC "last" dL (.ref lk_584) := ((f_611.keep K_631 nin0).keep K_646 nin0)
                    have f_652 : Fld Z h_642 o_510 sC "first" dL (.ref lk_550) := ((f_610.keep K_631 nin0).keep K_646 nin0)
                    have f_653 : Fld Z h_642 o_510 sC "size" "I" (.int n1_608) := ((f_612.keep K_631 nin0).keep K_646 nin0)
                    have ne_654 : lk_584 ≠ o_520 := (Ne.symm (Nat.ne_of_lt (Nat.lt_of_lt_of_le x_o_520.lt (Nat.le_trans (Nat.le_trans K_537.1 (Nat.le_trans K_552.1 K_567.1)) f_587))))
                    have ne_655 : lk_584 ≠ o_510 := (Ne.symm (Nat.ne_of_lt (Nat.lt_of_lt_of_le x_o_510.lt (Nat.le_trans (Nat.le_trans E_522.1 (Nat.le_trans K_537.1 (Nat.le_trans K_552.1 K_567.1))) f_587))))
                    have f_656 : Fld Z h_642 lk_584 sL "element" "Ljava/lang/Object;" (.ref w_566) := (((f_590.keep K_609 (ninS ne_655 (ninS ne_654 nin0))).keep K_631 nin0).keep K_646 nin0)
                    have sz_657 : n0 ≤ h_642.size := Nat.le_trans sz_640 K_646.1
                    have f_658 : Exa Z h_642 lk_584 sL := (((f_589.keep K_609).keep K_631).keep K_646)
                    have f_659 : Fld Z h_642 lk_584 sL "next" dL .null := (((f_591.keep K_609 (ninS ne_655 (ninS ne_654 nin0))).keep K_631 nin0).keep K_646 nin0)
                    refine K.callv (z := (⟨sC, "add", "(Ljava/lang/Object;)Z"⟩ : MethodName)) (argsL := [(.ref w_645)]) (rest := []) at_158 (pc' := 161) rfl (c_add1 l Z a0 hw n0 h_642 (a := o_510) (e := w_645) (n := n1_608) (f0 := lk_550) (t := lk_584) (te := w_566) sz_657 f_650 ge_o_510 f_658 f_588 ne_655 f_659 f_656 f_652 f_651 f_653 (by omega)) f_650 hw62 hw63 (nf_sel hw65 rfl) hw65 hw64 hw3 hw66 (by decide) pd_9 rfl rfl (W := 0) (by simp [Value.category]) (by decide) (by decide) (by decide) (by decide) (fun v_662 h_660 q_661 => ?_)
                    obtain ⟨lk_664, n1_665, rfl, K_666, hn1_w_663, f_667, f_668, f_669, f_670, f_671, f_672, f_673, f_674, f_675, f_676⟩ := q_661
                    show G h_660 9 17 (mkF m 161 #[vi p, vi x1, vi x2, vi y1, vi y2, vi zz, vi 0, vi 2, vi w, vr o_510, vr o_520, vi 1, .unset, .unset, .unset, .unset, .unset] [(.int (b2 (True)))])
                    refine K.pop at_161 (pc' := 162) rfl rfl ?_
                    refine K.aload at_162 (pc' := 164) rfl rfl rfl ?_
                    refine K.iload at_164 (pc' := 166) rfl rfl ?_
                    have sz_677 : n0 ≤ h_660.size := Nat.le_trans sz_657 K_666.1
                    have f_678 : Old Z n0 h_660 := ((f_641.keep K_646 all0).keep K_666 (allS ge_o_510 (allS f_588 all0)))
                    refine K.calls (argsL := [(.int w)]) (rest := [(.ref o_520)]) at_166 (pc' := 169) rfl (c_val l Z a0 hw n0 h_660 (p := w) (ca := ca) (cc := cc) sz_677 f_678 P3 P4 hbx) hw55 hw56 hw57 hw58 (by decide) pd_8 rfl rfl (W := 1) (by simp [Value.category]) (by decide) (by decide) (by decide) (by decide) (fun v_681 h_679 q_680 => ?_)
                    obtain ⟨w_682, rfl, K_683, f_684, f_685, f_686⟩ := q_680
                    show G h_679 10 18 (mkF m 169 #[vi p, vi x1, vi x2, vi y1, vi y2, vi zz, vi 0, vi 2, vi w, vr o_510, vr o_520, vi 1, .unset, .unset, .unset, .unset, .unset] [(.ref w_682), (.ref o_520)])
                    have f_687 : Exa Z h_679 o_520 sC := ((((f_621.keep K_631).keep K_646).keep K_666).keep K_683)
                    have f_688 : Fld Z h_679 o_520 sC "last" dL .null := ((((f_614.keep K_631 nin0).keep K_646 nin0).keep K_666 (ninS (Ne.symm ne_598) (ninS (Ne.symm ne_654) nin0))).keep K_683 nin0)
                    have f_689 : Fld Z h_679 o_520 sC "size" "I" (.int (0 : Int32)) := ((((f_615.keep K_631 nin0).keep K_646 nin0).keep K_666 (ninS (Ne.symm ne_598) (ninS (Ne.symm ne_654) nin0))).keep K_683 nin0)
                    have sz_690 : n0 ≤ h_679.size := Nat.le_trans sz_677 K_683.1
                    have f_691 : Fld Z h_679 o_520 sC "first" dL .null := ((((f_613.keep K_631 nin0).keep K_646 nin0).keep K_666 (ninS (Ne.symm ne_598) (ninS (Ne.symm ne_654) nin0))).keep K_683 nin0)
                    refine K.callv (z := (⟨sC, "add", "(Ljava/lang/Object;)Z"⟩ : MethodName)) (argsL := [(.ref w_682)]) (rest := []) at_169 (pc' := 172) rfl (c_add0 l Z a0 hw n0 h_679 (a := o_520) (e := w_682) (n := (0 : Int32)) sz_690 f_687 ge_o_520 f_691 f_688 f_689 (by first | decide | omega)) f_687 hw62 hw63 (nf_sel hw65 rfl) hw65 hw64 hw3 hw66 (by decide) pd_9 rfl rfl (W := 0) (by simp [Value.category]) (by decide) (by decide) (by decide) (by decide) (fun v_694 h_692 q_693 => ?_)
                    obtain ⟨lk_696, n1_697, rfl, K_698, hn1_w_695, f_699, f_700, f_701, f_702, f_703, f_704, f_705, f_706⟩ := q_693
                    show G h_692 11 20 (mkF m 172 #[vi p, vi x1, vi x2, vi y1, vi y2, vi zz, vi 0, vi 2, vi w, vr o_510, vr o_520, vi 1, .unset, .unset, .unset, .unset, .unset] [(.int (b2 (True)))])
                    refine K.pop at_172 (pc' := 173) rfl rfl ?_
                    refine K.iload at_173 (pc' := 175) rfl rfl ?_
                    refine K.if_eq at_175 (pc1 := 178) rfl (by decide) (pc2 := 206) (by decide) (a := 1) rfl (fun c175 => ?_) (fun c175 => ?_)
                    · exfalso; omega
                    · refine K.aload at_178 (pc' := 180) rfl rfl rfl ?_
                      have f_707 : Exa Z h_692 o_510 sC := (((f_650.keep K_666).keep K_683).keep K_698)
                      have f_708 : Fld Z h_692 o_510 sC "size" "I" (.int n1_665) := ((f_676.keep K_683 nin0).keep K_698 (ninS ne_598 nin0))
                      refine K.callv (z := (⟨sC, "size", "()I"⟩ : MethodName)) (argsL := []) (rest := []) at_180 (pc' := 183) rfl (c_size l Z a0 hw n0 h_692 (a := o_510) (n := n1_665) f_707 f_708) f_707 hw22 hw23 (nf_sel hw25 rfl) hw25 hw24 hw3 hw26 (by decide) pd_6 rfl rfl (W := 0) (by simp [Value.category]) (by decide) (by decide) (by decide) (by decide) (fun v_711 h_709 q_710 => ?_)
                      obtain ⟨rfl, rfl⟩ := q_710
                      show G h_692 11 20 (mkF m 183 #[vi p, vi x1, vi x2, vi y1, vi y2, vi zz, vi 0, vi 2, vi w, vr o_510, vr o_520, vi 1, .unset, .unset, .unset, .unset, .unset] [(.int n1_665)])
                      refine K.iload at_183 (pc' := 185) rfl rfl ?_
                      refine K.iload at_185 (pc' := 187) rfl rfl ?_
                      refine K.iadd at_187 (pc' := 188) rfl (z := (2 : Int32)) (by decide) ?_
                      refine K.iconst at_188 (pc' := 189) rfl (z := 1) rfl ?_
                      refine K.iadd at_189 (pc' := 190) rfl (z := (3 : Int32)) (by decide) ?_
                      refine K.icmp_ne at_190 (pc1 := 193) rfl (by decide) (pc2 := 206) (by decide) (a := n1_665.toInt) (b := 3) rfl rfl (fun c190 => ?_) (fun c190 => ?_)
                      · exfalso; have o0 : (0 : Int32).toInt = 0 := rfl; have o1 : (1 : Int32).toInt = 1 := rfl; have o2 : (2 : Int32).toInt = 2 := rfl; omega
                      · refine K.aload at_193 (pc' := 195) rfl rfl rfl ?_
                        have f_713 : Exa Z h_692 o_520 sC := (f_687.keep K_698)
                        refine K.callv (z := (⟨sC, "size", "()I"⟩ : MethodName)) (argsL := []) (rest := []) at_195 (pc' := 198) rfl (c_size l Z a0 hw n0 h_692 (a := o_520) (n := n1_697) f_713 f_706) f_713 hw22 hw23 (nf_sel hw25 rfl) hw25 hw24 hw3 hw26 (by decide) pd_6 rfl rfl (W := 0) (by simp [Value.category]) (by decide) (by decide) (by decide) (by decide) (fun v_716 h_714 q_715 => ?_)
                        obtain ⟨rfl, rfl⟩ := q_715
                        show G h_692 11 20 (mkF m 198 #[vi p, vi x1, vi x2, vi y1, vi y2, vi zz, vi 0, vi 2, vi w, vr o_510, vr o_520, vi 1, .unset, .unset, .unset, .unset, .unset] [(.int n1_697)])
                        refine K.iconst at_198 (pc' := 199) rfl (z := 1) rfl ?_
                        refine K.icmp_ne at_199 (pc1 := 202) rfl (by decide) (pc2 := 206) (by decide) (a := n1_697.toInt) (b := 1) rfl rfl (fun c199 => ?_) (fun c199 => ?_)
                        · exfalso; have o0 : (0 : Int32).toInt = 0 := rfl; have o1 : (1 : Int32).toInt = 1 := rfl; have o2 : (2 : Int32).toInt = 2 := rfl; omega
                        · refine K.iconst at_202 (pc' := 203) rfl (z := 1) rfl ?_
                          refine K.goto at_203 (by decide) (pc' := 207) (by decide) ?_
                          refine K.istore at_207 (pc' := 209) rfl (L' := #[vi p, vi x1, vi x2, vi y1, vi y2, vi zz, vi 0, vi 2, vi w, vr o_510, vr o_520, vi 1, .unset, .unset, .unset, .unset, .unset]) rfl ?_
                          refine K.aload at_209 (pc' := 211) rfl rfl rfl ?_
                          have sz_718 : n0 ≤ h_692.size := Nat.le_trans sz_690 K_698.1
                          refine K.callv (z := (⟨sC, "iterator", "()Ljava/util/Iterator;"⟩ : MethodName)) (argsL := []) (rest := []) at_211 (pc' := 214) rfl (c_it1 l Z a0 hw n0 h_692 (b := o_520) (x := lk_696) sz_718 f_713 f_704) f_713 hw29 hw30 (nf_sel hw32 rfl) hw32 hw31 hw3 hw33 (by decide) pd_7 rfl rfl (W := 0) (by simp [Value.category]) (by decide) (by decide) (by decide) (by decide) (fun v_721 h_719 q_720 => ?_)
                          obtain ⟨w_722, rfl, K_723, f_724, f_725, f_726, f_727⟩ := q_720
                          show G h_719 12 22 (mkF m 214 #[vi p, vi x1, vi x2, vi y1, vi y2, vi zz, vi 0, vi 2, vi w, vr o_510, vr o_520, vi 1, .unset, .unset, .unset, .unset, .unset] [(.ref w_722)])
                          refine K.astore at_214 (pc' := 216) rfl rfl (L' := #[vi p, vi x1, vi x2, vi y1, vi y2, vi zz, vi 0, vi 2, vi w, vr o_510, vr o_520, vi 1, vr w_722, .unset, .unset, .unset, .unset]) rfl ?_
                          refine K.iload at_216 (pc' := 218) rfl rfl ?_
                          refine K.if_eq at_218 (pc1 := 221) rfl (by decide) (pc2 := 246) (by decide) (a := 1) rfl (fun c218 => ?_) (fun c218 => ?_)
                          · exfalso; omega
                          · refine K.aload at_221 (pc' := 223) rfl rfl rfl ?_
                            refine K.iconst at_223 (pc' := 224) rfl (z := 1) rfl ?_
                            refine K.iload at_224 (pc' := 226) rfl rfl ?_
                            have f_728 : Fld Z h_719 lk_696 sL "next" dL .null := (f_703.keep K_723 nin0)
                            have f_729 : Fld Z h_719 lk_696 sL "element" "Ljava/lang/Object;" (.ref w_682) := (f_702.keep K_723 nin0)
                            have ne_730 : w_682 ≠ o_520 := (f_686.elim (fun q => Nat.ne_of_lt (Nat.lt_of_lt_of_le q ge_o_520)) (fun q => Nat.ne_of_gt (Nat.lt_of_lt_of_le x_o_520.lt (Nat.le_trans (Nat.le_trans K_537.1 (Nat.le_trans K_552.1 (Nat.le_trans K_567.1 (Nat.le_trans K_586.1 (Nat.le_trans K_609.1 (Nat.le_trans K_631.1 (Nat.le_trans K_646.1 K_666.1))))))) q))))
                            have f_731 : Fld Z h_719 w_682 sN "value" "I" (.int w) := ((f_685.keep K_698 (ninS ne_730 nin0)).keep K_723 nin0)
                            have f_732 : Exa Z h_719 lk_696 sL := (f_701.keep K_723)
                            have ne_733 : lk_696 ≠ w_722 := (Nat.ne_of_lt (Nat.lt_of_lt_of_le f_701.lt (Nat.le_trans (Nat.le_refl _) f_724)))
                            have ne_734 : w_682 ≠ w_722 := (Nat.ne_of_lt (Nat.lt_of_lt_of_le f_684.lt (Nat.le_trans K_698.1 f_724)))
                            have f_735 : Exa Z h_719 w_682 sN := ((f_684.keep K_698).keep K_723)
                            refine K.calls (argsL := [(.ref w_722), (.int (1 : Int32)), (.int w)]) (rest := []) at_226 (pc' := 229) rfl (c_st10 l Z a0 hw n0 h_719 (a := w_722) (e := w) (lk := lk_696) (b := w_682) (v0 := w) f_726 f_725 f_727 f_732 ne_733 f_729 f_728 ne_734 f_735 f_731) hw78 hw79 hw80 hw81 (by decide) pd_10 rfl rfl (W := 0) (by simp [Value.category]) (by decide) (by decide) (by decide) (by decide) (fun v_738 h_736 q_737 => ?_)
                            obtain ⟨rfl, K_740, f_741⟩ := q_737
                            show G h_736 12 22 (mkF m 229 #[vi p, vi x1, vi x2, vi y1, vi y2, vi zz, vi 0, vi 2, vi w, vr o_510, vr o_520, vi 1, vr w_722, .unset, .unset, .unset, .unset] [(.int (b2 (w.toInt = w.toInt)))])
                            refine K.ifeqB at_229 (pc1 := 232) rfl (by decide) (pc2 := 246) (by decide) (fun c229 => ?_) (fun c229 => ?_)
                            · exfalso; first | exact c229 rfl | exact c229 trivial
                            · refine K.aload at_232 (pc' := 234) rfl rfl rfl ?_
                              have f_742 : Exa Z h_736 w_722 sI := (f_726.keep K_740)
                              refine K.calli (z := (⟨sI, "hasNext", "()Z"⟩ : MethodName)) (argsL := []) (rest := []) at_234 (pc' := 239) rfl (c_has0 l Z a0 hw n0 h_736 (a := w_722) f_742 f_741) f_742 hw46 hw47 hw48 rfl hw49 hw50 hw51 hw52 hw53 hw36 hw54 (by decide) pd_4 rfl rfl (W := 0) (by simp [Value.category]) (by decide) (by decide) (by decide) (by decide) (fun v_745 h_743 q_744 => ?_)
                              obtain ⟨rfl, rfl⟩ := q_744
                              show G h_736 12 22 (mkF m 239 #[vi p, vi x1, vi x2, vi y1, vi y2, vi zz, vi 0, vi 2, vi w, vr o_510, vr o_520, vi 1, vr w_722, .unset, .unset, .unset, .unset] [(.int (b2 (False)))])
                              refine K.ifneB at_239 (pc1 := 242) rfl (by decide) (pc2 := 246) (by decide) (fun c239 => ?_) (fun c239 => ?_)
                              · exfalso; exact c239
                              · refine K.iconst at_242 (pc' := 243) rfl (z := 1) rfl ?_
                                refine K.goto at_243 (by decide) (pc' := 247) (by decide) ?_
                                refine K.istore at_247 (pc' := 249) rfl (L' := #[vi p, vi x1, vi x2, vi y1, vi y2, vi zz, vi 0, vi 2, vi w, vr o_510, vr o_520, vi 1, vr w_722, .unset, .unset, .unset, .unset]) rfl ?_
                                refine K.iconst at_249 (pc' := 250) rfl (z := 5) rfl ?_
                                refine K.newa at_250 (pc' := 252) rfl hw102 (k := 5) (cap := 5) rfl (by decide) (by decide) (by decide) (by decide) (ad := "[I") (by decide) (fun h_748 a_747 g_a_747 E_749 A_750 x_a_747 => ?_)
                                have sz_751 : n0 ≤ h_736.size := Nat.le_trans sz_718 (Nat.le_trans K_723.1 K_740.1)
                                have ge_a_747 : n0 ≤ a_747 := g_a_747 ▸ sz_751
                                have A_752 : Ary Z h_748 a_747 .int [(.int (0 : Int32)), (.int (0 : Int32)), (.int (0 : Int32)), (.int (0 : Int32)), (.int (0 : Int32))] := A_750
                                refine K.astore at_252 (pc' := 254) rfl rfl (L' := #[vi p, vi x1, vi x2, vi y1, vi y2, vi zz, vi 0, vi 2, vi w, vr o_510, vr o_520, vi 1, vr w_722, vr a_747, .unset, .unset, .unset]) rfl ?_
                                refine K.iconst at_254 (pc' := 255) rfl (z := 0) rfl ?_
                                refine K.istore at_255 (pc' := 257) rfl (L' := #[vi p, vi x1, vi x2, vi y1, vi y2, vi zz, vi 0, vi 2, vi w, vr o_510, vr o_520, vi 1, vr w_722, vr a_747, vi 0, .unset, .unset]) rfl ?_
                                refine K.iload at_257 (pc' := 259) rfl rfl ?_
                                refine K.if_le at_259 (pc1 := 262) rfl (by decide) (pc2 := 271) (by decide) (a := 0) rfl (fun c259 => ?_) (fun c259 => ?_)
                                · refine K.iload at_271 (pc' := 273) rfl rfl ?_
                                  refine K.iconst at_273 (pc' := 274) rfl (z := 1) rfl ?_
                                  refine K.icmp_le at_274 (pc1 := 277) rfl (by decide) (pc2 := 286) (by decide) (a := 0) (b := 1) rfl rfl (fun c274 => ?_) (fun c274 => ?_)
                                  · refine K.iload at_286 (pc' := 288) rfl rfl ?_
                                    refine K.if_le at_288 (pc1 := 291) rfl (by decide) (pc2 := 300) (by decide) (a := 2) rfl (fun c288 => ?_) (fun c288 => ?_)
                                    · exfalso; omega
                                    · refine K.aload at_291 (pc' := 293) rfl rfl rfl ?_
                                      refine K.iload at_293 (pc' := 295) rfl rfl ?_
                                      refine K.iloadN at_295 (pc' := 296) rfl rfl ?_
                                      refine K.iast at_296 (pc' := 297) rfl A_752 (i := 0) rfl (show 0 < 5 by decide) ge_a_747 (fun h_753 W_754 A_755 => ?_)
                                      have A_756 : Ary Z h_753 a_747 .int [(.int y1), (.int (0 : Int32)), (.int (0 : Int32)), (.int (0 : Int32)), (.int (0 : Int32))] := A_755
                                      refine K.iinc at_297 (pc' := 300) rfl rfl (z := (1 : Int32)) rfl (L' := #[vi p, vi x1, vi x2, vi y1, vi y2, vi zz, vi 0, vi 2, vi w, vr o_510, vr o_520, vi 1, vr w_722, vr a_747, vi 1, .unset, .unset]) rfl ?_
                                      refine K.iload at_300 (pc' := 302) rfl rfl ?_
                                      refine K.iconst at_302 (pc' := 303) rfl (z := 1) rfl ?_
                                      refine K.icmp_le at_303 (pc1 := 306) rfl (by decide) (pc2 := 316) (by decide) (a := 2) (b := 1) rfl rfl (fun c303 => ?_) (fun c303 => ?_)
                                      · exfalso; omega
                                      · refine K.aload at_306 (pc' := 308) rfl rfl rfl ?_
                                        refine K.iload at_308 (pc' := 310) rfl rfl ?_
                                        refine K.iload at_310 (pc' := 312) rfl rfl ?_
                                        refine K.iast at_312 (pc' := 313) rfl A_756 (i := 1) rfl (show 1 < 5 by decide) ge_a_747 (fun h_757 W_758 A_759 => ?_)
                                        have A_760 : Ary Z h_757 a_747 .int [(.int y1), (.int y2), (.int (0 : Int32)), (.int (0 : Int32)), (.int (0 : Int32))] := A_759
                                        refine K.iinc at_313 (pc' := 316) rfl rfl (z := (2 : Int32)) rfl (L' := #[vi p, vi x1, vi x2, vi y1, vi y2, vi zz, vi 0, vi 2, vi w, vr o_510, vr o_520, vi 1, vr w_722, vr a_747, vi 2, .unset, .unset]) rfl ?_
                                        refine K.aload at_316 (pc' := 318) rfl rfl rfl ?_
                                        refine K.iload at_318 (pc' := 320) rfl rfl ?_
                                        refine K.iload at_320 (pc' := 322) rfl rfl ?_
                                        refine K.iast at_322 (pc' := 323) rfl A_760 (i := 2) rfl (show 2 < 5 by decide) ge_a_747 (fun h_761 W_762 A_763 => ?_)
                                        have A_764 : Ary Z h_761 a_747 .int [(.int y1), (.int y2), (.int zz), (.int (0 : Int32)), (.int (0 : Int32))] := A_763
                                        refine K.iinc at_323 (pc' := 326) rfl rfl (z := (3 : Int32)) rfl (L' := #[vi p, vi x1, vi x2, vi y1, vi y2, vi zz, vi 0, vi 2, vi w, vr o_510, vr o_520, vi 1, vr w_722, vr a_747, vi 3, .unset, .unset]) rfl ?_
                                        refine K.iload at_326 (pc' := 328) rfl rfl ?_
                                        refine K.istore at_328 (pc' := 330) rfl (L' := #[vi p, vi x1, vi x2, vi y1, vi y2, vi zz, vi 0, vi 2, vi w, vr o_510, vr o_520, vi 1, vr w_722, vr a_747, vi 3, vi 3, .unset]) rfl ?_
                                        refine K.aload at_330 (pc' := 332) rfl rfl rfl ?_
                                        have f_765 : Exa Z h_761 o_510 sC := ((((((f_707.keep K_723).keep K_740).ext E_749).wr W_754).wr W_758).wr W_762)
                                        have ne_766 : o_510 ≠ w_722 := (Nat.ne_of_lt (Nat.lt_of_lt_of_le x_o_510.lt (Nat.le_trans (Nat.le_trans E_522.1 (Nat.le_trans K_537.1 (Nat.le_trans K_552.1 (Nat.le_trans K_567.1 (Nat.le_trans K_586.1 (Nat.le_trans K_609.1 (Nat.le_trans K_631.1 (Nat.le_trans K_646.1 (Nat.le_trans K_666.1 (Nat.le_trans K_683.1 K_698.1)))))))))) f_724)))
                                        have ne_767 : o_510 ≠ a_747 := (Nat.ne_of_lt (Nat.lt_of_lt_of_le x_o_510.lt (Nat.le_trans (Nat.le_trans E_522.1 (Nat.le_trans K_537.1 (Nat.le_trans K_552.1 (Nat.le_trans K_567.1 (Nat.le_trans K_586.1 (Nat.le_trans K_609.1 (Nat.le_trans K_631.1 (Nat.le_trans K_646.1 (Nat.le_trans K_666.1 (Nat.le_trans K_683.1 (Nat.le_trans K_698.1 (Nat.le_trans K_723.1 K_740.1)))))))))))) (Nat.le_of_eq g_a_747.symm))))
                                        have f_768 : Fld Z h_761 o_510 sC "first" dL (.ref lk_550) := ((((((((f_674.keep K_683 nin0).keep K_698 (ninS ne_598 nin0)).keep K_723 nin0).keep K_740 (ninS ne_766 nin0)).ext E_749).other W_754 (Or.inl ne_767)).other W_758 (Or.inl ne_767)).other W_762 (Or.inl ne_767))
                                        have sz_769 : n0 ≤ h_761.size := Nat.le_trans sz_751 (Nat.le_trans E_749.1 (Nat.le_trans (Keep.of_wr W_754).1 (Nat.le_trans (Keep.of_wr W_758).1 (Keep.of_wr W_762).1)))
                                        refine K.callv (z := (⟨sC, "iterator", "()Ljava/util/Iterator;"⟩ : MethodName)) (argsL := []) (rest := []) at_332 (pc' := 335) rfl (c_it1 l Z a0 hw n0 h_761 (b := o_510) (x := lk_550) sz_769 f_765 f_768) f_765 hw29 hw30 (nf_sel hw32 rfl) hw32 hw31 hw3 hw33 (by decide) pd_7 rfl rfl (W := 0) (by simp [Value.category]) (by decide) (by decide) (by decide) (by decide) (fun v_772 h_770 q_771 => ?_)
                                        obtain ⟨w_773, rfl, K_774, f_775, f_776, f_777, f_778⟩ := q_771
                                        show G h_770 14 29 (mkF m 335 #[vi p, vi x1, vi x2, vi y1, vi y2, vi zz, vi 0, vi 2, vi w, vr o_510, vr o_520, vi 1, vr w_722, vr a_747, vi 3, vi 3, .unset] [(.ref w_773)])
                                        refine K.astore at_335 (pc' := 337) rfl rfl (L' := #[vi p, vi x1, vi x2, vi y1, vi y2, vi zz, vi 0, vi 2, vi w, vr o_510, vr o_520, vi 1, vr w_722, vr a_747, vi 3, vi 3, vr w_773]) rfl ?_
                                        refine K.iload at_337 (pc' := 339) rfl rfl ?_
                                        refine K.if_eq at_339 (pc1 := 342) rfl (by decide) (pc2 := 369) (by decide) (a := 1) rfl (fun c339 => ?_) (fun c339 => ?_)
                                        · exfalso; omega
                                        · refine K.aload at_342 (pc' := 344) rfl rfl rfl ?_
                                          refine K.iconst at_344 (pc' := 345) rfl (z := 0) rfl ?_
                                          refine K.iload at_345 (pc' := 347) rfl rfl ?_
                                          refine K.icmp_ge at_347 (pc1 := 350) rfl (by decide) (pc2 := 354) (by decide) (a := 0) (b := 3) rfl rfl (fun c347 => ?_) (fun c347 => ?_)
                                          · exfalso; omega
                                          · refine K.iconst at_350 (pc' := 351) rfl (z := 1) rfl ?_
                                            refine K.goto at_351 (by decide) (pc' := 355) (by decide) ?_
                                            refine K.aload at_355 (pc' := 357) rfl rfl rfl ?_
                                            refine K.iconst at_357 (pc' := 358) rfl (z := 0) rfl ?_
                                            have f_779 : Ary Z h_770 a_747 .int [(.int y1), (.int y2), (.int zz), (.int (0 : Int32)), (.int (0 : Int32))] := (A_764.keep K_774 nin0)
                                            refine K.iald at_358 (pc' := 359) rfl f_779 (i := 0) rfl rfl ?_
                                            have ne_780 : lk_550 ≠ lk_584 := (Nat.ne_of_lt (Nat.lt_of_lt_of_le f_555.lt (Nat.le_trans K_567.1 f_587)))
                                            have ne_781 : lk_550 ≠ w_722 := (Nat.ne_of_lt (Nat.lt_of_lt_of_le f_555.lt (Nat.le_trans (Nat.le_trans K_567.1 (Nat.le_trans K_586.1 (Nat.le_trans K_609.1 (Nat.le_trans K_631.1 (Nat.le_trans K_646.1 (Nat.le_trans K_666.1 (Nat.le_trans K_683.1 K_698.1))))))) f_724)))
                                            have ne_782 : lk_550 ≠ a_747 := (Nat.ne_of_lt (Nat.lt_of_lt_of_le f_555.lt (Nat.le_trans (Nat.le_trans K_567.1 (Nat.le_trans K_586.1 (Nat.le_trans K_609.1 (Nat.le_trans K_631.1 (Nat.le_trans K_646.1 (Nat.le_trans K_666.1 (Nat.le_trans K_683.1 (Nat.le_trans K_698.1 (Nat.le_trans K_723.1 K_740.1))))))))) (Nat.le_of_eq g_a_747.symm))))
                                            have f_783 : Fld Z h_770 lk_550 sL "next" dL (.ref lk_584) := (((((((((((((f_592.keep K_609 (ninS (Ne.symm ne_599) (ninS ne_578 nin0))).keep K_631 nin0).keep K_646 nin0).keep K_666 (ninS (Ne.symm ne_599) (ninS ne_780 nin0))).keep K_683 nin0).keep K_698 (ninS ne_578 nin0)).keep K_723 nin0).keep K_740 (ninS ne_781 nin0)).ext E_749).other W_754 (Or.inl ne_782)).other W_758 (Or.inl ne_782)).other W_762 (Or.inl ne_782)).keep K_774 nin0)
                                            have f_784 : Fld Z h_770 lk_550 sL "element" "Ljava/lang/Object;" (.ref w_536) := (((((((((((((f_593.keep K_609 (ninS (Ne.symm ne_599) (ninS ne_578 nin0))).keep K_631 nin0).keep K_646 nin0).keep K_666 (ninS (Ne.symm ne_599) (ninS ne_780 nin0))).keep K_683 nin0).keep K_698 (ninS ne_578 nin0)).keep K_723 nin0).keep K_740 (ninS ne_781 nin0)).ext E_749).other W_754 (Or.inl ne_782)).other W_758 (Or.inl ne_782)).other W_762 (Or.inl ne_782)).keep K_774 nin0)
                                            have ne_785 : w_536 ≠ o_520 := (f_540.elim (fun q => Nat.ne_of_lt (Nat.lt_of_lt_of_le q ge_o_520)) (fun q => Nat.ne_of_gt (Nat.lt_of_lt_of_le x_o_520.lt (Nat.le_trans (Nat.le_refl _) q))))
                                            have ne_786 : w_536 ≠ lk_550 := (Nat.ne_of_lt (Nat.lt_of_lt_of_le f_538.lt (Nat.le_trans (Nat.le_refl _) f_553)))
                                            have ne_787 : w_536 ≠ o_510 := (f_540.elim (fun q => Nat.ne_of_lt (Nat.lt_of_lt_of_le q ge_o_510)) (fun q => Nat.ne_of_gt (Nat.lt_of_lt_of_le x_o_510.lt (Nat.le_trans E_522.1 q))))
                                            have ne_788 : w_536 ≠ lk_584 := (Nat.ne_of_lt (Nat.lt_of_lt_of_le f_538.lt (Nat.le_trans (Nat.le_trans K_552.1 K_567.1) f_587)))
                                            have ne_789 : w_536 ≠ w_722 := (Nat.ne_of_lt (Nat.lt_of_lt_of_le f_538.lt (Nat.le_trans (Nat.le_trans K_552.1 (Nat.le_trans K_567.1 (Nat.le_trans K_586.1 (Nat.le_trans K_609.1 (Nat.le_trans K_631.1 (Nat.le_trans K_646.1 (Nat.le_trans K_666.1 (Nat.le_trans K_683.1 K_698.1)))))))) f_724)))
                                            have ne_790 : w_536 ≠ a_747 := (Nat.ne_of_lt (Nat.lt_of_lt_of_le f_538.lt (Nat.le_trans (Nat.le_trans K_552.1 (Nat.le_trans K_567.1 (Nat.le_trans K_586.1 (Nat.le_trans K_609.1 (Nat.le_trans K_631.1 (Nat.le_trans K_646.1 (Nat.le_trans K_666.1 (Nat.le_trans K_683.1 (Nat.le_trans K_698.1 (Nat.le_trans K_723.1 K_740.1)))))))))) (Nat.le_of_eq g_a_747.symm))))
                                            have f_791 : Fld Z h_770 w_536 sN "value" "I" (.int y1) := ((((((((((((((((f_539.keep K_552 (ninS ne_785 nin0)).keep K_567 nin0).keep K_586 (ninS ne_785 (ninS ne_786 nin0))).keep K_609 (ninS ne_787 (ninS ne_785 nin0))).keep K_631 nin0).keep K_646 nin0).keep K_666 (ninS ne_787 (ninS ne_788 nin0))).keep K_683 nin0).keep K_698 (ninS ne_785 nin0)).keep K_723 nin0).keep K_740 (ninS ne_789 nin0)).ext E_749).other W_754 (Or.inl ne_790)).other W_758 (Or.inl ne_790)).other W_762 (Or.inl ne_790)).keep K_774 nin0)
                                            have f_792 : Exa Z h_770 lk_550 sL := ((((((((((((((f_577.keep K_586).keep K_609).keep K_631).keep K_646).keep K_666).keep K_683).keep K_698).keep K_723).keep K_740).ext E_749).wr W_754).wr W_758).wr W_762).keep K_774)
                                            have ne_793 : lk_550 ≠ w_773 := (Nat.ne_of_lt (Nat.lt_of_lt_of_le f_555.lt (Nat.le_trans (Nat.le_trans K_567.1 (Nat.le_trans K_586.1 (Nat.le_trans K_609.1 (Nat.le_trans K_631.1 (Nat.le_trans K_646.1 (Nat.le_trans K_666.1 (Nat.le_trans K_683.1 (Nat.le_trans K_698.1 (Nat.le_trans K_723.1 (Nat.le_trans K_740.1 (Nat.le_trans E_749.1 (Nat.le_trans (Keep.of_wr W_754).1 (Nat.le_trans (Keep.of_wr W_758).1 (Keep.of_wr W_762).1))))))))))))) f_775)))
                                            have ne_794 : w_536 ≠ w_773 := (Nat.ne_of_lt (Nat.lt_of_lt_of_le f_538.lt (Nat.le_trans (Nat.le_trans K_552.1 (Nat.le_trans K_567.1 (Nat.le_trans K_586.1 (Nat.le_trans K_609.1 (Nat.le_trans K_631.1 (Nat.le_trans K_646.1 (Nat.le_trans K_666.1 (Nat.le_trans K_683.1 (Nat.le_trans K_698.1 (Nat.le_trans K_723.1 (Nat.le_trans K_740.1 (Nat.le_trans E_749.1 (Nat.le_trans (Keep.of_wr W_754).1 (Nat.le_trans (Keep.of_wr W_758).1 (Keep.of_wr W_762).1)))))))))))))) f_775)))
                                            have f_795 : Exa Z h_770 w_536 sN := ((((((((((((((((f_538.keep K_552).keep K_567).keep K_586).keep K_609).keep K_631).keep K_646).keep K_666).keep K_683).keep K_698).keep K_723).keep K_740).ext E_749).wr W_754).wr W_758).wr W_762).keep K_774)
                                            refine K.calls (argsL := [(.ref w_773), (.int (1 : Int32)), (.int y1)]) (rest := []) at_359 (pc' := 362) rfl (c_st11 l Z a0 hw n0 h_770 (a := w_773) (e := y1) (lk := lk_550) (b := w_536) (v0 := y1) (x := lk_584) f_777 f_776 f_778 f_792 ne_793 f_784 f_783 ne_794 f_795 f_791) hw78 hw79 hw80 hw81 (by decide) pd_10 rfl rfl (W := 0) (by simp [Value.category]) (by decide) (by decide) (by decide) (by decide) (fun v_798 h_796 q_797 => ?_)
                                            obtain ⟨rfl, K_800, f_801⟩ := q_797
                                            show G h_796 14 29 (mkF m 362 #[vi p, vi x1, vi x2, vi y1, vi y2, vi zz, vi 0, vi 2, vi w, vr o_510, vr o_520, vi 1, vr w_722, vr a_747, vi 3, vi 3, vr w_773] [(.int (b2 (y1.toInt = y1.toInt)))])
                                            refine K.ifeqB at_362 (pc1 := 365) rfl (by decide) (pc2 := 369) (by decide) (fun c362 => ?_) (fun c362 => ?_)
                                            · exfalso; first | exact c362 rfl | exact c362 trivial
                                            · refine K.iconst at_365 (pc' := 366) rfl (z := 1) rfl ?_
                                              refine K.goto at_366 (by decide) (pc' := 370) (by decide) ?_
                                              refine K.istore at_370 (pc' := 372) rfl (L' := #[vi p, vi x1, vi x2, vi y1, vi y2, vi zz, vi 0, vi 2, vi w, vr o_510, vr o_520, vi 1, vr w_722, vr a_747, vi 3, vi 3, vr w_773]) rfl ?_
                                              refine K.iload at_372 (pc' := 374) rfl rfl ?_
                                              refine K.if_eq at_374 (pc1 := 377) rfl (by decide) (pc2 := 404) (by decide) (a := 1) rfl (fun c374 => ?_) (fun c374 => ?_)
                                              · exfalso; omega
                                              · refine K.aload at_377 (pc' := 379) rfl rfl rfl ?_
                                                refine K.iconst at_379 (pc' := 380) rfl (z := 1) rfl ?_
                                                refine K.iload at_380 (pc' := 382) rfl rfl ?_
                                                refine K.icmp_ge at_382 (pc1 := 385) rfl (by decide) (pc2 := 389) (by decide) (a := 1) (b := 3) rfl rfl (fun c382 => ?_) (fun c382 => ?_)
                                                · exfalso; omega
                                                · refine K.iconst at_385 (pc' := 386) rfl (z := 1) rfl ?_
                                                  refine K.goto at_386 (by decide) (pc' := 390) (by decide) ?_
                                                  refine K.aload at_390 (pc' := 392) rfl rfl rfl ?_
                                                  refine K.iconst at_392 (pc' := 393) rfl (z := 1) rfl ?_
                                                  have ne_802 : a_747 ≠ w_773 := (Nat.ne_of_lt (Nat.lt_of_lt_of_le A_752.lt (Nat.le_trans (Nat.le_trans (Keep.of_wr W_754).1 (Nat.le_trans (Keep.of_wr W_758).1 (Keep.of_wr W_762).1)) f_775)))
                                                  have f_803 : Ary Z h_796 a_747 .int [(.int y1), (.int y2), (.int zz), (.int (0 : Int32)), (.int (0 : Int32))] := (f_779.keep K_800 (ninS ne_802 nin0))
                                                  refine K.iald at_393 (pc' := 394) rfl f_803 (i := 1) rfl rfl ?_
                                                  have ne_804 : lk_584 ≠ w_722 := (Nat.ne_of_lt (Nat.lt_of_lt_of_le f_589.lt (Nat.le_trans (Nat.le_trans K_609.1 (Nat.le_trans K_631.1 (Nat.le_trans K_646.1 (Nat.le_trans K_666.1 (Nat.le_trans K_683.1 K_698.1))))) f_724)))
                                                  have ne_805 : lk_584 ≠ a_747 := (Nat.ne_of_lt (Nat.lt_of_lt_of_le f_589.lt (Nat.le_trans (Nat.le_trans K_609.1 (Nat.le_trans K_631.1 (Nat.le_trans K_646.1 (Nat.le_trans K_666.1 (Nat.le_trans K_683.1 (Nat.le_trans K_698.1 (Nat.le_trans K_723.1 K_740.1))))))) (Nat.le_of_eq g_a_747.symm))))
                                                  have ne_806 : lk_584 ≠ w_773 := (Nat.ne_of_lt (Nat.lt_of_lt_of_le f_589.lt (Nat.le_trans (Nat.le_trans K_609.1 (Nat.le_trans K_631.1 (Nat.le_trans K_646.1 (Nat.le_trans K_666.1 (Nat.le_trans K_683.1 (Nat.le_trans K_698.1 (Nat.le_trans K_723.1 (Nat.le_trans K_740.1 (Nat.le_trans E_749.1 (Nat.le_trans (Keep.of_wr W_754).1 (Nat.le_trans (Keep.of_wr W_758).1 (Keep.of_wr W_762).1))))))))))) f_775)))
                                                  have f_807 : Fld Z h_796 lk_584 sL "next" dL (.ref lk_664) := ((((((((((f_672.keep K_683 nin0).keep K_698 (ninS ne_654 nin0)).keep K_723 nin0).keep K_740 (ninS ne_804 nin0)).ext E_749).other W_754 (Or.inl ne_805)).other W_758 (Or.inl ne_805)).other W_762 (Or.inl ne_805)).keep K_774 nin0).keep K_800 (ninS ne_806 nin0))
                                                  have f_808 : Fld Z h_796 lk_584 sL "element" "Ljava/lang/Object;" (.ref w_566) := ((((((((((f_673.keep K_683 nin0).keep K_698 (ninS ne_654 nin0)).keep K_723 nin0).keep K_740 (ninS ne_804 nin0)).ext E_749).other W_754 (Or.inl ne_805)).other W_758 (Or.inl ne_805)).other W_762 (Or.inl ne_805)).keep K_774 nin0).keep K_800 (ninS ne_806 nin0))
                                                  have ne_809 : w_566 ≠ lk_550 := (f_570.elim (fun q => Nat.ne_of_lt (Nat.lt_of_lt_of_le q f_554)) (fun q => Nat.ne_of_gt (Nat.lt_of_lt_of_le f_555.lt (Nat.le_trans (Nat.le_refl _) q))))
                                                  have ne_810 : w_566 ≠ o_520 := (f_570.elim (fun q => Nat.ne_of_lt (Nat.lt_of_lt_of_le q ge_o_520)) (fun q => Nat.ne_of_gt (Nat.lt_of_lt_of_le x_o_520.lt (Nat.le_trans (Nat.le_trans K_537.1 K_552.1) q))))
                                                  have ne_811 : w_566 ≠ o_510 := (f_570.elim (fun q => Nat.ne_of_lt (Nat.lt_of_lt_of_le q ge_o_510)) (fun q => Nat.ne_of_gt (Nat.lt_of_lt_of_le x_o_510.lt (Nat.le_trans (Nat.le_trans E_522.1 (Nat.le_trans K_537.1 K_552.1)) q))))
                                                  have ne_812 : w_566 ≠ lk_584 := (Nat.ne_of_lt (Nat.lt_of_lt_of_le f_568.lt (Nat.le_trans (Nat.le_refl _) f_587)))
                                                  have ne_813 : w_566 ≠ w_722 := (Nat.ne_of_lt (Nat.lt_of_lt_of_le f_568.lt (Nat.le_trans (Nat.le_trans K_586.1 (Nat.le_trans K_609.1 (Nat.le_trans K_631.1 (Nat.le_trans K_646.1 (Nat.le_trans K_666.1 (Nat.le_trans K_683.1 K_698.1)))))) f_724)))
                                                  have ne_814 : w_566 ≠ a_747 := (Nat.ne_of_lt (Nat.lt_of_lt_of_le f_568.lt (Nat.le_trans (Nat.le_trans K_586.1 (Nat.le_trans K_609.1 (Nat.le_trans K_631.1 (Nat.le_trans K_646.1 (Nat.le_trans K_666.1 (Nat.le_trans K_683.1 (Nat.le_trans K_698.1 (Nat.le_trans K_723.1 K_740.1)))))))) (Nat.le_of_eq g_a_747.symm))))
                                                  have ne_815 : w_566 ≠ w_773 := (Nat.ne_of_lt (Nat.lt_of_lt_of_le f_568.lt (Nat.le_trans (Nat.le_trans K_586.1 (Nat.le_trans K_609.1 (Nat.le_trans K_631.1 (Nat.le_trans K_646.1 (Nat.le_trans K_666.1 (Nat.le_trans K_683.1 (Nat.le_trans K_698.1 (Nat.le_trans K_723.1 (Nat.le_trans K_740.1 (Nat.le_trans E_749.1 (Nat.le_trans (Keep.of_wr W_754).1 (Nat.le_trans (Keep.of_wr W_758).1 (Keep.of_wr W_762).1)))))))))))) f_775)))
                                                  have f_816 : Fld Z h_796 w_566 sN "value" "I" (.int y2) := (((((((((((((((f_569.keep K_586 (ninS ne_810 (ninS ne_809 nin0))).keep K_609 (ninS ne_811 (ninS ne_810 nin0))).keep K_631 nin0).keep K_646 nin0).keep K_666 (ninS ne_811 (ninS ne_812 nin0))).keep K_683 nin0).keep K_698 (ninS ne_810 nin0)).keep K_723 nin0).keep K_740 (ninS ne_813 nin0)).ext E_749).other W_754 (Or.inl ne_814)).other W_758 (Or.inl ne_814)).other W_762 (Or.inl ne_814)).keep K_774 nin0).keep K_800 (ninS ne_815 nin0))
                                                  have f_817 : Exa Z h_796 w_773 sI := (f_777.keep K_800)
                                                  have f_818 : Exa Z h_796 lk_584 sL := (((((((((((f_658.keep K_666).keep K_683).keep K_698).keep K_723).keep K_740).ext E_749).wr W_754).wr W_758).wr W_762).keep K_774).keep K_800)
                                                  have f_819 : Exa Z h_796 w_566 sN := (((((((((((((((f_568.keep K_586).keep K_609).keep K_631).keep K_646).keep K_666).keep K_683).keep K_698).keep K_723).keep K_740).ext E_749).wr W_754).wr W_758).wr W_762).keep K_774).keep K_800)
                                                  refine K.calls (argsL := [(.ref w_773), (.int (1 : Int32)), (.int y2)]) (rest := []) at_394 (pc' := 397) rfl (c_st11 l Z a0 hw n0 h_796 (a := w_773) (e := y2) (lk := lk_584) (b := w_566) (v0 := y2) (x := lk_664) f_817 f_776 f_801 f_818 ne_806 f_808 f_807 ne_815 f_819 f_816) hw78 hw79 hw80 hw81 (by decide) pd_10 rfl rfl (W := 0) (by simp [Value.category]) (by decide) (by decide) (by decide) (by decide) (fun v_822 h_820 q_821 => ?_)
                                                  obtain ⟨rfl, K_824, f_825⟩ := q_821
                                                  show G h_820 14 29 (mkF m 397 #[vi p, vi x1, vi x2, vi y1, vi y2, vi zz, vi 0, vi 2, vi w, vr o_510, vr o_520, vi 1, vr w_722, vr a_747, vi 3, vi 3, vr w_773] [(.int (b2 (y2.toInt = y2.toInt)))])
                                                  refine K.ifeqB at_397 (pc1 := 400) rfl (by decide) (pc2 := 404) (by decide) (fun c397 => ?_) (fun c397 => ?_)
                                                  · exfalso; first | exact c397 rfl | exact c397 trivial
                                                  · refine K.iconst at_400 (pc' := 401) rfl (z := 1) rfl ?_
                                                    refine K.goto at_401 (by decide) (pc' := 405) (by decide) ?_
                                                    refine K.istore at_405 (pc' := 407) rfl (L' := #[vi p, vi x1, vi x2, vi y1, vi y2, vi zz, vi 0, vi 2, vi w, vr o_510, vr o_520, vi 1, vr w_722, vr a_747, vi 3, vi 3, vr w_773]) rfl ?_
                                                    refine K.iload at_407 (pc' := 409) rfl rfl ?_
                                                    refine K.if_eq at_409 (pc1 := 412) rfl (by decide) (pc2 := 439) (by decide) (a := 1) rfl (fun c409 => ?_) (fun c409 => ?_)
                                                    · exfalso; omega
                                                    · refine K.aload at_412 (pc' := 414) rfl rfl rfl ?_
                                                      refine K.iconst at_414 (pc' := 415) rfl (z := 2) rfl ?_
                                                      refine K.iload at_415 (pc' := 417) rfl rfl ?_
                                                      refine K.icmp_ge at_417 (pc1 := 420) rfl (by decide) (pc2 := 424) (by decide) (a := 2) (b := 3) rfl rfl (fun c417 => ?_) (fun c417 => ?_)
                                                      · exfalso; omega
                                                      · refine K.iconst at_420 (pc' := 421) rfl (z := 1) rfl ?_
                                                        refine K.goto at_421 (by decide) (pc' := 425) (by decide) ?_
                                                        refine K.aload at_425 (pc' := 427) rfl rfl rfl ?_
                                                        refine K.iconst at_427 (pc' := 428) rfl (z := 2) rfl ?_
                                                        have f_826 : Ary Z h_820 a_747 .int [(.int y1), (.int y2), (.int zz), (.int (0 : Int32)), (.int (0 : Int32))] := (f_803.keep K_824 (ninS ne_802 nin0))
                                                        refine K.iald at_428 (pc' := 429) rfl f_826 (i := 2) rfl rfl ?_
                                                        have ne_827 : lk_664 ≠ o_520 := (Ne.symm (Nat.ne_of_lt (Nat.lt_of_lt_of_le x_o_520.lt (Nat.le_trans (Nat.le_trans K_537.1 (Nat.le_trans K_552.1 (Nat.le_trans K_567.1 (Nat.le_trans K_586.1 (Nat.le_trans K_609.1 (Nat.le_trans K_631.1 K_646.1)))))) f_667))))
                                                        have ne_828 : lk_664 ≠ w_722 := (Nat.ne_of_lt (Nat.lt_of_lt_of_le f_669.lt (Nat.le_trans (Nat.le_trans K_683.1 K_698.1) f_724)))
                                                        have ne_829 : lk_664 ≠ a_747 := (Nat.ne_of_lt (Nat.lt_of_lt_of_le f_669.lt (Nat.le_trans (Nat.le_trans K_683.1 (Nat.le_trans K_698.1 (Nat.le_trans K_723.1 K_740.1))) (Nat.le_of_eq g_a_747.symm))))
                                                        have ne_830 : lk_664 ≠ w_773 := (Nat.ne_of_lt (Nat.lt_of_lt_of_le f_669.lt (Nat.le_trans (Nat.le_trans K_683.1 (Nat.le_trans K_698.1 (Nat.le_trans K_723.1 (Nat.le_trans K_740.1 (Nat.le_trans E_749.1 (Nat.le_trans (Keep.of_wr W_754).1 (Nat.le_trans (Keep.of_wr W_758).1 (Keep.of_wr W_762).1))))))) f_775)))
                                                        have f_831 : Fld Z h_820 lk_664 sL "next" dL .null := (((((((((((f_671.keep K_683 nin0).keep K_698 (ninS ne_827 nin0)).keep K_723 nin0).keep K_740 (ninS ne_828 nin0)).ext E_749).other W_754 (Or.inl ne_829)).other W_758 (Or.inl ne_829)).other W_762 (Or.inl ne_829)).keep K_774 nin0).keep K_800 (ninS ne_830 nin0)).keep K_824 (ninS ne_830 nin0))
                                                        have f_832 : Fld Z h_820 lk_664 sL "element" "Ljava/lang/Object;" (.ref w_645) := (((((((((((f_670.keep K_683 nin0).keep K_698 (ninS ne_827 nin0)).keep K_723 nin0).keep K_740 (ninS ne_828 nin0)).ext E_749).other W_754 (Or.inl ne_829)).other W_758 (Or.inl ne_829)).other W_762 (Or.inl ne_829)).keep K_774 nin0).keep K_800 (ninS ne_830 nin0)).keep K_824 (ninS ne_830 nin0))
                                                        have ne_833 : w_645 ≠ lk_584 := (f_649.elim (fun q => Nat.ne_of_lt (Nat.lt_of_lt_of_le q f_588)) (fun q => Nat.ne_of_gt (Nat.lt_of_lt_of_le f_589.lt (Nat.le_trans (Nat.le_trans K_609.1 K_631.1) q))))
                                                        have ne_834 : w_645 ≠ o_510 := (f_649.elim (fun q => Nat.ne_of_lt (Nat.lt_of_lt_of_le q ge_o_510)) (fun q => Nat.ne_of_gt (Nat.lt_of_lt_of_le x_o_510.lt (Nat.le_trans (Nat.le_trans E_522.1 (Nat.le_trans K_537.1 (Nat.le_trans K_552.1 (Nat.le_trans K_567.1 (Nat.le_trans K_586.1 (Nat.le_trans K_609.1 K_631.1)))))) q))))
                                                        have ne_835 : w_645 ≠ o_520 := (f_649.elim (fun q => Nat.ne_of_lt (Nat.lt_of_lt_of_le q ge_o_520)) (fun q => Nat.ne_of_gt (Nat.lt_of_lt_of_le x_o_520.lt (Nat.le_trans (Nat.le_trans K_537.1 (Nat.le_trans K_552.1 (Nat.le_trans K_567.1 (Nat.le_trans K_586.1 (Nat.le_trans K_609.1 K_631.1))))) q))))
                                                        have ne_836 : w_645 ≠ w_722 := (Nat.ne_of_lt (Nat.lt_of_lt_of_le f_647.lt (Nat.le_trans (Nat.le_trans K_666.1 (Nat.le_trans K_683.1 K_698.1)) f_724)))
                                                        have ne_837 : w_645 ≠ a_747 := (Nat.ne_of_lt (Nat.lt_of_lt_of_le f_647.lt (Nat.le_trans (Nat.le_trans K_666.1 (Nat.le_trans K_683.1 (Nat.le_trans K_698.1 (Nat.le_trans K_723.1 K_740.1)))) (Nat.le_of_eq g_a_747.symm))))
                                                        have ne_838 : w_645 ≠ w_773 := (Nat.ne_of_lt (Nat.lt_of_lt_of_le f_647.lt (Nat.le_trans (Nat.le_trans K_666.1 (Nat.le_trans K_683.1 (Nat.le_trans K_698.1 (Nat.le_trans K_723.1 (Nat.le_trans K_740.1 (Nat.le_trans E_749.1 (Nat.le_trans (Keep.of_wr W_754).1 (Nat.le_trans (Keep.of_wr W_758).1 (Keep.of_wr W_762).1)))))))) f_775)))
                                                        have f_839 : Fld Z h_820 w_645 sN "value" "I" (.int zz) := ((((((((((((f_648.keep K_666 (ninS ne_834 (ninS ne_833 nin0))).keep K_683 nin0).keep K_698 (ninS ne_835 nin0)).keep K_723 nin0).keep K_740 (ninS ne_836 nin0)).ext E_749).other W_754 (Or.inl ne_837)).other W_758 (Or.inl ne_837)).other W_762 (Or.inl ne_837)).keep K_774 nin0).keep K_800 (ninS ne_838 nin0)).keep K_824 (ninS ne_838 nin0))
                                                        have f_840 : Exa Z h_820 w_773 sI := (f_817.keep K_824)
                                                        have f_841 : Exa Z h_820 lk_664 sL := (((((((((((f_669.keep K_683).keep K_698).keep K_723).keep K_740).ext E_749).wr W_754).wr W_758).wr W_762).keep K_774).keep K_800).keep K_824)
                                                        have f_842 : Exa Z h_820 w_645 sN := ((((((((((((f_647.keep K_666).keep K_683).keep K_698).keep K_723).keep K_740).ext E_749).wr W_754).wr W_758).wr W_762).keep K_774).keep K_800).keep K_824)
                                                        refine K.calls (argsL := [(.ref w_773), (.int (1 : Int32)), (.int zz)]) (rest := []) at_429 (pc' := 432) rfl (c_st10 l Z a0 hw n0 h_820 (a := w_773) (e := zz) (lk := lk_664) (b := w_645) (v0 := zz) f_840 f_776 f_825 f_841 ne_830 f_832 f_831 ne_838 f_842 f_839) hw78 hw79 hw80 hw81 (by decide) pd_10 rfl rfl (W := 0) (by simp [Value.category]) (by decide) (by decide) (by decide) (by decide) (fun v_845 h_843 q_844 => ?_)
                                                        obtain ⟨rfl, K_847, f_848⟩ := q_844
                                                        show G h_843 14 29 (mkF m 432 #[vi p, vi x1, vi x2, vi y1, vi y2, vi zz, vi 0, vi 2, vi w, vr o_510, vr o_520, vi 1, vr w_722, vr a_747, vi 3, vi 3, vr w_773] [(.int (b2 (zz.toInt = zz.toInt)))])
                                                        refine K.ifeqB at_432 (pc1 := 435) rfl (by decide) (pc2 := 439) (by decide) (fun c432 => ?_) (fun c432 => ?_)
                                                        · exfalso; first | exact c432 rfl | exact c432 trivial
                                                        · refine K.iconst at_435 (pc' := 436) rfl (z := 1) rfl ?_
                                                          refine K.goto at_436 (by decide) (pc' := 440) (by decide) ?_
                                                          refine K.istore at_440 (pc' := 442) rfl (L' := #[vi p, vi x1, vi x2, vi y1, vi y2, vi zz, vi 0, vi 2, vi w, vr o_510, vr o_520, vi 1, vr w_722, vr a_747, vi 3, vi 3, vr w_773]) rfl ?_
                                                          refine K.iload at_442 (pc' := 444) rfl rfl ?_
                                                          refine K.if_eq at_444 (pc1 := 447) rfl (by decide) (pc2 := 474) (by decide) (a := 1) rfl (fun c444 => ?_) (fun c444 => ?_)
                                                          · exfalso; omega
                                                          · refine K.aload at_447 (pc' := 449) rfl rfl rfl ?_
                                                            refine K.iconst at_449 (pc' := 450) rfl (z := 3) rfl ?_
                                                            refine K.iload at_450 (pc' := 452) rfl rfl ?_
                                                            refine K.icmp_ge at_452 (pc1 := 455) rfl (by decide) (pc2 := 459) (by decide) (a := 3) (b := 3) rfl rfl (fun c452 => ?_) (fun c452 => ?_)
                                                            · refine K.iconst at_459 (pc' := 460) rfl (z := 0) rfl ?_
                                                              refine K.aload at_460 (pc' := 462) rfl rfl rfl ?_
                                                              refine K.iconst at_462 (pc' := 463) rfl (z := 3) rfl ?_
                                                              have f_849 : Ary Z h_843 a_747 .int [(.int y1), (.int y2), (.int zz), (.int (0 : Int32)), (.int (0 : Int32))] := (f_826.keep K_847 (ninS ne_802 nin0))
                                                              refine K.iald at_463 (pc' := 464) rfl f_849 (i := 3) rfl rfl ?_
                                                              refine K.calls (argsL := [(.ref w_773), (.int (0 : Int32)), (.int (0 : Int32))]) (rest := []) at_464 (pc' := 467) rfl (c_st0 l Z a0 hw n0 h_843 (a := w_773) (e := (0 : Int32)) ) hw78 hw79 hw80 hw81 (by decide) pd_10 rfl rfl (W := 0) (by simp [Value.category]) (by decide) (by decide) (by decide) (by decide) (fun v_852 h_850 q_851 => ?_)
                                                              obtain ⟨rfl, rfl⟩ := q_851
                                                              show G h_843 14 29 (mkF m 467 #[vi p, vi x1, vi x2, vi y1, vi y2, vi zz, vi 0, vi 2, vi w, vr o_510, vr o_520, vi 1, vr w_722, vr a_747, vi 3, vi 3, vr w_773] [(.int (b2 (True)))])
                                                              refine K.ifeqB at_467 (pc1 := 470) rfl (by decide) (pc2 := 474) (by decide) (fun c467 => ?_) (fun c467 => ?_)
                                                              · exfalso; first | exact c467 rfl | exact c467 trivial
                                                              · refine K.iconst at_470 (pc' := 471) rfl (z := 1) rfl ?_
                                                                refine K.goto at_471 (by decide) (pc' := 475) (by decide) ?_
                                                                refine K.istore at_475 (pc' := 477) rfl (L' := #[vi p, vi x1, vi x2, vi y1, vi y2, vi zz, vi 0, vi 2, vi w, vr o_510, vr o_520, vi 1, vr w_722, vr a_747, vi 3, vi 3, vr w_773]) rfl ?_
                                                                refine K.iload at_477 (pc' := 479) rfl rfl ?_
                                                                refine K.if_eq at_479 (pc1 := 482) rfl (by decide) (pc2 := 509) (by decide) (a := 1) rfl (fun c479 => ?_) (fun c479 => ?_)
                                                                · exfalso; omega
                                                                · refine K.aload at_482 (pc' := 484) rfl rfl rfl ?_
                                                                  refine K.iconst at_484 (pc' := 485) rfl (z := 4) rfl ?_
                                                                  refine K.iload at_485 (pc' := 487) rfl rfl ?_
                                                                  refine K.icmp_ge at_487 (pc1 := 490) rfl (by decide) (pc2 := 494) (by decide) (a := 4) (b := 3) rfl rfl (fun c487 => ?_) (fun c487 => ?_)
                                                                  · refine K.iconst at_494 (pc' := 495) rfl (z := 0) rfl ?_
                                                                    refine K.aload at_495 (pc' := 497) rfl rfl rfl ?_
                                                                    refine K.iconst at_497 (pc' := 498) rfl (z := 4) rfl ?_
                                                                    refine K.iald at_498 (pc' := 499) rfl f_849 (i := 4) rfl rfl ?_
                                                                    refine K.calls (argsL := [(.ref w_773), (.int (0 : Int32)), (.int (0 : Int32))]) (rest := []) at_499 (pc' := 502) rfl (c_st0 l Z a0 hw n0 h_843 (a := w_773) (e := (0 : Int32)) ) hw78 hw79 hw80 hw81 (by decide) pd_10 rfl rfl (W := 0) (by simp [Value.category]) (by decide) (by decide) (by decide) (by decide) (fun v_856 h_854 q_855 => ?_)
                                                                    obtain ⟨rfl, rfl⟩ := q_855
                                                                    show G h_843 14 29 (mkF m 502 #[vi p, vi x1, vi x2, vi y1, vi y2, vi zz, vi 0, vi 2, vi w, vr o_510, vr o_520, vi 1, vr w_722, vr a_747, vi 3, vi 3, vr w_773] [(.int (b2 (True)))])
                                                                    refine K.ifeqB at_502 (pc1 := 505) rfl (by decide) (pc2 := 509) (by decide) (fun c502 => ?_) (fun c502 => ?_)
                                                                    · exfalso; first | exact c502 rfl | exact c502 trivial
                                                                    · refine K.iconst at_505 (pc' := 506) rfl (z := 1) rfl ?_
                                                                      refine K.goto at_506 (by decide) (pc' := 510) (by decide) ?_
                                                                      refine K.istore at_510 (pc' := 512) rfl (L' := #[vi p, vi x1, vi x2, vi y1, vi y2, vi zz, vi 0, vi 2, vi w, vr o_510, vr o_520, vi 1, vr w_722, vr a_747, vi 3, vi 3, vr w_773]) rfl ?_
                                                                      refine K.iload at_512 (pc' := 514) rfl rfl ?_
                                                                      refine K.if_eq at_514 (pc1 := 517) rfl (by decide) (pc2 := 531) (by decide) (a := 1) rfl (fun c514 => ?_) (fun c514 => ?_)
                                                                      · exfalso; omega
                                                                      · refine K.aload at_517 (pc' := 519) rfl rfl rfl ?_
                                                                        have f_858 : Exa Z h_843 w_773 sI := (f_840.keep K_847)
                                                                        refine K.calli (z := (⟨sI, "hasNext", "()Z"⟩ : MethodName)) (argsL := []) (rest := []) at_519 (pc' := 524) rfl (c_has0 l Z a0 hw n0 h_843 (a := w_773) f_858 f_848) f_858 hw46 hw47 hw48 rfl hw49 hw50 hw51 hw52 hw53 hw36 hw54 (by decide) pd_4 rfl rfl (W := 0) (by simp [Value.category]) (by decide) (by decide) (by decide) (by decide) (fun v_861 h_859 q_860 => ?_)
                                                                        obtain ⟨rfl, rfl⟩ := q_860
                                                                        show G h_843 14 29 (mkF m 524 #[vi p, vi x1, vi x2, vi y1, vi y2, vi zz, vi 0, vi 2, vi w, vr o_510, vr o_520, vi 1, vr w_722, vr a_747, vi 3, vi 3, vr w_773] [(.int (b2 (False)))])
                                                                        refine K.ifneB at_524 (pc1 := 527) rfl (by decide) (pc2 := 531) (by decide) (fun c524 => ?_) (fun c524 => ?_)
                                                                        · exfalso; exact c524
                                                                        · refine K.iconst at_527 (pc' := 528) rfl (z := 1) rfl ?_
                                                                          refine K.goto at_528 (by decide) (pc' := 532) (by decide) ?_
                                                                          exact K.retz at_532 (Or.inr rfl) (by decide) (by decide) rfl
                                                                  · exfalso; omega
                                                            · exfalso; omega
                                  · exfalso; omega
                                · exfalso; omega
        · exfalso; omega
      · exfalso; omega
  · have cs_b : b = 0 ∨ b = 1 ∨ b = 2 := by
      have q : b.toInt = 0 ∨ b.toInt = 1 ∨ b.toInt = 2 := by omega
      rcases q with q | q | q
      · exact Or.inl (eqI q)
      · exact Or.inr (Or.inl (eqI q))
      · exact Or.inr (Or.inr (eqI q))
    rcases cs_b with rfl | rfl | rfl
    · refine K.iload at_16 (pc' := 18) rfl rfl ?_
      refine K.iconst at_18 (pc' := 19) rfl (z := -1) rfl ?_
      obtain ⟨w, e_w⟩ : ∃ z, zz ^^^ (-1 : Int32) = z := ⟨_, rfl⟩
      refine K.ixor at_19 (pc' := 20) rfl e_w ?_
      refine K.istore at_20 (pc' := 22) rfl (L' := #[vi p, vi x1, vi x2, vi y1, vi y2, vi zz, vi 1, vi 0, vi w, .unset, .unset, .unset, .unset, .unset, .unset, .unset, .unset]) rfl ?_
      refine K.newo at_22 (pc' := 25) rfl hw1 hw2 hw3 (by decide) (by decide) (fun h_864 o_863 g_o_863 E_865 x_o_863 D_o_863 => ?_)
      have ge_o_863 : n0 ≤ o_863 := g_o_863 ▸ Z0
      have f_866 : Fld Z h_864 o_863 sC "first" dL .null := D_o_863 (Or.inl hw21) (ty := (.object sL)) (by decide)
      have f_867 : Fld Z h_864 o_863 sC "size" "I" (.int (0 : Int32)) := D_o_863 (Or.inl hw28) (ty := .int) (by decide)
      have f_868 : Fld Z h_864 o_863 sC "last" dL .null := D_o_863 (Or.inl hw77) (ty := (.object sL)) (by decide)
      refine K.dup at_25 (pc' := 26) rfl rfl ?_
      refine K.callc (argsL := []) (rest := [(.ref o_863)]) at_26 (pc' := 29) rfl rfl (c_chn l Z a0 hw n0 h_864 (a := o_863) ) hw4 hw5 hw3 hw6 (by decide) pd_0 rfl rfl (W := 1) (by simp [Value.category]) (by decide) (by decide) (by decide) (by decide) (fun v_871 h_869 q_870 => ?_)
      obtain ⟨rfl, rfl⟩ := q_870
      show G h_864 1 3 (mkF m 29 #[vi p, vi x1, vi x2, vi y1, vi y2, vi zz, vi 1, vi 0, vi w, .unset, .unset, .unset, .unset, .unset, .unset, .unset, .unset] [(.ref o_863)])
      refine K.astore at_29 (pc' := 31) rfl rfl (L' := #[vi p, vi x1, vi x2, vi y1, vi y2, vi zz, vi 1, vi 0, vi w, vr o_863, .unset, .unset, .unset, .unset, .unset, .unset, .unset]) rfl ?_
      refine K.newo at_31 (pc' := 34) rfl hw1 hw2 hw3 (by decide) (by decide) (fun h_874 o_873 g_o_873 E_875 x_o_873 D_o_873 => ?_)
      have sz_876 : n0 ≤ h_864.size := Nat.le_trans Z0 E_865.1
      have ge_o_873 : n0 ≤ o_873 := g_o_873 ▸ sz_876
      have f_877 : Fld Z h_874 o_873 sC "first" dL .null := D_o_873 (Or.inl hw21) (ty := (.object sL)) (by decide)
      have f_878 : Fld Z h_874 o_873 sC "size" "I" (.int (0 : Int32)) := D_o_873 (Or.inl hw28) (ty := .int) (by decide)
      have f_879 : Fld Z h_874 o_873 sC "last" dL .null := D_o_873 (Or.inl hw77) (ty := (.object sL)) (by decide)
      refine K.dup at_34 (pc' := 35) rfl rfl ?_
      refine K.callc (argsL := []) (rest := [(.ref o_873)]) at_35 (pc' := 38) rfl rfl (c_chn l Z a0 hw n0 h_874 (a := o_873) ) hw4 hw5 hw3 hw6 (by decide) pd_0 rfl rfl (W := 1) (by simp [Value.category]) (by decide) (by decide) (by decide) (by decide) (fun v_882 h_880 q_881 => ?_)
      obtain ⟨rfl, rfl⟩ := q_881
      show G h_874 2 6 (mkF m 38 #[vi p, vi x1, vi x2, vi y1, vi y2, vi zz, vi 1, vi 0, vi w, vr o_863, .unset, .unset, .unset, .unset, .unset, .unset, .unset] [(.ref o_873)])
      refine K.astore at_38 (pc' := 40) rfl rfl (L' := #[vi p, vi x1, vi x2, vi y1, vi y2, vi zz, vi 1, vi 0, vi w, vr o_863, vr o_873, .unset, .unset, .unset, .unset, .unset, .unset]) rfl ?_
      refine K.iload at_40 (pc' := 42) rfl rfl ?_
      refine K.if_le at_42 (pc1 := 45) rfl (by decide) (pc2 := 55) (by decide) (a := 1) rfl (fun c42 => ?_) (fun c42 => ?_)
      · exfalso; omega
      · refine K.aload at_45 (pc' := 47) rfl rfl rfl ?_
        refine K.iloadN at_47 (pc' := 48) rfl rfl ?_
        have sz_884 : n0 ≤ h_874.size := Nat.le_trans sz_876 E_875.1
        have f_885 : Old Z n0 h_874 := ((P2.ext E_865).ext E_875)
        refine K.calls (argsL := [(.int x1)]) (rest := [(.ref o_863)]) at_48 (pc' := 51) rfl (c_val l Z a0 hw n0 h_874 (p := x1) (ca := ca) (cc := cc) sz_884 f_885 P3 P4 hbx) hw55 hw56 hw57 hw58 (by decide) pd_8 rfl rfl (W := 1) (by simp [Value.category]) (by decide) (by decide) (by decide) (by decide) (fun v_888 h_886 q_887 => ?_)
        obtain ⟨w_889, rfl, K_890, f_891, f_892, f_893⟩ := q_887
        show G h_886 3 7 (mkF m 51 #[vi p, vi x1, vi x2, vi y1, vi y2, vi zz, vi 1, vi 0, vi w, vr o_863, vr o_873, .unset, .unset, .unset, .unset, .unset, .unset] [(.ref w_889), (.ref o_863)])
        have f_894 : Exa Z h_886 o_863 sC := ((x_o_863.ext E_875).keep K_890)
        have f_895 : Fld Z h_886 o_863 sC "last" dL .null := ((f_868.ext E_875).keep K_890 nin0)
        have f_896 : Fld Z h_886 o_863 sC "size" "I" (.int (0 : Int32)) := ((f_867.ext E_875).keep K_890 nin0)
        have sz_897 : n0 ≤ h_886.size := Nat.le_trans sz_884 K_890.1
        have f_898 : Fld Z h_886 o_863 sC "first" dL .null := ((f_866.ext E_875).keep K_890 nin0)
        refine K.callv (z := (⟨sC, "add", "(Ljava/lang/Object;)Z"⟩ : MethodName)) (argsL := [(.ref w_889)]) (rest := []) at_51 (pc' := 54) rfl (c_add0 l Z a0 hw n0 h_886 (a := o_863) (e := w_889) (n := (0 : Int32)) sz_897 f_894 ge_o_863 f_898 f_895 f_896 (by first | decide | omega)) f_894 hw62 hw63 (nf_sel hw65 rfl) hw65 hw64 hw3 hw66 (by decide) pd_9 rfl rfl (W := 0) (by simp [Value.category]) (by decide) (by decide) (by decide) (by decide) (fun v_901 h_899 q_900 => ?_)
        obtain ⟨lk_903, n1_904, rfl, K_905, hn1_w_902, f_906, f_907, f_908, f_909, f_910, f_911, f_912, f_913⟩ := q_900
        show G h_899 4 9 (mkF m 54 #[vi p, vi x1, vi x2, vi y1, vi y2, vi zz, vi 1, vi 0, vi w, vr o_863, vr o_873, .unset, .unset, .unset, .unset, .unset, .unset] [(.int (b2 (True)))])
        refine K.pop at_54 (pc' := 55) rfl rfl ?_
        refine K.iload at_55 (pc' := 57) rfl rfl ?_
        refine K.iconst at_57 (pc' := 58) rfl (z := 1) rfl ?_
        refine K.icmp_le at_58 (pc1 := 61) rfl (by decide) (pc2 := 71) (by decide) (a := 1) (b := 1) rfl rfl (fun c58 => ?_) (fun c58 => ?_)
        · refine K.iload at_71 (pc' := 73) rfl rfl ?_
          refine K.if_le at_73 (pc1 := 76) rfl (by decide) (pc2 := 86) (by decide) (a := 0) rfl (fun c73 => ?_) (fun c73 => ?_)
          · refine K.iload at_86 (pc' := 88) rfl rfl ?_
            refine K.iconst at_88 (pc' := 89) rfl (z := 1) rfl ?_
            refine K.icmp_le at_89 (pc1 := 92) rfl (by decide) (pc2 := 103) (by decide) (a := 0) (b := 1) rfl rfl (fun c89 => ?_) (fun c89 => ?_)
            · refine K.aload at_103 (pc' := 105) rfl rfl rfl ?_
              refine K.aload at_105 (pc' := 107) rfl rfl rfl ?_
              have f_914 : Exa Z h_899 o_863 sC := (f_894.keep K_905)
              have ne_915 : o_873 ≠ o_863 := (Ne.symm (Nat.ne_of_lt (Nat.lt_of_lt_of_le x_o_863.lt (Nat.le_trans (Nat.le_refl _) (Nat.le_of_eq g_o_873.symm)))))
              have f_916 : Fld Z h_899 o_873 sC "first" dL .null := ((f_877.keep K_890 nin0).keep K_905 (ninS ne_915 nin0))
              have f_917 : Exa Z h_899 o_873 sC := ((x_o_873.keep K_890).keep K_905)
              refine K.callv (z := (⟨sC, "moveAll", "(Lcom/example/quadrille/quadrille/formats/Chain;)V"⟩ : MethodName)) (argsL := [(.ref o_873)]) (rest := []) at_107 (pc' := 110) rfl (c_mvE l Z a0 hw n0 h_899 (a := o_863) (b := o_873) f_917 f_916) f_914 hw15 hw16 (nf_sel hw18 rfl) hw18 hw17 hw3 hw19 (by decide) pd_3 rfl rfl (W := 0) (by simp [Value.category]) (by decide) (by decide) (by decide) (by decide) (fun v_920 h_918 q_919 => ?_)
              obtain ⟨rfl, rfl⟩ := q_919
              show G h_899 4 9 (mkF m 110 #[vi p, vi x1, vi x2, vi y1, vi y2, vi zz, vi 1, vi 0, vi w, vr o_863, vr o_873, .unset, .unset, .unset, .unset, .unset, .unset] [])
              refine K.aload at_110 (pc' := 112) rfl rfl rfl ?_
              refine K.callv (z := (⟨sC, "size", "()I"⟩ : MethodName)) (argsL := []) (rest := []) at_112 (pc' := 115) rfl (c_size l Z a0 hw n0 h_899 (a := o_863) (n := n1_904) f_914 f_913) f_914 hw22 hw23 (nf_sel hw25 rfl) hw25 hw24 hw3 hw26 (by decide) pd_6 rfl rfl (W := 0) (by simp [Value.category]) (by decide) (by decide) (by decide) (by decide) (fun v_924 h_922 q_923 => ?_)
              obtain ⟨rfl, rfl⟩ := q_923
              show G h_899 4 9 (mkF m 115 #[vi p, vi x1, vi x2, vi y1, vi y2, vi zz, vi 1, vi 0, vi w, vr o_863, vr o_873, .unset, .unset, .unset, .unset, .unset, .unset] [(.int n1_904)])
              refine K.iload at_115 (pc' := 117) rfl rfl ?_
              refine K.iload at_117 (pc' := 119) rfl rfl ?_
              refine K.iadd at_119 (pc' := 120) rfl (z := (1 : Int32)) (by decide) ?_
              refine K.icmp_ne at_120 (pc1 := 123) rfl (by decide) (pc2 := 148) (by decide) (a := n1_904.toInt) (b := 1) rfl rfl (fun c120 => ?_) (fun c120 => ?_)
              · exfalso; have o0 : (0 : Int32).toInt = 0 := rfl; have o1 : (1 : Int32).toInt = 1 := rfl; have o2 : (2 : Int32).toInt = 2 := rfl; omega
              · refine K.aload at_123 (pc' := 125) rfl rfl rfl ?_
                have f_926 : Fld Z h_899 o_873 sC "size" "I" (.int (0 : Int32)) := ((f_878.keep K_890 nin0).keep K_905 (ninS ne_915 nin0))
                refine K.callv (z := (⟨sC, "size", "()I"⟩ : MethodName)) (argsL := []) (rest := []) at_125 (pc' := 128) rfl (c_size l Z a0 hw n0 h_899 (a := o_873) (n := (0 : Int32)) f_917 f_926) f_917 hw22 hw23 (nf_sel hw25 rfl) hw25 hw24 hw3 hw26 (by decide) pd_6 rfl rfl (W := 0) (by simp [Value.category]) (by decide) (by decide) (by decide) (by decide) (fun v_929 h_927 q_928 => ?_)
                obtain ⟨rfl, rfl⟩ := q_928
                show G h_899 4 9 (mkF m 128 #[vi p, vi x1, vi x2, vi y1, vi y2, vi zz, vi 1, vi 0, vi w, vr o_863, vr o_873, .unset, .unset, .unset, .unset, .unset, .unset] [(.int (0 : Int32))])
                refine K.if_ne at_128 (pc1 := 131) rfl (by decide) (pc2 := 148) (by decide) (a := 0) rfl (fun c128 => ?_) (fun c128 => ?_)
                · exfalso; have o0 : (0 : Int32).toInt = 0 := rfl; have o1 : (1 : Int32).toInt = 1 := rfl; have o2 : (2 : Int32).toInt = 2 := rfl; omega
                · refine K.aload at_131 (pc' := 133) rfl rfl rfl ?_
                  have sz_931 : n0 ≤ h_899.size := Nat.le_trans sz_897 K_905.1
                  refine K.callv (z := (⟨sC, "iterator", "()Ljava/util/Iterator;"⟩ : MethodName)) (argsL := []) (rest := []) at_133 (pc' := 136) rfl (c_it0 l Z a0 hw n0 h_899 (b := o_873) sz_931 f_917 f_916) f_917 hw29 hw30 (nf_sel hw32 rfl) hw32 hw31 hw3 hw33 (by decide) pd_7 rfl rfl (W := 0) (by simp [Value.category]) (by decide) (by decide) (by decide) (by decide) (fun v_934 h_932 q_933 => ?_)
                  obtain ⟨w_935, rfl, K_936, f_937, f_938, f_939, f_940⟩ := q_933
                  show G h_932 5 11 (mkF m 136 #[vi p, vi x1, vi x2, vi y1, vi y2, vi zz, vi 1, vi 0, vi w, vr o_863, vr o_873, .unset, .unset, .unset, .unset, .unset, .unset] [(.ref w_935)])
                  refine K.calli (z := (⟨sI, "hasNext", "()Z"⟩ : MethodName)) (argsL := []) (rest := []) at_136 (pc' := 141) rfl (c_has0 l Z a0 hw n0 h_932 (a := w_935) f_939 f_940) f_939 hw46 hw47 hw48 rfl hw49 hw50 hw51 hw52 hw53 hw36 hw54 (by decide) pd_4 rfl rfl (W := 0) (by simp [Value.category]) (by decide) (by decide) (by decide) (by decide) (fun v_943 h_941 q_942 => ?_)
                  obtain ⟨rfl, rfl⟩ := q_942
                  show G h_932 5 11 (mkF m 141 #[vi p, vi x1, vi x2, vi y1, vi y2, vi zz, vi 1, vi 0, vi w, vr o_863, vr o_873, .unset, .unset, .unset, .unset, .unset, .unset] [(.int (b2 (False)))])
                  refine K.ifneB at_141 (pc1 := 144) rfl (by decide) (pc2 := 148) (by decide) (fun c141 => ?_) (fun c141 => ?_)
                  · exfalso; exact c141
                  · refine K.iconst at_144 (pc' := 145) rfl (z := 1) rfl ?_
                    refine K.goto at_145 (by decide) (pc' := 149) (by decide) ?_
                    refine K.istore at_149 (pc' := 151) rfl (L' := #[vi p, vi x1, vi x2, vi y1, vi y2, vi zz, vi 1, vi 0, vi w, vr o_863, vr o_873, vi 1, .unset, .unset, .unset, .unset, .unset]) rfl ?_
                    refine K.aload at_151 (pc' := 153) rfl rfl rfl ?_
                    refine K.iload at_153 (pc' := 155) rfl rfl ?_
                    have sz_945 : n0 ≤ h_932.size := Nat.le_trans sz_931 K_936.1
                    have f_946 : Old Z n0 h_932 := (((f_885.keep K_890 all0).keep K_905 (allS ge_o_863 all0)).keep K_936 all0)
                    refine K.calls (argsL := [(.int zz)]) (rest := [(.ref o_863)]) at_155 (pc' := 158) rfl (c_val l Z a0 hw n0 h_932 (p := zz) (ca := ca) (cc := cc) sz_945 f_946 P3 P4 hbx) hw55 hw56 hw57 hw58 (by decide) pd_8 rfl rfl (W := 1) (by simp [Value.category]) (by decide) (by decide) (by decide) (by decide) (fun v_949 h_947 q_948 => ?_)
                    obtain ⟨w_950, rfl, K_951, f_952, f_953, f_954⟩ := q_948
                    show G h_947 6 12 (mkF m 158 #[vi p, vi x1, vi x2, vi y1, vi y2, vi zz, vi 1, vi 0, vi w, vr o_863, vr o_873, vi 1, .unset, .unset, .unset, .unset, .unset] [(.ref w_950), (.ref o_863)])
                    have f_955 : Exa Z h_947 o_863 sC := ((f_914.keep K_936).keep K_951)
                    have f_956 : Fld Z h_947 o_863 sC "last" dL (.ref lk_903) := ((f_912.keep K_936 nin0).keep K_951 nin0)
                    have f_957 : Fld Z h_947 o_863 sC "first" dL (.ref lk_903) := ((f_911.keep K_936 nin0).keep K_951 nin0)
                    have f_958 : Fld Z h_947 o_863 sC "size" "I" (.int n1_904) := ((f_913.keep K_936 nin0).keep K_951 nin0)
                    have f_959 : Fld Z h_947 lk_903 sL "element" "Ljava/lang/Object;" (.ref w_889) := ((f_909.keep K_936 nin0).keep K_951 nin0)
                    have sz_960 : n0 ≤ h_947.size := Nat.le_trans sz_945 K_951.1
                    have f_961 : Exa Z h_947 lk_903 sL := ((f_908.keep K_936).keep K_951)
                    have ne_962 : lk_903 ≠ o_863 := (Ne.symm (Nat.ne_of_lt (Nat.lt_of_lt_of_le x_o_863.lt (Nat.le_trans (Nat.le_trans E_875.1 K_890.1) f_906))))
                    have f_963 : Fld Z h_947 lk_903 sL "next" dL .null := ((f_910.keep K_936 nin0).keep K_951 nin0)
                    refine K.callv (z := (⟨sC, "add", "(Ljava/lang/Object;)Z"⟩ : MethodName)) (argsL := [(.ref w_950)]) (rest := []) at_158 (pc' := 161) rfl (c_add1 l Z a0 hw n0 h_947 (a := o_863) (e := w_950) (n := n1_904) (f0 := lk_903) (t := lk_903) (te := w_889) sz_960 f_955 ge_o_863 f_961 f_907 ne_962 f_963 f_959 f_957 f_956 f_958 (by omega)) f_955 hw62 hw63 (nf_sel hw65 rfl) hw65 hw64 hw3 hw66 (by decide) pd_9 rfl rfl (W := 0) (by simp [Value.category]) (by decide) (by decide) (by decide) (by decide) (fun v_966 h_964 q_965 => ?_)
                    obtain ⟨lk_968, n1_969, rfl, K_970, hn1_w_967, f_971, f_972, f_973, f_974, f_975, f_976, f_977, f_978, f_979, f_980⟩ := q_965
                    show G h_964 7 14 (mkF m 161 #[vi p, vi x1, vi x2, vi y1, vi y2, vi zz, vi 1, vi 0, vi w, vr o_863, vr o_873, vi 1, .unset, .unset, .unset, .unset, .unset] [(.int (b2 (True)))])
                    refine K.pop at_161 (pc' := 162) rfl rfl ?_
                    refine K.aload at_162 (pc' := 164) rfl rfl rfl ?_
                    refine K.iload at_164 (pc' := 166) rfl rfl ?_
                    have sz_981 : n0 ≤ h_964.size := Nat.le_trans sz_960 K_970.1
                    have f_982 : Old Z n0 h_964 := ((f_946.keep K_951 all0).keep K_970 (allS ge_o_863 (allS f_907 all0)))
                    refine K.calls (argsL := [(.int w)]) (rest := [(.ref o_873)]) at_166 (pc' := 169) rfl (c_val l Z a0 hw n0 h_964 (p := w) (ca := ca) (cc := cc) sz_981 f_982 P3 P4 hbx) hw55 hw56 hw57 hw58 (by decide) pd_8 rfl rfl (W := 1) (by simp [Value.category]) (by decide) (by decide) (by decide) (by decide) (fun v_985 h_983 q_984 => ?_)
                    obtain ⟨w_986, rfl, K_987, f_988, f_989, f_990⟩ := q_984
                    show G h_983 8 15 (mkF m 169 #[vi p, vi x1, vi x2, vi y1, vi y2, vi zz, vi 1, vi 0, vi w, vr o_863, vr o_873, vi 1, .unset, .unset, .unset, .unset, .unset] [(.ref w_986), (.ref o_873)])
                    have f_991 : Exa Z h_983 o_873 sC := ((((f_917.keep K_936).keep K_951).keep K_970).keep K_987)
                    have ne_992 : o_873 ≠ lk_903 := (Nat.ne_of_lt (Nat.lt_of_lt_of_le x_o_873.lt (Nat.le_trans K_890.1 f_906)))
                    have f_993 : Fld Z h_983 o_873 sC "last" dL .null := ((((((f_879.keep K_890 nin0).keep K_905 (ninS ne_915 nin0)).keep K_936 nin0).keep K_951 nin0).keep K_970 (ninS ne_915 (ninS ne_992 nin0))).keep K_987 nin0)
                    have f_994 : Fld Z h_983 o_873 sC "size" "I" (.int (0 : Int32)) := ((((f_926.keep K_936 nin0).keep K_951 nin0).keep K_970 (ninS ne_915 (ninS ne_992 nin0))).keep K_987 nin0)
                    have sz_995 : n0 ≤ h_983.size := Nat.le_trans sz_981 K_987.1
                    have f_996 : Fld Z h_983 o_873 sC "first" dL .null := ((((f_916.keep K_936 nin0).keep K_951 nin0).keep K_970 (ninS ne_915 (ninS ne_992 nin0))).keep K_987 nin0)
                    refine K.callv (z := (⟨sC, "add", "(Ljava/lang/Object;)Z"⟩ : MethodName)) (argsL := [(.ref w_986)]) (rest := []) at_169 (pc' := 172) rfl (c_add0 l Z a0 hw n0 h_983 (a := o_873) (e := w_986) (n := (0 : Int32)) sz_995 f_991 ge_o_873 f_996 f_993 f_994 (by first | decide | omega)) f_991 hw62 hw63 (nf_sel hw65 rfl) hw65 hw64 hw3 hw66 (by decide) pd_9 rfl rfl (W := 0) (by simp [Value.category]) (by decide) (by decide) (by decide) (by decide) (fun v_999 h_997 q_998 => ?_)
                    obtain ⟨lk_1001, n1_1002, rfl, K_1003, hn1_w_1000, f_1004, f_1005, f_1006, f_1007, f_1008, f_1009, f_1010, f_1011⟩ := q_998
                    show G h_997 9 17 (mkF m 172 #[vi p, vi x1, vi x2, vi y1, vi y2, vi zz, vi 1, vi 0, vi w, vr o_863, vr o_873, vi 1, .unset, .unset, .unset, .unset, .unset] [(.int (b2 (True)))])
                    refine K.pop at_172 (pc' := 173) rfl rfl ?_
                    refine K.iload at_173 (pc' := 175) rfl rfl ?_
                    refine K.if_eq at_175 (pc1 := 178) rfl (by decide) (pc2 := 206) (by decide) (a := 1) rfl (fun c175 => ?_) (fun c175 => ?_)
                    · exfalso; omega
                    · refine K.aload at_178 (pc' := 180) rfl rfl rfl ?_
                      have f_1012 : Exa Z h_997 o_863 sC := (((f_955.keep K_970).keep K_987).keep K_1003)
                      have f_1013 : Fld Z h_997 o_863 sC "size" "I" (.int n1_969) := ((f_980.keep K_987 nin0).keep K_1003 (ninS (Ne.symm ne_915) nin0))
                      refine K.callv (z := (⟨sC, "size", "()I"⟩ : MethodName)) (argsL := []) (rest := []) at_180 (pc' := 183) rfl (c_size l Z a0 hw n0 h_997 (a := o_863) (n := n1_969) f_1012 f_1013) f_1012 hw22 hw23 (nf_sel hw25 rfl) hw25 hw24 hw3 hw26 (by decide) pd_6 rfl rfl (W := 0) (by simp [Value.category]) (by decide) (by decide) (by decide) (by decide) (fun v_1016 h_1014 q_1015 => ?_)
                      obtain ⟨rfl, rfl⟩ := q_1015
                      show G h_997 9 17 (mkF m 183 #[vi p, vi x1, vi x2, vi y1, vi y2, vi zz, vi 1, vi 0, vi w, vr o_863, vr o_873, vi 1, .unset, .unset, .unset, .unset, .unset] [(.int n1_969)])
                      refine K.iload at_183 (pc' := 185) rfl rfl ?_
                      refine K.iload at_185 (pc' := 187) rfl rfl ?_
                      refine K.iadd at_187 (pc' := 188) rfl (z := (1 : Int32)) (by decide) ?_
                      refine K.iconst at_188 (pc' := 189) rfl (z := 1) rfl ?_
                      refine K.iadd at_189 (pc' := 190) rfl (z := (2 : Int32)) (by decide) ?_
                      refine K.icmp_ne at_190 (pc1 := 193) rfl (by decide) (pc2 := 206) (by decide) (a := n1_969.toInt) (b := 2) rfl rfl (fun c190 => ?_) (fun c190 => ?_)
                      · exfalso; have o0 : (0 : Int32).toInt = 0 := rfl; have o1 : (1 : Int32).toInt = 1 := rfl; have o2 : (2 : Int32).toInt = 2 := rfl; omega
                      · refine K.aload at_193 (pc' := 195) rfl rfl rfl ?_
                        have f_1018 : Exa Z h_997 o_873 sC := (f_991.keep K_1003)
                        refine K.callv (z := (⟨sC, "size", "()I"⟩ : MethodName)) (argsL := []) (rest := []) at_195 (pc' := 198) rfl (c_size l Z a0 hw n0 h_997 (a := o_873) (n := n1_1002) f_1018 f_1011) f_1018 hw22 hw23 (nf_sel hw25 rfl) hw25 hw24 hw3 hw26 (by decide) pd_6 rfl rfl (W := 0) (by simp [Value.category]) (by decide) (by decide) (by decide) (by decide) (fun v_1021 h_1019 q_1020 => ?_)
                        obtain ⟨rfl, rfl⟩ := q_1020
                        show G h_997 9 17 (mkF m 198 #[vi p, vi x1, vi x2, vi y1, vi y2, vi zz, vi 1, vi 0, vi w, vr o_863, vr o_873, vi 1, .unset, .unset, .unset, .unset, .unset] [(.int n1_1002)])
                        refine K.iconst at_198 (pc' := 199) rfl (z := 1) rfl ?_
                        refine K.icmp_ne at_199 (pc1 := 202) rfl (by decide) (pc2 := 206) (by decide) (a := n1_1002.toInt) (b := 1) rfl rfl (fun c199 => ?_) (fun c199 => ?_)
                        · exfalso; have o0 : (0 : Int32).toInt = 0 := rfl; have o1 : (1 : Int32).toInt = 1 := rfl; have o2 : (2 : Int32).toInt = 2 := rfl; omega
                        · refine K.iconst at_202 (pc' := 203) rfl (z := 1) rfl ?_
                          refine K.goto at_203 (by decide) (pc' := 207) (by decide) ?_
                          refine K.istore at_207 (pc' := 209) rfl (L' := #[vi p, vi x1, vi x2, vi y1, vi y2, vi zz, vi 1, vi 0, vi w, vr o_863, vr o_873, vi 1, .unset, .unset, .unset, .unset, .unset]) rfl ?_
                          refine K.aload at_209 (pc' := 211) rfl rfl rfl ?_
                          have sz_1023 : n0 ≤ h_997.size := Nat.le_trans sz_995 K_1003.1
                          refine K.callv (z := (⟨sC, "iterator", "()Ljava/util/Iterator;"⟩ : MethodName)) (argsL := []) (rest := []) at_211 (pc' := 214) rfl (c_it1 l Z a0 hw n0 h_997 (b := o_873) (x := lk_1001) sz_1023 f_1018 f_1009) f_1018 hw29 hw30 (nf_sel hw32 rfl) hw32 hw31 hw3 hw33 (by decide) pd_7 rfl rfl (W := 0) (by simp [Value.category]) (by decide) (by decide) (by decide) (by decide) (fun v_1026 h_1024 q_1025 => ?_)
                          obtain ⟨w_1027, rfl, K_1028, f_1029, f_1030, f_1031, f_1032⟩ := q_1025
                          show G h_1024 10 19 (mkF m 214 #[vi p, vi x1, vi x2, vi y1, vi y2, vi zz, vi 1, vi 0, vi w, vr o_863, vr o_873, vi 1, .unset, .unset, .unset, .unset, .unset] [(.ref w_1027)])
                          refine K.astore at_214 (pc' := 216) rfl rfl (L' := #[vi p, vi x1, vi x2, vi y1, vi y2, vi zz, vi 1, vi 0, vi w, vr o_863, vr o_873, vi 1, vr w_1027, .unset, .unset, .unset, .unset]) rfl ?_
                          refine K.iload at_216 (pc' := 218) rfl rfl ?_
                          refine K.if_eq at_218 (pc1 := 221) rfl (by decide) (pc2 := 246) (by decide) (a := 1) rfl (fun c218 => ?_) (fun c218 => ?_)
                          · exfalso; omega
                          · refine K.aload at_221 (pc' := 223) rfl rfl rfl ?_
                            refine K.iconst at_223 (pc' := 224) rfl (z := 1) rfl ?_
                            refine K.iload at_224 (pc' := 226) rfl rfl ?_
                            have f_1033 : Fld Z h_1024 lk_1001 sL "next" dL .null := (f_1008.keep K_1028 nin0)
                            have f_1034 : Fld Z h_1024 lk_1001 sL "element" "Ljava/lang/Object;" (.ref w_986) := (f_1007.keep K_1028 nin0)
                            have ne_1035 : w_986 ≠ o_873 := (f_990.elim (fun q => Nat.ne_of_lt (Nat.lt_of_lt_of_le q ge_o_873)) (fun q => Nat.ne_of_gt (Nat.lt_of_lt_of_le x_o_873.lt (Nat.le_trans (Nat.le_trans K_890.1 (Nat.le_trans K_905.1 (Nat.le_trans K_936.1 (Nat.le_trans K_951.1 K_970.1)))) q))))
                            have f_1036 : Fld Z h_1024 w_986 sN "value" "I" (.int w) := ((f_989.keep K_1003 (ninS ne_1035 nin0)).keep K_1028 nin0)
                            have f_1037 : Exa Z h_1024 lk_1001 sL := (f_1006.keep K_1028)
                            have ne_1038 : lk_1001 ≠ w_1027 := (Nat.ne_of_lt (Nat.lt_of_lt_of_le f_1006.lt (Nat.le_trans (Nat.le_refl _) f_1029)))
                            have ne_1039 : w_986 ≠ w_1027 := (Nat.ne_of_lt (Nat.lt_of_lt_of_le f_988.lt (Nat.le_trans K_1003.1 f_1029)))
                            have f_1040 : Exa Z h_1024 w_986 sN := ((f_988.keep K_1003).keep K_1028)
                            refine K.calls (argsL := [(.ref w_1027), (.int (1 : Int32)), (.int w)]) (rest := []) at_226 (pc' := 229) rfl (c_st10 l Z a0 hw n0 h_1024 (a := w_1027) (e := w) (lk := lk_1001) (b := w_986) (v0 := w) f_1031 f_1030 f_1032 f_1037 ne_1038 f_1034 f_1033 ne_1039 f_1040 f_1036) hw78 hw79 hw80 hw81 (by decide) pd_10 rfl rfl (W := 0) (by simp [Value.category]) (by decide) (by decide) (by decide) (by decide) (fun v_1043 h_1041 q_1042 => ?_)
                            obtain ⟨rfl, K_1045, f_1046⟩ := q_1042
                            show G h_1041 10 19 (mkF m 229 #[vi p, vi x1, vi x2, vi y1, vi y2, vi zz, vi 1, vi 0, vi w, vr o_863, vr o_873, vi 1, vr w_1027, .unset, .unset, .unset, .unset] [(.int (b2 (w.toInt = w.toInt)))])
                            refine K.ifeqB at_229 (pc1 := 232) rfl (by decide) (pc2 := 246) (by decide) (fun c229 => ?_) (fun c229 => ?_)
                            · exfalso; first | exact c229 rfl | exact c229 trivial
                            · refine K.aload at_232 (pc' := 234) rfl rfl rfl ?_
                              have f_1047 : Exa Z h_1041 w_1027 sI := (f_1031.keep K_1045)
                              refine K.calli (z := (⟨sI, "hasNext", "()Z"⟩ : MethodName)) (argsL := []) (rest := []) at_234 (pc' := 239) rfl (c_has0 l Z a0 hw n0 h_1041 (a := w_1027) f_1047 f_1046) f_1047 hw46 hw47 hw48 rfl hw49 hw50 hw51 hw52 hw53 hw36 hw54 (by decide) pd_4 rfl rfl (W := 0) (by simp [Value.category]) (by decide) (by decide) (by decide) (by decide) (fun v_1050 h_1048 q_1049 => ?_)
                              obtain ⟨rfl, rfl⟩ := q_1049
                              show G h_1041 10 19 (mkF m 239 #[vi p, vi x1, vi x2, vi y1, vi y2, vi zz, vi 1, vi 0, vi w, vr o_863, vr o_873, vi 1, vr w_1027, .unset, .unset, .unset, .unset] [(.int (b2 (False)))])
                              refine K.ifneB at_239 (pc1 := 242) rfl (by decide) (pc2 := 246) (by decide) (fun c239 => ?_) (fun c239 => ?_)
                              · exfalso; exact c239
                              · refine K.iconst at_242 (pc' := 243) rfl (z := 1) rfl ?_
                                refine K.goto at_243 (by decide) (pc' := 247) (by decide) ?_
                                refine K.istore at_247 (pc' := 249) rfl (L' := #[vi p, vi x1, vi x2, vi y1, vi y2, vi zz, vi 1, vi 0, vi w, vr o_863, vr o_873, vi 1, vr w_1027, .unset, .unset, .unset, .unset]) rfl ?_
                                refine K.iconst at_249 (pc' := 250) rfl (z := 5) rfl ?_
                                refine K.newa at_250 (pc' := 252) rfl hw102 (k := 5) (cap := 5) rfl (by decide) (by decide) (by decide) (by decide) (ad := "[I") (by decide) (fun h_1053 a_1052 g_a_1052 E_1054 A_1055 x_a_1052 => ?_)
                                have sz_1056 : n0 ≤ h_1041.size := Nat.le_trans sz_1023 (Nat.le_trans K_1028.1 K_1045.1)
                                have ge_a_1052 : n0 ≤ a_1052 := g_a_1052 ▸ sz_1056
                                have A_1057 : Ary Z h_1053 a_1052 .int [(.int (0 : Int32)), (.int (0 : Int32)), (.int (0 : Int32)), (.int (0 : Int32)), (.int (0 : Int32))] := A_1055
                                refine K.astore at_252 (pc' := 254) rfl rfl (L' := #[vi p, vi x1, vi x2, vi y1, vi y2, vi zz, vi 1, vi 0, vi w, vr o_863, vr o_873, vi 1, vr w_1027, vr a_1052, .unset, .unset, .unset]) rfl ?_
                                refine K.iconst at_254 (pc' := 255) rfl (z := 0) rfl ?_
                                refine K.istore at_255 (pc' := 257) rfl (L' := #[vi p, vi x1, vi x2, vi y1, vi y2, vi zz, vi 1, vi 0, vi w, vr o_863, vr o_873, vi 1, vr w_1027, vr a_1052, vi 0, .unset, .unset]) rfl ?_
                                refine K.iload at_257 (pc' := 259) rfl rfl ?_
                                refine K.if_le at_259 (pc1 := 262) rfl (by decide) (pc2 := 271) (by decide) (a := 1) rfl (fun c259 => ?_) (fun c259 => ?_)
                                · exfalso; omega
                                · refine K.aload at_262 (pc' := 264) rfl rfl rfl ?_
                                  refine K.iload at_264 (pc' := 266) rfl rfl ?_
                                  refine K.iloadN at_266 (pc' := 267) rfl rfl ?_
                                  refine K.iast at_267 (pc' := 268) rfl A_1057 (i := 0) rfl (show 0 < 5 by decide) ge_a_1052 (fun h_1058 W_1059 A_1060 => ?_)
                                  have A_1061 : Ary Z h_1058 a_1052 .int [(.int x1), (.int (0 : Int32)), (.int (0 : Int32)), (.int (0 : Int32)), (.int (0 : Int32))] := A_1060
                                  refine K.iinc at_268 (pc' := 271) rfl rfl (z := (1 : Int32)) rfl (L' := #[vi p, vi x1, vi x2, vi y1, vi y2, vi zz, vi 1, vi 0, vi w, vr o_863, vr o_873, vi 1, vr w_1027, vr a_1052, vi 1, .unset, .unset]) rfl ?_
                                  refine K.iload at_271 (pc' := 273) rfl rfl ?_
                                  refine K.iconst at_273 (pc' := 274) rfl (z := 1) rfl ?_
                                  refine K.icmp_le at_274 (pc1 := 277) rfl (by decide) (pc2 := 286) (by decide) (a := 1) (b := 1) rfl rfl (fun c274 => ?_) (fun c274 => ?_)
                                  · refine K.iload at_286 (pc' := 288) rfl rfl ?_
                                    refine K.if_le at_288 (pc1 := 291) rfl (by decide) (pc2 := 300) (by decide) (a := 0) rfl (fun c288 => ?_) (fun c288 => ?_)
                                    · refine K.iload at_300 (pc' := 302) rfl rfl ?_
                                      refine K.iconst at_302 (pc' := 303) rfl (z := 1) rfl ?_
                                      refine K.icmp_le at_303 (pc1 := 306) rfl (by decide) (pc2 := 316) (by decide) (a := 0) (b := 1) rfl rfl (fun c303 => ?_) (fun c303 => ?_)
                                      · refine K.aload at_316 (pc' := 318) rfl rfl rfl ?_
                                        refine K.iload at_318 (pc' := 320) rfl rfl ?_
                                        refine K.iload at_320 (pc' := 322) rfl rfl ?_
                                        refine K.iast at_322 (pc' := 323) rfl A_1061 (i := 1) rfl (show 1 < 5 by decide) ge_a_1052 (fun h_1062 W_1063 A_1064 => ?_)
                                        have A_1065 : Ary Z h_1062 a_1052 .int [(.int x1), (.int zz), (.int (0 : Int32)), (.int (0 : Int32)), (.int (0 : Int32))] := A_1064
                                        refine K.iinc at_323 (pc' := 326) rfl rfl (z := (2 : Int32)) rfl (L' := #[vi p, vi x1, vi x2, vi y1, vi y2, vi zz, vi 1, vi 0, vi w, vr o_863, vr o_873, vi 1, vr w_1027, vr a_1052, vi 2, .unset, .unset]) rfl ?_
                                        refine K.iload at_326 (pc' := 328) rfl rfl ?_
                                        refine K.istore at_328 (pc' := 330) rfl (L' := #[vi p, vi x1, vi x2, vi y1, vi y2, vi zz, vi 1, vi 0, vi w, vr o_863, vr o_873, vi 1, vr w_1027, vr a_1052, vi 2, vi 2, .unset]) rfl ?_
                                        refine K.aload at_330 (pc' := 332) rfl rfl rfl ?_
                                        have f_1066 : Exa Z h_1062 o_863 sC := (((((f_1012.keep K_1028).keep K_1045).ext E_1054).wr W_1059).wr W_1063)
                                        have ne_1067 : o_863 ≠ w_1027 := (Nat.ne_of_lt (Nat.lt_of_lt_of_le x_o_863.lt (Nat.le_trans (Nat.le_trans E_875.1 (Nat.le_trans K_890.1 (Nat.le_trans K_905.1 (Nat.le_trans K_936.1 (Nat.le_trans K_951.1 (Nat.le_trans K_970.1 (Nat.le_trans K_987.1 K_1003.1))))))) f_1029)))
                                        have ne_1068 : o_863 ≠ a_1052 := (Nat.ne_of_lt (Nat.lt_of_lt_of_le x_o_863.lt (Nat.le_trans (Nat.le_trans E_875.1 (Nat.le_trans K_890.1 (Nat.le_trans K_905.1 (Nat.le_trans K_936.1 (Nat.le_trans K_951.1 (Nat.le_trans K_970.1 (Nat.le_trans K_987.1 (Nat.le_trans K_1003.1 (Nat.le_trans K_1028.1 K_1045.1))))))))) (Nat.le_of_eq g_a_1052.symm))))
                                        have f_1069 : Fld Z h_1062 o_863 sC "first" dL (.ref lk_903) := (((((((f_978.keep K_987 nin0).keep K_1003 (ninS (Ne.symm ne_915) nin0)).keep K_1028 nin0).keep K_1045 (ninS ne_1067 nin0)).ext E_1054).other W_1059 (Or.inl ne_1068)).other W_1063 (Or.inl ne_1068))
                                        have sz_1070 : n0 ≤ h_1062.size := Nat.le_trans sz_1056 (Nat.le_trans E_1054.1 (Nat.le_trans (Keep.of_wr W_1059).1 (Keep.of_wr W_1063).1))
                                        refine K.callv (z := (⟨sC, "iterator", "()Ljava/util/Iterator;"⟩ : MethodName)) (argsL := []) (rest := []) at_332 (pc' := 335) rfl (c_it1 l Z a0 hw n0 h_1062 (b := o_863) (x := lk_903) sz_1070 f_1066 f_1069) f_1066 hw29 hw30 (nf_sel hw32 rfl) hw32 hw31 hw3 hw33 (by decide) pd_7 rfl rfl (W := 0) (by simp [Value.category]) (by decide) (by decide) (by decide) (by decide) (fun v_1073 h_1071 q_1072 => ?_)
                                        obtain ⟨w_1074, rfl, K_1075, f_1076, f_1077, f_1078, f_1079⟩ := q_1072
                                        show G h_1071 12 26 (mkF m 335 #[vi p, vi x1, vi x2, vi y1, vi y2, vi zz, vi 1, vi 0, vi w, vr o_863, vr o_873, vi 1, vr w_1027, vr a_1052, vi 2, vi 2, .unset] [(.ref w_1074)])
                                        refine K.astore at_335 (pc' := 337) rfl rfl (L' := #[vi p, vi x1, vi x2, vi y1, vi y2, vi zz, vi 1, vi 0, vi w, vr o_863, vr o_873, vi 1, vr w_1027, vr a_1052, vi 2, vi 2, vr w_1074]) rfl ?_
                                        refine K.iload at_337 (pc' := 339) rfl rfl ?_
                                        refine K.if_eq at_339 (pc1 := 342) rfl (by decide) (pc2 := 369) (by decide) (a := 1) rfl (fun c339 => ?_) (fun c339 => ?_)
                                        · exfalso; omega
                                        · refine K.aload at_342 (pc' := 344) rfl rfl rfl ?_
                                          refine K.iconst at_344 (pc' := 345) rfl (z := 0) rfl ?_
                                          refine K.iload at_345 (pc' := 347) rfl rfl ?_
                                          refine K.icmp_ge at_347 (pc1 := 350) rfl (by decide) (pc2 := 354) (by decide) (a := 0) (b := 2) rfl rfl (fun c347 => ?_) (fun c347 => ?_)
                                          · exfalso; omega
                                          · refine K.iconst at_350 (pc' := 351) rfl (z := 1) rfl ?_
                                            refine K.goto at_351 (by decide) (pc' := 355) (by decide) ?_
                                            refine K.aload at_355 (pc' := 357) rfl rfl rfl ?_
                                            refine K.iconst at_357 (pc' := 358) rfl (z := 0) rfl ?_
                                            have f_1080 : Ary Z h_1071 a_1052 .int [(.int x1), (.int zz), (.int (0 : Int32)), (.int (0 : Int32)), (.int (0 : Int32))] := (A_1065.keep K_1075 nin0)
                                            refine K.iald at_358 (pc' := 359) rfl f_1080 (i := 0) rfl rfl ?_
                                            have ne_1081 : lk_903 ≠ w_1027 := (Nat.ne_of_lt (Nat.lt_of_lt_of_le f_908.lt (Nat.le_trans (Nat.le_trans K_936.1 (Nat.le_trans K_951.1 (Nat.le_trans K_970.1 (Nat.le_trans K_987.1 K_1003.1)))) f_1029)))
                                            have ne_1082 : lk_903 ≠ a_1052 := (Nat.ne_of_lt (Nat.lt_of_lt_of_le f_908.lt (Nat.le_trans (Nat.le_trans K_936.1 (Nat.le_trans K_951.1 (Nat.le_trans K_970.1 (Nat.le_trans K_987.1 (Nat.le_trans K_1003.1 (Nat.le_trans K_1028.1 K_1045.1)))))) (Nat.le_of_eq g_a_1052.symm))))
                                            have f_1083 : Fld Z h_1071 lk_903 sL "next" dL (.ref lk_968) := ((((((((f_976.keep K_987 nin0).keep K_1003 (ninS (Ne.symm ne_992) nin0)).keep K_1028 nin0).keep K_1045 (ninS ne_1081 nin0)).ext E_1054).other W_1059 (Or.inl ne_1082)).other W_1063 (Or.inl ne_1082)).keep K_1075 nin0)
                                            have f_1084 : Fld Z h_1071 lk_903 sL "element" "Ljava/lang/Object;" (.ref w_889) := ((((((((f_977.keep K_987 nin0).keep K_1003 (ninS (Ne.symm ne_992) nin0)).keep K_1028 nin0).keep K_1045 (ninS ne_1081 nin0)).ext E_1054).other W_1059 (Or.inl ne_1082)).other W_1063 (Or.inl ne_1082)).keep K_1075 nin0)
                                            have ne_1085 : w_889 ≠ o_863 := (f_893.elim (fun q => Nat.ne_of_lt (Nat.lt_of_lt_of_le q ge_o_863)) (fun q => Nat.ne_of_gt (Nat.lt_of_lt_of_le x_o_863.lt (Nat.le_trans E_875.1 q))))
                                            have ne_1086 : w_889 ≠ lk_903 := (Nat.ne_of_lt (Nat.lt_of_lt_of_le f_891.lt (Nat.le_trans (Nat.le_refl _) f_906)))
                                            have ne_1087 : w_889 ≠ o_873 := (f_893.elim (fun q => Nat.ne_of_lt (Nat.lt_of_lt_of_le q ge_o_873)) (fun q => Nat.ne_of_gt (Nat.lt_of_lt_of_le x_o_873.lt (Nat.le_trans (Nat.le_refl _) q))))
                                            have ne_1088 : w_889 ≠ w_1027 := (Nat.ne_of_lt (Nat.lt_of_lt_of_le f_891.lt (Nat.le_trans (Nat.le_trans K_905.1 (Nat.le_trans K_936.1 (Nat.le_trans K_951.1 (Nat.le_trans K_970.1 (Nat.le_trans K_987.1 K_1003.1))))) f_1029)))
                                            have ne_1089 : w_889 ≠ a_1052 := (Nat.ne_of_lt (Nat.lt_of_lt_of_le f_891.lt (Nat.le_trans (Nat.le_trans K_905.1 (Nat.le_trans K_936.1 (Nat.le_trans K_951.1 (Nat.le_trans K_970.1 (Nat.le_trans K_987.1 (Nat.le_trans K_1003.1 (Nat.le_trans K_1028.1 K_1045.1))))))) (Nat.le_of_eq g_a_1052.symm))))
                                            have f_1090 : Fld Z h_1071 w_889 sN "value" "I" (.int x1) := ((((((((((((f_892.keep K_905 (ninS ne_1085 nin0)).keep K_936 nin0).keep K_951 nin0).keep K_970 (ninS ne_1085 (ninS ne_1086 nin0))).keep K_987 nin0).keep K_1003 (ninS ne_1087 nin0)).keep K_1028 nin0).keep K_1045 (ninS ne_1088 nin0)).ext E_1054).other W_1059 (Or.inl ne_1089)).other W_1063 (Or.inl ne_1089)).keep K_1075 nin0)
                                            have f_1091 : Exa Z h_1071 lk_903 sL := (((((((((f_961.keep K_970).keep K_987).keep K_1003).keep K_1028).keep K_1045).ext E_1054).wr W_1059).wr W_1063).keep K_1075)
                                            have ne_1092 : lk_903 ≠ w_1074 := (Nat.ne_of_lt (Nat.lt_of_lt_of_le f_908.lt (Nat.le_trans (Nat.le_trans K_936.1 (Nat.le_trans K_951.1 (Nat.le_trans K_970.1 (Nat.le_trans K_987.1 (Nat.le_trans K_1003.1 (Nat.le_trans K_1028.1 (Nat.le_trans K_1045.1 (Nat.le_trans E_1054.1 (Nat.le_trans (Keep.of_wr W_1059).1 (Keep.of_wr W_1063).1))))))))) f_1076)))
                                            have ne_1093 : w_889 ≠ w_1074 := (Nat.ne_of_lt (Nat.lt_of_lt_of_le f_891.lt (Nat.le_trans (Nat.le_trans K_905.1 (Nat.le_trans K_936.1 (Nat.le_trans K_951.1 (Nat.le_trans K_970.1 (Nat.le_trans K_987.1 (Nat.le_trans K_1003.1 (Nat.le_trans K_1028.1 (Nat.le_trans K_1045.1 (Nat.le_trans E_1054.1 (Nat.le_trans (Keep.of_wr W_1059).1 (Keep.of_wr W_1063).1)))))))))) f_1076)))
                                            have f_1094 : Exa Z h_1071 w_889 sN := ((((((((((((f_891.keep K_905).keep K_936).keep K_951).keep K_970).keep K_987).keep K_1003).keep K_1028).keep K_1045).ext E_1054).wr W_1059).wr W_1063).keep K_1075)
                                            refine K.calls (argsL := [(.ref w_1074), (.int (1 : Int32)), (.int x1)]) (rest := []) at_359 (pc' := 362) rfl (c_st11 l Z a0 hw n0 h_1071 (a := w_1074) (e := x1) (lk := lk_903) (b := w_889) (v0 := x1) (x := lk_968) f_1078 f_1077 f_1079 f_1091 ne_1092 f_1084 f_1083 ne_1093 f_1094 f_1090) hw78 hw79 hw80 hw81 (by decide) pd_10 rfl rfl (W := 0) (by simp [Value.category]) (by decide) (by decide) (by decide) (by decide) (fun v_1097 h_1095 q_1096 => ?_)
                                            obtain ⟨rfl, K_1099, f_1100⟩ := q_1096
                                            show G h_1095 12 26 (mkF m 362 #[vi p, vi x1, vi x2, vi y1, vi y2, vi zz, vi 1, vi 0, vi w, vr o_863, vr o_873, vi 1, vr w_1027, vr a_1052, vi 2, vi 2, vr w_1074] [(.int (b2 (x1.toInt = x1.toInt)))])
                                            refine K.ifeqB at_362 (pc1 := 365) rfl (by decide) (pc2 := 369) (by decide) (fun c362 => ?_) (fun c362 => ?_)
                                            · exfalso; first | exact c362 rfl | exact c362 trivial
                                            · refine K.iconst at_365 (pc' := 366) rfl (z := 1) rfl ?_
                                              refine K.goto at_366 (by decide) (pc' := 370) (by decide) ?_
                                              refine K.istore at_370 (pc' := 372) rfl (L' := #[vi p, vi x1, vi x2, vi y1, vi y2, vi zz, vi 1, vi 0, vi w, vr o_863, vr o_873, vi 1, vr w_1027, vr a_1052, vi 2, vi 2, vr w_1074]) rfl ?_
                                              refine K.iload at_372 (pc' := 374) rfl rfl ?_
                                              refine K.if_eq at_374 (pc1 := 377) rfl (by decide) (pc2 := 404) (by decide) (a := 1) rfl (fun c374 => ?_) (fun c374 => ?_)
                                              · exfalso; omega
                                              · refine K.aload at_377 (pc' := 379) rfl rfl rfl ?_
                                                refine K.iconst at_379 (pc' := 380) rfl (z := 1) rfl ?_
                                                refine K.iload at_380 (pc' := 382) rfl rfl ?_
                                                refine K.icmp_ge at_382 (pc1 := 385) rfl (by decide) (pc2 := 389) (by decide) (a := 1) (b := 2) rfl rfl (fun c382 => ?_) (fun c382 => ?_)
                                                · exfalso; omega
                                                · refine K.iconst at_385 (pc' := 386) rfl (z := 1) rfl ?_
                                                  refine K.goto at_386 (by decide) (pc' := 390) (by decide) ?_
                                                  refine K.aload at_390 (pc' := 392) rfl rfl rfl ?_
                                                  refine K.iconst at_392 (pc' := 393) rfl (z := 1) rfl ?_
                                                  have ne_1101 : a_1052 ≠ w_1074 := (Nat.ne_of_lt (Nat.lt_of_lt_of_le A_1057.lt (Nat.le_trans (Nat.le_trans (Keep.of_wr W_1059).1 (Keep.of_wr W_1063).1) f_1076)))
                                                  have f_1102 : Ary Z h_1095 a_1052 .int [(.int x1), (.int zz), (.int (0 : Int32)), (.int (0 : Int32)), (.int (0 : Int32))] := (f_1080.keep K_1099 (ninS ne_1101 nin0))
                                                  refine K.iald at_393 (pc' := 394) rfl f_1102 (i := 1) rfl rfl ?_
                                                  have ne_1103 : lk_968 ≠ o_873 := (Ne.symm (Nat.ne_of_lt (Nat.lt_of_lt_of_le x_o_873.lt (Nat.le_trans (Nat.le_trans K_890.1 (Nat.le_trans K_905.1 (Nat.le_trans K_936.1 K_951.1))) f_971))))
                                                  have ne_1104 : lk_968 ≠ w_1027 := (Nat.ne_of_lt (Nat.lt_of_lt_of_le f_973.lt (Nat.le_trans (Nat.le_trans K_987.1 K_1003.1) f_1029)))
                                                  have ne_1105 : lk_968 ≠ a_1052 := (Nat.ne_of_lt (Nat.lt_of_lt_of_le f_973.lt (Nat.le_trans (Nat.le_trans K_987.1 (Nat.le_trans K_1003.1 (Nat.le_trans K_1028.1 K_1045.1))) (Nat.le_of_eq g_a_1052.symm))))
                                                  have ne_1106 : lk_968 ≠ w_1074 := (Nat.ne_of_lt (Nat.lt_of_lt_of_le f_973.lt (Nat.le_trans (Nat.le_trans K_987.1 (Nat.le_trans K_1003.1 (Nat.le_trans K_1028.1 (Nat.le_trans K_1045.1 (Nat.le_trans E_1054.1 (Nat.le_trans (Keep.of_wr W_1059).1 (Keep.of_wr W_1063).1)))))) f_1076)))
                                                  have f_1107 : Fld Z h_1095 lk_968 sL "next" dL .null := (((((((((f_975.keep K_987 nin0).keep K_1003 (ninS ne_1103 nin0)).keep K_1028 nin0).keep K_1045 (ninS ne_1104 nin0)).ext E_1054).other W_1059 (Or.inl ne_1105)).other W_1063 (Or.inl ne_1105)).keep K_1075 nin0).keep K_1099 (ninS ne_1106 nin0))
                                                  have f_1108 : Fld Z h_1095 lk_968 sL "element" "Ljava/lang/Object;" (.ref w_950) := (((((((((f_974.keep K_987 nin0).keep K_1003 (ninS ne_1103 nin0)).keep K_1028 nin0).keep K_1045 (ninS ne_1104 nin0)).ext E_1054).other W_1059 (Or.inl ne_1105)).other W_1063 (Or.inl ne_1105)).keep K_1075 nin0).keep K_1099 (ninS ne_1106 nin0))
                                                  have ne_1109 : w_950 ≠ lk_903 := (f_954.elim (fun q => Nat.ne_of_lt (Nat.lt_of_lt_of_le q f_907)) (fun q => Nat.ne_of_gt (Nat.lt_of_lt_of_le f_908.lt (Nat.le_trans K_936.1 q))))
                                                  have ne_1110 : w_950 ≠ o_863 := (f_954.elim (fun q => Nat.ne_of_lt (Nat.lt_of_lt_of_le q ge_o_863)) (fun q => Nat.ne_of_gt (Nat.lt_of_lt_of_le x_o_863.lt (Nat.le_trans (Nat.le_trans E_875.1 (Nat.le_trans K_890.1 (Nat.le_trans K_905.1 K_936.1))) q))))
                                                  have ne_1111 : w_950 ≠ o_873 := (f_954.elim (fun q => Nat.ne_of_lt (Nat.lt_of_lt_of_le q ge_o_873)) (fun q => Nat.ne_of_gt (Nat.lt_of_lt_of_le x_o_873.lt (Nat.le_trans (Nat.le_trans K_890.1 (Nat.le_trans K_905.1 K_936.1)) q))))
                                                  have ne_1112 : w_950 ≠ w_1027 := (Nat.ne_of_lt (Nat.lt_of_lt_of_le f_952.lt (Nat.le_trans (Nat.le_trans K_970.1 (Nat.le_trans K_987.1 K_1003.1)) f_1029)))
                                                  have ne_1113 : w_950 ≠ a_1052 := (Nat.ne_of_lt (Nat.lt_of_lt_of_le f_952.lt (Nat.le_trans (Nat.le_trans K_970.1 (Nat.le_trans K_987.1 (Nat.le_trans K_1003.1 (Nat.le_trans K_1028.1 K_1045.1)))) (Nat.le_of_eq g_a_1052.symm))))
                                                  have ne_1114 : w_950 ≠ w_1074 := (Nat.ne_of_lt (Nat.lt_of_lt_of_le f_952.lt (Nat.le_trans (Nat.le_trans K_970.1 (Nat.le_trans K_987.1 (Nat.le_trans K_1003.1 (Nat.le_trans K_1028.1 (Nat.le_trans K_1045.1 (Nat.le_trans E_1054.1 (Nat.le_trans (Keep.of_wr W_1059).1 (Keep.of_wr W_1063).1))))))) f_1076)))
                                                  have f_1115 : Fld Z h_1095 w_950 sN "value" "I" (.int zz) := ((((((((((f_953.keep K_970 (ninS ne_1110 (ninS ne_1109 nin0))).keep K_987 nin0).keep K_1003 (ninS ne_1111 nin0)).keep K_1028 nin0).keep K_1045 (ninS ne_1112 nin0)).ext E_1054).other W_1059 (Or.inl ne_1113)).other W_1063 (Or.inl ne_1113)).keep K_1075 nin0).keep K_1099 (ninS ne_1114 nin0))
                                                  have f_1116 : Exa Z h_1095 w_1074 sI := (f_1078.keep K_1099)
                                                  have f_1117 : Exa Z h_1095 lk_968 sL := (((((((((f_973.keep K_987).keep K_1003).keep K_1028).keep K_1045).ext E_1054).wr W_1059).wr W_1063).keep K_1075).keep K_1099)
                                                  have f_1118 : Exa Z h_1095 w_950 sN := ((((((((((f_952.keep K_970).keep K_987).keep K_1003).keep K_1028).keep K_1045).ext E_1054).wr W_1059).wr W_1063).keep K_1075).keep K_1099)
                                                  refine K.calls (argsL := [(.ref w_1074), (.int (1 : Int32)), (.int zz)]) (rest := []) at_394 (pc' := 397) rfl (c_st10 l Z a0 hw n0 h_1095 (a := w_1074) (e := zz) (lk := lk_968) (b := w_950) (v0 := zz) f_1116 f_1077 f_1100 f_1117 ne_1106 f_1108 f_1107 ne_1114 f_1118 f_1115) hw78 hw79 hw80 hw81 (by decide) pd_10 rfl rfl (W := 0) (by simp [Value.category]) (by decide) (by decide) (by decide) (by decide) (fun v_1121 h_1119 q_1120 => ?_)
                                                  obtain ⟨rfl, K_1123, f_1124⟩ := q_1120
                                                  show G h_1119 12 26 (mkF m 397 #[vi p, vi x1, vi x2, vi y1, vi y2, vi zz, vi 1, vi 0, vi w, vr o_863, vr o_873, vi 1, vr w_1027, vr a_1052, vi 2, vi 2, vr w_1074] [(.int (b2 (zz.toInt = zz.toInt)))])
                                                  refine K.ifeqB at_397 (pc1 := 400) rfl (by decide) (pc2 := 404) (by decide) (fun c397 => ?_) (fun c397 => ?_)
                                                  · exfalso; first | exact c397 rfl | exact c397 trivial
                                                  · refine K.iconst at_400 (pc' := 401) rfl (z := 1) rfl ?_
                                                    refine K.goto at_401 (by decide) (pc' := 405) (by decide) ?_
                                                    refine K.istore at_405 (pc' := 407) rfl (L' := #[vi p, vi x1, vi x2, vi y1, vi y2, vi zz, vi 1, vi 0, vi w, vr o_863, vr o_873, vi 1, vr w_1027, vr a_1052, vi 2, vi 2, vr w_1074]) rfl ?_
                                                    refine K.iload at_407 (pc' := 409) rfl rfl ?_
                                                    refine K.if_eq at_409 (pc1 := 412) rfl (by decide) (pc2 := 439) (by decide) (a := 1) rfl (fun c409 => ?_) (fun c409 => ?_)
                                                    · exfalso; omega
                                                    · refine K.aload at_412 (pc' := 414) rfl rfl rfl ?_
                                                      refine K.iconst at_414 (pc' := 415) rfl (z := 2) rfl ?_
                                                      refine K.iload at_415 (pc' := 417) rfl rfl ?_
                                                      refine K.icmp_ge at_417 (pc1 := 420) rfl (by decide) (pc2 := 424) (by decide) (a := 2) (b := 2) rfl rfl (fun c417 => ?_) (fun c417 => ?_)
                                                      · refine K.iconst at_424 (pc' := 425) rfl (z := 0) rfl ?_
                                                        refine K.aload at_425 (pc' := 427) rfl rfl rfl ?_
                                                        refine K.iconst at_427 (pc' := 428) rfl (z := 2) rfl ?_
                                                        have f_1125 : Ary Z h_1119 a_1052 .int [(.int x1), (.int zz), (.int (0 : Int32)), (.int (0 : Int32)), (.int (0 : Int32))] := (f_1102.keep K_1123 (ninS ne_1101 nin0))
                                                        refine K.iald at_428 (pc' := 429) rfl f_1125 (i := 2) rfl rfl ?_
                                                        refine K.calls (argsL := [(.ref w_1074), (.int (0 : Int32)), (.int (0 : Int32))]) (rest := []) at_429 (pc' := 432) rfl (c_st0 l Z a0 hw n0 h_1119 (a := w_1074) (e := (0 : Int32)) ) hw78 hw79 hw80 hw81 (by decide) pd_10 rfl rfl (W := 0) (by simp [Value.category]) (by decide) (by decide) (by decide) (by decide) (fun v_1128 h_1126 q_1127 => ?_)
                                                        obtain ⟨rfl, rfl⟩ := q_1127
                                                        show G h_1119 12 26 (mkF m 432 #[vi p, vi x1, vi x2, vi y1, vi y2, vi zz, vi 1, vi 0, vi w, vr o_863, vr o_873, vi 1, vr w_1027, vr a_1052, vi 2, vi 2, vr w_1074] [(.int (b2 (True)))])
                                                        refine K.ifeqB at_432 (pc1 := 435) rfl (by decide) (pc2 := 439) (by decide) (fun c432 => ?_) (fun c432 => ?_)
                                                        · exfalso; first | exact c432 rfl | exact c432 trivial
                                                        · refine K.iconst at_435 (pc' := 436) rfl (z := 1) rfl ?_
                                                          refine K.goto at_436 (by decide) (pc' := 440) (by decide) ?_
                                                          refine K.istore at_440 (pc' := 442) rfl (L' := #[vi p, vi x1, vi x2, vi y1, vi y2, vi zz, vi 1, vi 0, vi w, vr o_863, vr o_873, vi 1, vr w_1027, vr a_1052, vi 2, vi 2, vr w_1074]) rfl ?_
                                                          refine K.iload at_442 (pc' := 444) rfl rfl ?_
                                                          refine K.if_eq at_444 (pc1 := 447) rfl (by decide) (pc2 := 474) (by decide) (a := 1) rfl (fun c444 => ?_) (fun c444 => ?_)
                                                          · exfalso; omega
                                                          · refine K.aload at_447 (pc' := 449) rfl rfl rfl ?_
                                                            refine K.iconst at_449 (pc' := 450) rfl (z := 3) rfl ?_
                                                            refine K.iload at_450 (pc' := 452) rfl rfl ?_
                                                            refine K.icmp_ge at_452 (pc1 := 455) rfl (by decide) (pc2 := 459) (by decide) (a := 3) (b := 2) rfl rfl (fun c452 => ?_) (fun c452 => ?_)
                                                            · refine K.iconst at_459 (pc' := 460) rfl (z := 0) rfl ?_
                                                              refine K.aload at_460 (pc' := 462) rfl rfl rfl ?_
                                                              refine K.iconst at_462 (pc' := 463) rfl (z := 3) rfl ?_
                                                              refine K.iald at_463 (pc' := 464) rfl f_1125 (i := 3) rfl rfl ?_
                                                              refine K.calls (argsL := [(.ref w_1074), (.int (0 : Int32)), (.int (0 : Int32))]) (rest := []) at_464 (pc' := 467) rfl (c_st0 l Z a0 hw n0 h_1119 (a := w_1074) (e := (0 : Int32)) ) hw78 hw79 hw80 hw81 (by decide) pd_10 rfl rfl (W := 0) (by simp [Value.category]) (by decide) (by decide) (by decide) (by decide) (fun v_1132 h_1130 q_1131 => ?_)
                                                              obtain ⟨rfl, rfl⟩ := q_1131
                                                              show G h_1119 12 26 (mkF m 467 #[vi p, vi x1, vi x2, vi y1, vi y2, vi zz, vi 1, vi 0, vi w, vr o_863, vr o_873, vi 1, vr w_1027, vr a_1052, vi 2, vi 2, vr w_1074] [(.int (b2 (True)))])
                                                              refine K.ifeqB at_467 (pc1 := 470) rfl (by decide) (pc2 := 474) (by decide) (fun c467 => ?_) (fun c467 => ?_)
                                                              · exfalso; first | exact c467 rfl | exact c467 trivial
                                                              · refine K.iconst at_470 (pc' := 471) rfl (z := 1) rfl ?_
                                                                refine K.goto at_471 (by decide) (pc' := 475) (by decide) ?_
                                                                refine K.istore at_475 (pc' := 477) rfl (L' := #[vi p, vi x1, vi x2, vi y1, vi y2, vi zz, vi 1, vi 0, vi w, vr o_863, vr o_873, vi 1, vr w_1027, vr a_1052, vi 2, vi 2, vr w_1074]) rfl ?_
                                                                refine K.iload at_477 (pc' := 479) rfl rfl ?_
                                                                refine K.if_eq at_479 (pc1 := 482) rfl (by decide) (pc2 := 509) (by decide) (a := 1) rfl (fun c479 => ?_) (fun c479 => ?_)
                                                                · exfalso; omega
                                                                · refine K.aload at_482 (pc' := 484) rfl rfl rfl ?_
                                                                  refine K.iconst at_484 (pc' := 485) rfl (z := 4) rfl ?_
                                                                  refine K.iload at_485 (pc' := 487) rfl rfl ?_
                                                                  refine K.icmp_ge at_487 (pc1 := 490) rfl (by decide) (pc2 := 494) (by decide) (a := 4) (b := 2) rfl rfl (fun c487 => ?_) (fun c487 => ?_)
                                                                  · refine K.iconst at_494 (pc' := 495) rfl (z := 0) rfl ?_
                                                                    refine K.aload at_495 (pc' := 497) rfl rfl rfl ?_
                                                                    refine K.iconst at_497 (pc' := 498) rfl (z := 4) rfl ?_
                                                                    refine K.iald at_498 (pc' := 499) rfl f_1125 (i := 4) rfl rfl ?_
                                                                    refine K.calls (argsL := [(.ref w_1074), (.int (0 : Int32)), (.int (0 : Int32))]) (rest := []) at_499 (pc' := 502) rfl (c_st0 l Z a0 hw n0 h_1119 (a := w_1074) (e := (0 : Int32)) ) hw78 hw79 hw80 hw81 (by decide) pd_10 rfl rfl (W := 0) (by simp [Value.category]) (by decide) (by decide) (by decide) (by decide) (fun v_1136 h_1134 q_1135 => ?_)
                                                                    obtain ⟨rfl, rfl⟩ := q_1135
                                                                    show G h_1119 12 26 (mkF m 502 #[vi p, vi x1, vi x2, vi y1, vi y2, vi zz, vi 1, vi 0, vi w, vr o_863, vr o_873, vi 1, vr w_1027, vr a_1052, vi 2, vi 2, vr w_1074] [(.int (b2 (True)))])
                                                                    refine K.ifeqB at_502 (pc1 := 505) rfl (by decide) (pc2 := 509) (by decide) (fun c502 => ?_) (fun c502 => ?_)
                                                                    · exfalso; first | exact c502 rfl | exact c502 trivial
                                                                    · refine K.iconst at_505 (pc' := 506) rfl (z := 1) rfl ?_
                                                                      refine K.goto at_506 (by decide) (pc' := 510) (by decide) ?_
                                                                      refine K.istore at_510 (pc' := 512) rfl (L' := #[vi p, vi x1, vi x2, vi y1, vi y2, vi zz, vi 1, vi 0, vi w, vr o_863, vr o_873, vi 1, vr w_1027, vr a_1052, vi 2, vi 2, vr w_1074]) rfl ?_
                                                                      refine K.iload at_512 (pc' := 514) rfl rfl ?_
                                                                      refine K.if_eq at_514 (pc1 := 517) rfl (by decide) (pc2 := 531) (by decide) (a := 1) rfl (fun c514 => ?_) (fun c514 => ?_)
                                                                      · exfalso; omega
                                                                      · refine K.aload at_517 (pc' := 519) rfl rfl rfl ?_
                                                                        have f_1138 : Exa Z h_1119 w_1074 sI := (f_1116.keep K_1123)
                                                                        refine K.calli (z := (⟨sI, "hasNext", "()Z"⟩ : MethodName)) (argsL := []) (rest := []) at_519 (pc' := 524) rfl (c_has0 l Z a0 hw n0 h_1119 (a := w_1074) f_1138 f_1124) f_1138 hw46 hw47 hw48 rfl hw49 hw50 hw51 hw52 hw53 hw36 hw54 (by decide) pd_4 rfl rfl (W := 0) (by simp [Value.category]) (by decide) (by decide) (by decide) (by decide) (fun v_1141 h_1139 q_1140 => ?_)
                                                                        obtain ⟨rfl, rfl⟩ := q_1140
                                                                        show G h_1119 12 26 (mkF m 524 #[vi p, vi x1, vi x2, vi y1, vi y2, vi zz, vi 1, vi 0, vi w, vr o_863, vr o_873, vi 1, vr w_1027, vr a_1052, vi 2, vi 2, vr w_1074] [(.int (b2 (False)))])
                                                                        refine K.ifneB at_524 (pc1 := 527) rfl (by decide) (pc2 := 531) (by decide) (fun c524 => ?_) (fun c524 => ?_)
                                                                        · exfalso; exact c524
                                                                        · refine K.iconst at_527 (pc' := 528) rfl (z := 1) rfl ?_
                                                                          refine K.goto at_528 (by decide) (pc' := 532) (by decide) ?_
                                                                          exact K.retz at_532 (Or.inr rfl) (by decide) (by decide) rfl
                                                                  · exfalso; omega
                                                            · exfalso; omega
                                                      · exfalso; omega
                                      · exfalso; omega
                                    · exfalso; omega
                                  · exfalso; omega
            · exfalso; omega
          · exfalso; omega
        · exfalso; omega
    · refine K.iload at_16 (pc' := 18) rfl rfl ?_
      refine K.iconst at_18 (pc' := 19) rfl (z := -1) rfl ?_
      obtain ⟨w, e_w⟩ : ∃ z, zz ^^^ (-1 : Int32) = z := ⟨_, rfl⟩
      refine K.ixor at_19 (pc' := 20) rfl e_w ?_
      refine K.istore at_20 (pc' := 22) rfl (L' := #[vi p, vi x1, vi x2, vi y1, vi y2, vi zz, vi 1, vi 1, vi w, .unset, .unset, .unset, .unset, .unset, .unset, .unset, .unset]) rfl ?_
      refine K.newo at_22 (pc' := 25) rfl hw1 hw2 hw3 (by decide) (by decide) (fun h_1144 o_1143 g_o_1143 E_1145 x_o_1143 D_o_1143 => ?_)
      have ge_o_1143 : n0 ≤ o_1143 := g_o_1143 ▸ Z0
      have f_1146 : Fld Z h_1144 o_1143 sC "first" dL .null := D_o_1143 (Or.inl hw21) (ty := (.object sL)) (by decide)
      have f_1147 : Fld Z h_1144 o_1143 sC "size" "I" (.int (0 : Int32)) := D_o_1143 (Or.inl hw28) (ty := .int) (by decide)
      have f_1148 : Fld Z h_1144 o_1143 sC "last" dL .null := D_o_1143 (Or.inl hw77) (ty := (.object sL)) (by decide)
      refine K.dup at_25 (pc' := 26) rfl rfl ?_
      refine K.callc (argsL := []) (rest := [(.ref o_1143)]) at_26 (pc' := 29) rfl rfl (c_chn l Z a0 hw n0 h_1144 (a := o_1143) ) hw4 hw5 hw3 hw6 (by decide) pd_0 rfl rfl (W := 1) (by simp [Value.category]) (by decide) (by decide) (by decide) (by decide) (fun v_1151 h_1149 q_1150 => ?_)
      obtain ⟨rfl, rfl⟩ := q_1150
      show G h_1144 1 3 (mkF m 29 #[vi p, vi x1, vi x2, vi y1, vi y2, vi zz, vi 1, vi 1, vi w, .unset, .unset, .unset, .unset, .unset, .unset, .unset, .unset] [(.ref o_1143)])
      refine K.astore at_29 (pc' := 31) rfl rfl (L' := #[vi p, vi x1, vi x2, vi y1, vi y2, vi zz, vi 1, vi 1, vi w, vr o_1143, .unset, .unset, .unset, .unset, .unset, .unset, .unset]) rfl ?_
      refine K.newo at_31 (pc' := 34) rfl hw1 hw2 hw3 (by decide) (by decide) (fun h_1154 o_1153 g_o_1153 E_1155 x_o_1153 D_o_1153 => ?_)
      have sz_1156 : n0 ≤ h_1144.size := Nat.le_trans Z0 E_1145.1
      have ge_o_1153 : n0 ≤ o_1153 := g_o_1153 ▸ sz_1156
      have f_1157 : Fld Z h_1154 o_1153 sC "first" dL .null := D_o_1153 (Or.inl hw21) (ty := (.object sL)) (by decide)
      have f_1158 : Fld Z h_1154 o_1153 sC "size" "I" (.int (0 : Int32)) := D_o_1153 (Or.inl hw28) (ty := .int) (by decide)
      have f_1159 : Fld Z h_1154 o_1153 sC "last" dL .null := D_o_1153 (Or.inl hw77) (ty := (.object sL)) (by decide)
      refine K.dup at_34 (pc' := 35) rfl rfl ?_
      refine K.callc (argsL := []) (rest := [(.ref o_1153)]) at_35 (pc' := 38) rfl rfl (c_chn l Z a0 hw n0 h_1154 (a := o_1153) ) hw4 hw5 hw3 hw6 (by decide) pd_0 rfl rfl (W := 1) (by simp [Value.category]) (by decide) (by decide) (by decide) (by decide) (fun v_1162 h_1160 q_1161 => ?_)
      obtain ⟨rfl, rfl⟩ := q_1161
      show G h_1154 2 6 (mkF m 38 #[vi p, vi x1, vi x2, vi y1, vi y2, vi zz, vi 1, vi 1, vi w, vr o_1143, .unset, .unset, .unset, .unset, .unset, .unset, .unset] [(.ref o_1153)])
      refine K.astore at_38 (pc' := 40) rfl rfl (L' := #[vi p, vi x1, vi x2, vi y1, vi y2, vi zz, vi 1, vi 1, vi w, vr o_1143, vr o_1153, .unset, .unset, .unset, .unset, .unset, .unset]) rfl ?_
      refine K.iload at_40 (pc' := 42) rfl rfl ?_
      refine K.if_le at_42 (pc1 := 45) rfl (by decide) (pc2 := 55) (by decide) (a := 1) rfl (fun c42 => ?_) (fun c42 => ?_)
      · exfalso; omega
      · refine K.aload at_45 (pc' := 47) rfl rfl rfl ?_
        refine K.iloadN at_47 (pc' := 48) rfl rfl ?_
        have sz_1164 : n0 ≤ h_1154.size := Nat.le_trans sz_1156 E_1155.1
        have f_1165 : Old Z n0 h_1154 := ((P2.ext E_1145).ext E_1155)
        refine K.calls (argsL := [(.int x1)]) (rest := [(.ref o_1143)]) at_48 (pc' := 51) rfl (c_val l Z a0 hw n0 h_1154 (p := x1) (ca := ca) (cc := cc) sz_1164 f_1165 P3 P4 hbx) hw55 hw56 hw57 hw58 (by decide) pd_8 rfl rfl (W := 1) (by simp [Value.category]) (by decide) (by decide) (by decide) (by decide) (fun v_1168 h_1166 q_1167 => ?_)
        obtain ⟨w_1169, rfl, K_1170, f_1171, f_1172, f_1173⟩ := q_1167
        show G h_1166 3 7 (mkF m 51 #[vi p, vi x1, vi x2, vi y1, vi y2, vi zz, vi 1, vi 1, vi w, vr o_1143, vr o_1153, .unset, .unset, .unset, .unset, .unset, .unset] [(.ref w_1169), (.ref o_1143)])
        have f_1174 : Exa Z h_1166 o_1143 sC := ((x_o_1143.ext E_1155).keep K_1170)
        have f_1175 : Fld Z h_1166 o_1143 sC "last" dL .null := ((f_1148.ext E_1155).keep K_1170 nin0)
        have f_1176 : Fld Z h_1166 o_1143 sC "size" "I" (.int (0 : Int32)) := ((f_1147.ext E_1155).keep K_1170 nin0)
        have sz_1177 : n0 ≤ h_1166.size := Nat.le_trans sz_1164 K_1170.1
        have f_1178 : Fld Z h_1166 o_1143 sC "first" dL .null := ((f_1146.ext E_1155).keep K_1170 nin0)
        refine K.callv (z := (⟨sC, "add", "(Ljava/lang/Object;)Z"⟩ : MethodName)) (argsL := [(.ref w_1169)]) (rest := []) at_51 (pc' := 54) rfl (c_add0 l Z a0 hw n0 h_1166 (a := o_1143) (e := w_1169) (n := (0 : Int32)) sz_1177 f_1174 ge_o_1143 f_1178 f_1175 f_1176 (by first | decide | omega)) f_1174 hw62 hw63 (nf_sel hw65 rfl) hw65 hw64 hw3 hw66 (by decide) pd_9 rfl rfl (W := 0) (by simp [Value.category]) (by decide) (by decide) (by decide) (by decide) (fun v_1181 h_1179 q_1180 => ?_)
        obtain ⟨lk_1183, n1_1184, rfl, K_1185, hn1_w_1182, f_1186, f_1187, f_1188, f_1189, f_1190, f_1191, f_1192, f_1193⟩ := q_1180
        show G h_1179 4 9 (mkF m 54 #[vi p, vi x1, vi x2, vi y1, vi y2, vi zz, vi 1, vi 1, vi w, vr o_1143, vr o_1153, .unset, .unset, .unset, .unset, .unset, .unset] [(.int (b2 (True)))])
        refine K.pop at_54 (pc' := 55) rfl rfl ?_
        refine K.iload at_55 (pc' := 57) rfl rfl ?_
        refine K.iconst at_57 (pc' := 58) rfl (z := 1) rfl ?_
        refine K.icmp_le at_58 (pc1 := 61) rfl (by decide) (pc2 := 71) (by decide) (a := 1) (b := 1) rfl rfl (fun c58 => ?_) (fun c58 => ?_)
        · refine K.iload at_71 (pc' := 73) rfl rfl ?_
          refine K.if_le at_73 (pc1 := 76) rfl (by decide) (pc2 := 86) (by decide) (a := 1) rfl (fun c73 => ?_) (fun c73 => ?_)
          · exfalso; omega
          · refine K.aload at_76 (pc' := 78) rfl rfl rfl ?_
            refine K.iloadN at_78 (pc' := 79) rfl rfl ?_
            have sz_1194 : n0 ≤ h_1179.size := Nat.le_trans sz_1177 K_1185.1
            have f_1195 : Old Z n0 h_1179 := ((f_1165.keep K_1170 all0).keep K_1185 (allS ge_o_1143 all0))
            refine K.calls (argsL := [(.int y1)]) (rest := [(.ref o_1153)]) at_79 (pc' := 82) rfl (c_val l Z a0 hw n0 h_1179 (p := y1) (ca := ca) (cc := cc) sz_1194 f_1195 P3 P4 hbx) hw55 hw56 hw57 hw58 (by decide) pd_8 rfl rfl (W := 1) (by simp [Value.category]) (by decide) (by decide) (by decide) (by decide) (fun v_1198 h_1196 q_1197 => ?_)
            obtain ⟨w_1199, rfl, K_1200, f_1201, f_1202, f_1203⟩ := q_1197
            show G h_1196 5 10 (mkF m 82 #[vi p, vi x1, vi x2, vi y1, vi y2, vi zz, vi 1, vi 1, vi w, vr o_1143, vr o_1153, .unset, .unset, .unset, .unset, .unset, .unset] [(.ref w_1199), (.ref o_1153)])
            have f_1204 : Exa Z h_1196 o_1153 sC := (((x_o_1153.keep K_1170).keep K_1185).keep K_1200)
            have ne_1205 : o_1153 ≠ o_1143 := (Ne.symm (Nat.ne_of_lt (Nat.lt_of_lt_of_le x_o_1143.lt (Nat.le_trans (Nat.le_refl _) (Nat.le_of_eq g_o_1153.symm)))))
            have f_1206 : Fld Z h_1196 o_1153 sC "last" dL .null := (((f_1159.keep K_1170 nin0).keep K_1185 (ninS ne_1205 nin0)).keep K_1200 nin0)
            have f_1207 : Fld Z h_1196 o_1153 sC "size" "I" (.int (0 : Int32)) := (((f_1158.keep K_1170 nin0).keep K_1185 (ninS ne_1205 nin0)).keep K_1200 nin0)
            have sz_1208 : n0 ≤ h_1196.size := Nat.le_trans sz_1194 K_1200.1
            have f_1209 : Fld Z h_1196 o_1153 sC "first" dL .null := (((f_1157.keep K_1170 nin0).keep K_1185 (ninS ne_1205 nin0)).keep K_1200 nin0)
            refine K.callv (z := (⟨sC, "add", "(Ljava/lang/Object;)Z"⟩ : MethodName)) (argsL := [(.ref w_1199)]) (rest := []) at_82 (pc' := 85) rfl (c_add0 l Z a0 hw n0 h_1196 (a := o_1153) (e := w_1199) (n := (0 : Int32)) sz_1208 f_1204 ge_o_1153 f_1209 f_1206 f_1207 (by first | decide | omega)) f_1204 hw62 hw63 (nf_sel hw65 rfl) hw65 hw64 hw3 hw66 (by decide) pd_9 rfl rfl (W := 0) (by simp [Value.category]) (by decide) (by decide) (by decide) (by decide) (fun v_1212 h_1210 q_1211 => ?_)
            obtain ⟨lk_1214, n1_1215, rfl, K_1216, hn1_w_1213, f_1217, f_1218, f_1219, f_1220, f_1221, f_1222, f_1223, f_1224⟩ := q_1211
            show G h_1210 6 12 (mkF m 85 #[vi p, vi x1, vi x2, vi y1, vi y2, vi zz, vi 1, vi 1, vi w, vr o_1143, vr o_1153, .unset, .unset, .unset, .unset, .unset, .unset] [(.int (b2 (True)))])
            refine K.pop at_85 (pc' := 86) rfl rfl ?_
            refine K.iload at_86 (pc' := 88) rfl rfl ?_
            refine K.iconst at_88 (pc' := 89) rfl (z := 1) rfl ?_
            refine K.icmp_le at_89 (pc1 := 92) rfl (by decide) (pc2 := 103) (by decide) (a := 1) (b := 1) rfl rfl (fun c89 => ?_) (fun c89 => ?_)
            · refine K.aload at_103 (pc' := 105) rfl rfl rfl ?_
              refine K.aload at_105 (pc' := 107) rfl rfl rfl ?_
              have f_1225 : Exa Z h_1210 o_1143 sC := (((f_1174.keep K_1185).keep K_1200).keep K_1216)
              have f_1226 : Fld Z h_1210 o_1143 sC "last" dL (.ref lk_1183) := ((f_1192.keep K_1200 nin0).keep K_1216 (ninS (Ne.symm ne_1205) nin0))
              have f_1227 : Fld Z h_1210 o_1143 sC "first" dL (.ref lk_1183) := ((f_1191.keep K_1200 nin0).keep K_1216 (ninS (Ne.symm ne_1205) nin0))
              have f_1228 : Fld Z h_1210 o_1143 sC "size" "I" (.int n1_1184) := ((f_1193.keep K_1200 nin0).keep K_1216 (ninS (Ne.symm ne_1205) nin0))
              have ne_1229 : lk_1183 ≠ o_1153 := (Ne.symm (Nat.ne_of_lt (Nat.lt_of_lt_of_le x_o_1153.lt (Nat.le_trans K_1170.1 f_1186))))
              have f_1230 : Fld Z h_1210 lk_1183 sL "element" "Ljava/lang/Object;" (.ref w_1169) := ((f_1189.keep K_1200 nin0).keep K_1216 (ninS ne_1229 nin0))
              have f_1231 : Exa Z h_1210 o_1153 sC := (f_1204.keep K_1216)
              have f_1232 : Exa Z h_1210 lk_1183 sL := ((f_1188.keep K_1200).keep K_1216)
              have ne_1233 : lk_1183 ≠ o_1143 := (Ne.symm (Nat.ne_of_lt (Nat.lt_of_lt_of_le x_o_1143.lt (Nat.le_trans (Nat.le_trans E_1155.1 K_1170.1) f_1186))))
              have f_1234 : Fld Z h_1210 lk_1183 sL "next" dL .null := ((f_1190.keep K_1200 nin0).keep K_1216 (ninS ne_1229 nin0))
              refine K.callv (z := (⟨sC, "moveAll", "(Lcom/example/quadrille/quadrille/formats/Chain;)V"⟩ : MethodName)) (argsL := [(.ref o_1153)]) (rest := []) at_107 (pc' := 110) rfl (c_mv1 l Z a0 hw n0 h_1210 (a := o_1143) (b := o_1153) (n := n1_1184) (k := n1_1215) (f0 := lk_1183) (t := lk_1183) (te := w_1169) (f1 := lk_1214) (l1 := lk_1214) f_1225 ge_o_1143 f_1231 ge_o_1153 (Ne.symm ne_1205) f_1232 f_1187 ne_1233 ne_1229 f_1234 f_1230 f_1227 f_1226 f_1228 f_1222 f_1223 f_1224 (by omega) (by omega)) f_1225 hw15 hw16 (nf_sel hw18 rfl) hw18 hw17 hw3 hw19 (by decide) pd_3 rfl rfl (W := 0) (by simp [Value.category]) (by decide) (by decide) (by decide) (by decide) (fun v_1237 h_1235 q_1236 => ?_)
              obtain ⟨n1_1239, rfl, K_1240, hn1_w_1238, f_1241, f_1242, f_1243, f_1244, f_1245, f_1246, f_1247, f_1248⟩ := q_1236
              show G h_1235 6 12 (mkF m 110 #[vi p, vi x1, vi x2, vi y1, vi y2, vi zz, vi 1, vi 1, vi w, vr o_1143, vr o_1153, .unset, .unset, .unset, .unset, .unset, .unset] [])
              refine K.aload at_110 (pc' := 112) rfl rfl rfl ?_
              have f_1249 : Exa Z h_1235 o_1143 sC := (f_1225.keep K_1240)
              refine K.callv (z := (⟨sC, "size", "()I"⟩ : MethodName)) (argsL := []) (rest := []) at_112 (pc' := 115) rfl (c_size l Z a0 hw n0 h_1235 (a := o_1143) (n := n1_1239) f_1249 f_1245) f_1249 hw22 hw23 (nf_sel hw25 rfl) hw25 hw24 hw3 hw26 (by decide) pd_6 rfl rfl (W := 0) (by simp [Value.category]) (by decide) (by decide) (by decide) (by decide) (fun v_1252 h_1250 q_1251 => ?_)
              obtain ⟨rfl, rfl⟩ := q_1251
              show G h_1235 6 12 (mkF m 115 #[vi p, vi x1, vi x2, vi y1, vi y2, vi zz, vi 1, vi 1, vi w, vr o_1143, vr o_1153, .unset, .unset, .unset, .unset, .unset, .unset] [(.int n1_1239)])
              refine K.iload at_115 (pc' := 117) rfl rfl ?_
              refine K.iload at_117 (pc' := 119) rfl rfl ?_
              refine K.iadd at_119 (pc' := 120) rfl (z := (2 : Int32)) (by decide) ?_
              refine K.icmp_ne at_120 (pc1 := 123) rfl (by decide) (pc2 := 148) (by decide) (a := n1_1239.toInt) (b := 2) rfl rfl (fun c120 => ?_) (fun c120 => ?_)
              · exfalso; have o0 : (0 : Int32).toInt = 0 := rfl; have o1 : (1 : Int32).toInt = 1 := rfl; have o2 : (2 : Int32).toInt = 2 := rfl; omega
              · refine K.aload at_123 (pc' := 125) rfl rfl rfl ?_
                have f_1254 : Exa Z h_1235 o_1153 sC := (f_1231.keep K_1240)
                refine K.callv (z := (⟨sC, "size", "()I"⟩ : MethodName)) (argsL := []) (rest := []) at_125 (pc' := 128) rfl (c_size l Z a0 hw n0 h_1235 (a := o_1153) (n := (0 : Int32)) f_1254 f_1248) f_1254 hw22 hw23 (nf_sel hw25 rfl) hw25 hw24 hw3 hw26 (by decide) pd_6 rfl rfl (W := 0) (by simp [Value.category]) (by decide) (by decide) (by decide) (by decide) (fun v_1257 h_1255 q_1256 => ?_)
                obtain ⟨rfl, rfl⟩ := q_1256
                show G h_1235 6 12 (mkF m 128 #[vi p, vi x1, vi x2, vi y1, vi y2, vi zz, vi 1, vi 1, vi w, vr o_1143, vr o_1153, .unset, .unset, .unset, .unset, .unset, .unset] [(.int (0 : Int32))])
                refine K.if_ne at_128 (pc1 := 131) rfl (by decide) (pc2 := 148) (by decide) (a := 0) rfl (fun c128 => ?_) (fun c128 => ?_)
                · exfalso; have o0 : (0 : Int32).toInt = 0 := rfl; have o1 : (1 : Int32).toInt = 1 := rfl; have o2 : (2 : Int32).toInt = 2 := rfl; omega
                · refine K.aload at_131 (pc' := 133) rfl rfl rfl ?_
                  have sz_1259 : n0 ≤ h_1235.size := Nat.le_trans sz_1208 (Nat.le_trans K_1216.1 K_1240.1)
                  refine K.callv (z := (⟨sC, "iterator", "()Ljava/util/Iterator;"⟩ : MethodName)) (argsL := []) (rest := []) at_133 (pc' := 136) rfl (c_it0 l Z a0 hw n0 h_1235 (b := o_1153) sz_1259 f_1254 f_1246) f_1254 hw29 hw30 (nf_sel hw32 rfl) hw32 hw31 hw3 hw33 (by decide) pd_7 rfl rfl (W := 0) (by simp [Value.category]) (by decide) (by decide) (by decide) (by decide) (fun v_1262 h_1260 q_1261 => ?_)
                  obtain ⟨w_1263, rfl, K_1264, f_1265, f_1266, f_1267, f_1268⟩ := q_1261
                  show G h_1260 7 14 (mkF m 136 #[vi p, vi x1, vi x2, vi y1, vi y2, vi zz, vi 1, vi 1, vi w, vr o_1143, vr o_1153, .unset, .unset, .unset, .unset, .unset, .unset] [(.ref w_1263)])
                  refine K.calli (z := (⟨sI, "hasNext", "()Z"⟩ : MethodName)) (argsL := []) (rest := []) at_136 (pc' := 141) rfl (c_has0 l Z a0 hw n0 h_1260 (a := w_1263) f_1267 f_1268) f_1267 hw46 hw47 hw48 rfl hw49 hw50 hw51 hw52 hw53 hw36 hw54 (by decide) pd_4 rfl rfl (W := 0) (by simp [Value.category]) (by decide) (by decide) (by decide) (by decide) (fun v_1271 h_1269 q_1270 => ?_)
                  obtain ⟨rfl, rfl⟩ := q_1270
                  show G h_1260 7 14 (mkF m 141 #[vi p, vi x1, vi x2, vi y1, vi y2, vi zz, vi 1, vi 1, vi w, vr o_1143, vr o_1153, .unset, .unset, .unset, .unset, .unset, .unset] [(.int (b2 (False)))])
                  refine K.ifneB at_141 (pc1 := 144) rfl (by decide) (pc2 := 148) (by decide) (fun c141 => ?_) (fun c141 => ?_)
                  · exfalso; exact c141
                  · refine K.iconst at_144 (pc' := 145) rfl (z := 1) rfl ?_
                    refine K.goto at_145 (by decide) (pc' := 149) (by decide) ?_
                    refine K.istore at_149 (pc' := 151) rfl (L' := #[vi p, vi x1, vi x2, vi y1, vi y2, vi zz, vi 1, vi 1, vi w, vr o_1143, vr o_1153, vi 1, .unset, .unset, .unset, .unset, .unset]) rfl ?_
                    refine K.aload at_151 (pc' := 153) rfl rfl rfl ?_
                    refine K.iload at_153 (pc' := 155) rfl rfl ?_
                    have sz_1273 : n0 ≤ h_1260.size := Nat.le_trans sz_1259 K_1264.1
                    have f_1274 : Old Z n0 h_1260 := ((((f_1195.keep K_1200 all0).keep K_1216 (allS ge_o_1153 all0)).keep K_1240 (allS ge_o_1143 (allS ge_o_1153 (allS f_1187 all0)))).keep K_1264 all0)
                    refine K.calls (argsL := [(.int zz)]) (rest := [(.ref o_1143)]) at_155 (pc' := 158) rfl (c_val l Z a0 hw n0 h_1260 (p := zz) (ca := ca) (cc := cc) sz_1273 f_1274 P3 P4 hbx) hw55 hw56 hw57 hw58 (by decide) pd_8 rfl rfl (W := 1) (by simp [Value.category]) (by decide) (by decide) (by decide) (by decide) (fun v_1277 h_1275 q_1276 => ?_)
                    obtain ⟨w_1278, rfl, K_1279, f_1280, f_1281, f_1282⟩ := q_1276
                    show G h_1275 8 15 (mkF m 158 #[vi p, vi x1, vi x2, vi y1, vi y2, vi zz, vi 1, vi 1, vi w, vr o_1143, vr o_1153, vi 1, .unset, .unset, .unset, .unset, .unset] [(.ref w_1278), (.ref o_1143)])
                    have f_1283 : Exa Z h_1275 o_1143 sC := ((f_1249.keep K_1264).keep K_1279)
                    have f_1284 : Fld Z h_1275 o_1143 sC "last" dL (.ref lk_1214) := ((f_1244.keep K_1264 nin0).keep K_1279 nin0)
                    have f_1285 : Fld Z h_1275 o_1143 sC "first" dL (.ref lk_1183) := ((f_1243.keep K_1264 nin0).keep K_1279 nin0)
                    have f_1286 : Fld Z h_1275 o_1143 sC "size" "I" (.int n1_1239) := ((f_1245.keep K_1264 nin0).keep K_1279 nin0)
                    have ne_1287 : lk_1214 ≠ lk_1183 := (Ne.symm (Nat.ne_of_lt (Nat.lt_of_lt_of_le f_1188.lt (Nat.le_trans K_1200.1 f_1217))))
                    have ne_1288 : lk_1214 ≠ o_1153 := (Ne.symm (Nat.ne_of_lt (Nat.lt_of_lt_of_le x_o_1153.lt (Nat.le_trans (Nat.le_trans K_1170.1 (Nat.le_trans K_1185.1 K_1200.1)) f_1217))))
                    have ne_1289 : lk_1214 ≠ o_1143 := (Ne.symm (Nat.ne_of_lt (Nat.lt_of_lt_of_le x_o_1143.lt (Nat.le_trans (Nat.le_trans E_1155.1 (Nat.le_trans K_1170.1 (Nat.le_trans K_1185.1 K_1200.1))) f_1217))))
                    have f_1290 : Fld Z h_1275 lk_1214 sL "element" "Ljava/lang/Object;" (.ref w_1199) := (((f_1220.keep K_1240 (ninS ne_1289 (ninS ne_1288 (ninS ne_1287 nin0)))).keep K_1264 nin0).keep K_1279 nin0)
                    have sz_1291 : n0 ≤ h_1275.size := Nat.le_trans sz_1273 K_1279.1
                    have f_1292 : Exa Z h_1275 lk_1214 sL := (((f_1219.keep K_1240).keep K_1264).keep K_1279)
                    have f_1293 : Fld Z h_1275 lk_1214 sL "next" dL .null := (((f_1221.keep K_1240 (ninS ne_1289 (ninS ne_1288 (ninS ne_1287 nin0)))).keep K_1264 nin0).keep K_1279 nin0)
                    refine K.callv (z := (⟨sC, "add", "(Ljava/lang/Object;)Z"⟩ : MethodName)) (argsL := [(.ref w_1278)]) (rest := []) at_158 (pc' := 161) rfl (c_add1 l Z a0 hw n0 h_1275 (a := o_1143) (e := w_1278) (n := n1_1239) (f0 := lk_1183) (t := lk_1214) (te := w_1199) sz_1291 f_1283 ge_o_1143 f_1292 f_1218 ne_1289 f_1293 f_1290 f_1285 f_1284 f_1286 (by omega)) f_1283 hw62 hw63 (nf_sel hw65 rfl) hw65 hw64 hw3 hw66 (by decide) pd_9 rfl rfl (W := 0) (by simp [Value.category]) (by decide) (by decide) (by decide) (by decide) (fun v_1296 h_1294 q_1295 => ?_)
                    obtain ⟨lk_1298, n1_1299, rfl, K_1300, hn1_w_1297, f_1301, f_1302, f_1303, f_1304, f_1305, f_1306, f_1307, f_1308, f_1309, f_1310⟩ := q_1295
                    show G h_1294 9 17 (mkF m 161 #[vi p, vi x1, vi x2, vi y1, vi y2, vi zz, vi 1, vi 1, vi w, vr o_1143, vr o_1153, vi 1, .unset, .unset, .unset, .unset, .unset] [(.int (b2 (True)))])
                    refine K.pop at_161 (pc' := 162) rfl rfl ?_
                    refine K.aload at_162 (pc' := 164) rfl rfl rfl ?_
                    refine K.iload at_164 (pc' := 166) rfl rfl ?_
                    have sz_1311 : n0 ≤ h_1294.size := Nat.le_trans sz_1291 K_1300.1
                    have f_1312 : Old Z n0 h_1294 := ((f_1274.keep K_1279 all0).keep K_1300 (allS ge_o_1143 (allS f_1218 all0)))
                    refine K.calls (argsL := [(.int w)]) (rest := [(.ref o_1153)]) at_166 (pc' := 169) rfl (c_val l Z a0 hw n0 h_1294 (p := w) (ca := ca) (cc := cc) sz_1311 f_1312 P3 P4 hbx) hw55 hw56 hw57 hw58 (by decide) pd_8 rfl rfl (W := 1) (by simp [Value.category]) (by decide) (by decide) (by decide) (by decide) (fun v_1315 h_1313 q_1314 => ?_)
                    obtain ⟨w_1316, rfl, K_1317, f_1318, f_1319, f_1320⟩ := q_1314
                    show G h_1313 10 18 (mkF m 169 #[vi p, vi x1, vi x2, vi y1, vi y2, vi zz, vi 1, vi 1, vi w, vr o_1143, vr o_1153, vi 1, .unset, .unset, .unset, .unset, .unset] [(.ref w_1316), (.ref o_1153)])
                    have f_1321 : Exa Z h_1313 o_1153 sC := ((((f_1254.keep K_1264).keep K_1279).keep K_1300).keep K_1317)
                    have f_1322 : Fld Z h_1313 o_1153 sC "last" dL .null := ((((f_1247.keep K_1264 nin0).keep K_1279 nin0).keep K_1300 (ninS ne_1205 (ninS (Ne.symm ne_1288) nin0))).keep K_1317 nin0)
                    have f_1323 : Fld Z h_1313 o_1153 sC "size" "I" (.int (0 : Int32)) := ((((f_1248.keep K_1264 nin0).keep K_1279 nin0).keep K_1300 (ninS ne_1205 (ninS (Ne.symm ne_1288) nin0))).keep K_1317 nin0)
                    have sz_1324 : n0 ≤ h_1313.size := Nat.le_trans sz_1311 K_1317.1
                    have f_1325 : Fld Z h_1313 o_1153 sC "first" dL .null := ((((f_1246.keep K_1264 nin0).keep K_1279 nin0).keep K_1300 (ninS ne_1205 (ninS (Ne.symm ne_1288) nin0))).keep K_1317 nin0)
                    refine K.callv (z := (⟨sC, "add", "(Ljava/lang/Object;)Z"⟩ : MethodName)) (argsL := [(.ref w_1316)]) (rest := []) at_169 (pc' := 172) rfl (c_add0 l Z a0 hw n0 h_1313 (a := o_1153) (e := w_1316) (n := (0 : Int32)) sz_1324 f_1321 ge_o_1153 f_1325 f_1322 f_1323 (by first | decide | omega)) f_1321 hw62 hw63 (nf_sel hw65 rfl) hw65 hw64 hw3 hw66 (by decide) pd_9 rfl rfl (W := 0) (by simp [Value.category]) (by decide) (by decide) (by decide) (by decide) (fun v_1328 h_1326 q_1327 => ?_)
                    obtain ⟨lk_1330, n1_1331, rfl, K_1332, hn1_w_1329, f_1333, f_1334, f_1335, f_1336, f_1337, f_1338, f_1339, f_1340⟩ := q_1327
                    show G h_1326 11 20 (mkF m 172 #[vi p, vi x1, vi x2, vi y1, vi y2, vi zz, vi 1, vi 1, vi w, vr o_1143, vr o_1153, vi 1, .unset, .unset, .unset, .unset, .unset] [(.int (b2 (True)))])
                    refine K.pop at_172 (pc' := 173) rfl rfl ?_
                    refine K.iload at_173 (pc' := 175) rfl rfl ?_
                    refine K.if_eq at_175 (pc1 := 178) rfl (by decide) (pc2 := 206) (by decide) (a := 1) rfl (fun c175 => ?_) (fun c175 => ?_)
                    · exfalso; omega
                    · refine K.aload at_178 (pc' := 180) rfl rfl rfl ?_
                      have f_1341 : Exa Z h_1326 o_1143 sC := (((f_1283.keep K_1300).keep K_1317).keep K_1332)
                      have f_1342 : Fld Z h_1326 o_1143 sC "size" "I" (.int n1_1299) := ((f_1310.keep K_1317 nin0).keep K_1332 (ninS (Ne.symm ne_1205) nin0))
                      refine K.callv (z := (⟨sC, "size", "()I"⟩ : MethodName)) (argsL := []) (rest := []) at_180 (pc' := 183) rfl (c_size l Z a0 hw n0 h_1326 (a := o_1143) (n := n1_1299) f_1341 f_1342) f_1341 hw22 hw23 (nf_sel hw25 rfl) hw25 hw24 hw3 hw26 (by decide) pd_6 rfl rfl (W := 0) (by simp [Value.category]) (by decide) (by decide) (by decide) (by decide) (fun v_1345 h_1343 q_1344 => ?_)
                      obtain ⟨rfl, rfl⟩ := q_1344
                      show G h_1326 11 20 (mkF m 183 #[vi p, vi x1, vi x2, vi y1, vi y2, vi zz, vi 1, vi 1, vi w, vr o_1143, vr o_1153, vi 1, .unset, .unset, .unset, .unset, .unset] [(.int n1_1299)])
                      refine K.iload at_183 (pc' := 185) rfl rfl ?_
                      refine K.iload at_185 (pc' := 187) rfl rfl ?_
                      refine K.iadd at_187 (pc' := 188) rfl (z := (2 : Int32)) (by decide) ?_
                      refine K.iconst at_188 (pc' := 189) rfl (z := 1) rfl ?_
                      refine K.iadd at_189 (pc' := 190) rfl (z := (3 : Int32)) (by decide) ?_
                      refine K.icmp_ne at_190 (pc1 := 193) rfl (by decide) (pc2 := 206) (by decide) (a := n1_1299.toInt) (b := 3) rfl rfl (fun c190 => ?_) (fun c190 => ?_)
                      · exfalso; have o0 : (0 : Int32).toInt = 0 := rfl; have o1 : (1 : Int32).toInt = 1 := rfl; have o2 : (2 : Int32).toInt = 2 := rfl; omega
                      · refine K.aload at_193 (pc' := 195) rfl rfl rfl ?_
                        have f_1347 : Exa Z h_1326 o_1153 sC := (f_1321.keep K_1332)
                        refine K.callv (z := (⟨sC, "size", "()I"⟩ : MethodName)) (argsL := []) (rest := []) at_195 (pc' := 198) rfl (c_size l Z a0 hw n0 h_1326 (a := o_1153) (n := n1_1331) f_1347 f_1340) f_1347 hw22 hw23 (nf_sel hw25 rfl) hw25 hw24 hw3 hw26 (by decide) pd_6 rfl rfl (W := 0) (by simp [Value.category]) (by decide) (by decide) (by decide) (by decide) (fun v_1350 h_1348 q_1349 => ?_)
                        obtain ⟨rfl, rfl⟩ := q_1349
                        show G h_1326 11 20 (mkF m 198 #[vi p, vi x1, vi x2, vi y1, vi y2, vi zz, vi 1, vi 1, vi w, vr o_1143, vr o_1153, vi 1, .unset, .unset, .unset, .unset, .unset] [(.int n1_1331)])
                        refine K.iconst at_198 (pc' := 199) rfl (z := 1) rfl ?_
                        refine K.icmp_ne at_199 (pc1 := 202) rfl (by decide) (pc2 := 206) (by decide) (a := n1_1331.toInt) (b := 1) rfl rfl (fun c199 => ?_) (fun c199 => ?_)
                        · exfalso; have o0 : (0 : Int32).toInt = 0 := rfl; have o1 : (1 : Int32).toInt = 1 := rfl; have o2 : (2 : Int32).toInt = 2 := rfl; omega
                        · refine K.iconst at_202 (pc' := 203) rfl (z := 1) rfl ?_
                          refine K.goto at_203 (by decide) (pc' := 207) (by decide) ?_
                          refine K.istore at_207 (pc' := 209) rfl (L' := #[vi p, vi x1, vi x2, vi y1, vi y2, vi zz, vi 1, vi 1, vi w, vr o_1143, vr o_1153, vi 1, .unset, .unset, .unset, .unset, .unset]) rfl ?_
                          refine K.aload at_209 (pc' := 211) rfl rfl rfl ?_
                          have sz_1352 : n0 ≤ h_1326.size := Nat.le_trans sz_1324 K_1332.1
                          refine K.callv (z := (⟨sC, "iterator", "()Ljava/util/Iterator;"⟩ : MethodName)) (argsL := []) (rest := []) at_211 (pc' := 214) rfl (c_it1 l Z a0 hw n0 h_1326 (b := o_1153) (x := lk_1330) sz_1352 f_1347 f_1338) f_1347 hw29 hw30 (nf_sel hw32 rfl) hw32 hw31 hw3 hw33 (by decide) pd_7 rfl rfl (W := 0) (by simp [Value.category]) (by decide) (by decide) (by decide) (by decide) (fun v_1355 h_1353 q_1354 => ?_)
                          obtain ⟨w_1356, rfl, K_1357, f_1358, f_1359, f_1360, f_1361⟩ := q_1354
                          show G h_1353 12 22 (mkF m 214 #[vi p, vi x1, vi x2, vi y1, vi y2, vi zz, vi 1, vi 1, vi w, vr o_1143, vr o_1153, vi 1, .unset, .unset, .unset, .unset, .unset] [(.ref w_1356)])
                          refine K.astore at_214 (pc' := 216) rfl rfl (L' := #[vi p, vi x1, vi x2, vi y1, vi y2, vi zz, vi 1, vi 1, vi w, vr o_1143, vr o_1153, vi 1, vr w_1356, .unset, .unset, .unset, .unset]) rfl ?_
                          refine K.iload at_216 (pc' := 218) rfl rfl ?_
                          refine K.if_eq at_218 (pc1 := 221) rfl (by decide) (pc2 := 246) (by decide) (a := 1) rfl (fun c218 => ?_) (fun c218 => ?_)
                          · exfalso; omega
                          · refine K.aload at_221 (pc' := 223) rfl rfl rfl ?_
                            refine K.iconst at_223 (pc' := 224) rfl (z := 1) rfl ?_
                            refine K.iload at_224 (pc' := 226) rfl rfl ?_
                            have f_1362 : Fld Z h_1353 lk_1330 sL "next" dL .null := (f_1337.keep K_1357 nin0)
                            have f_1363 : Fld Z h_1353 lk_1330 sL "element" "Ljava/lang/Object;" (.ref w_1316) := (f_1336.keep K_1357 nin0)
                            have ne_1364 : w_1316 ≠ o_1153 := (f_1320.elim (fun q => Nat.ne_of_lt (Nat.lt_of_lt_of_le q ge_o_1153)) (fun q => Nat.ne_of_gt (Nat.lt_of_lt_of_le x_o_1153.lt (Nat.le_trans (Nat.le_trans K_1170.1 (Nat.le_trans K_1185.1 (Nat.le_trans K_1200.1 (Nat.le_trans K_1216.1 (Nat.le_trans K_1240.1 (Nat.le_trans K_1264.1 (Nat.le_trans K_1279.1 K_1300.1))))))) q))))
                            have f_1365 : Fld Z h_1353 w_1316 sN "value" "I" (.int w) := ((f_1319.keep K_1332 (ninS ne_1364 nin0)).keep K_1357 nin0)
                            have f_1366 : Exa Z h_1353 lk_1330 sL := (f_1335.keep K_1357)
                            have ne_1367 : lk_1330 ≠ w_1356 := (Nat.ne_of_lt (Nat.lt_of_lt_of_le f_1335.lt (Nat.le_trans (Nat.le_refl _) f_1358)))
                            have ne_1368 : w_1316 ≠ w_1356 := (Nat.ne_of_lt (Nat.lt_of_lt_of_le f_1318.lt (Nat.le_trans K_1332.1 f_1358)))
                            have f_1369 : Exa Z h_1353 w_1316 sN := ((f_1318.keep K_1332).keep K_1357)
                            refine K.calls (argsL := [(.ref w_1356), (.int (1 : Int32)), (.int w)]) (rest := []) at_226 (pc' := 229) rfl (c_st10 l Z a0 hw n0 h_1353 (a := w_1356) (e := w) (lk := lk_1330) (b := w_1316) (v0 := w) f_1360 f_1359 f_1361 f_1366 ne_1367 f_1363 f_1362 ne_1368 f_1369 f_1365) hw78 hw79 hw80 hw81 (by decide) pd_10 rfl rfl (W := 0) (by simp [Value.category]) (by decide) (by decide) (by decide) (by decide) (fun v_1372 h_1370 q_1371 => ?_)
                            obtain ⟨rfl, K_1374, f_1375⟩ := q_1371
                            show G h_1370 12 22 (mkF m 229 #[vi p, vi x1, vi x2, vi y1, vi y2, vi zz, vi 1, vi 1, vi w, vr o_1143, vr o_1153, vi 1, vr w_1356, .unset, .unset, .unset, .unset] [(.int (b2 (w.toInt = w.toInt)))])
                            refine K.ifeqB at_229 (pc1 := 232) rfl (by decide) (pc2 := 246) (by decide) (fun c229 => ?_) (fun c229 => ?_)
                            · exfalso; first | exact c229 rfl | exact c229 trivial
                            · refine K.aload at_232 (pc' := 234) rfl rfl rfl ?_
                              have f_1376 : Exa Z h_1370 w_1356 sI := (f_1360.keep K_1374)
                              refine K.calli (z := (⟨sI, "hasNext", "()Z"⟩ : MethodName)) (argsL := []) (rest := []) at_234 (pc' := 239) rfl (c_has0 l Z a0 hw n0 h_1370 (a := w_1356) f_1376 f_1375) f_1376 hw46 hw47 hw48 rfl hw49 hw50 hw51 hw52 hw53 hw36 hw54 (by decide) pd_4 rfl rfl (W := 0) (by simp [Value.category]) (by decide) (by decide) (by decide) (by decide) (fun v_1379 h_1377 q_1378 => ?_)
                              obtain ⟨rfl, rfl⟩ := q_1378
                              show G h_1370 12 22 (mkF m 239 #[vi p, vi x1, vi x2, vi y1, vi y2, vi zz, vi 1, vi 1, vi w, vr o_1143, vr o_1153, vi 1, vr w_1356, .unset, .unset, .unset, .unset] [(.int (b2 (False)))])
                              refine K.ifneB at_239 (pc1 := 242) rfl (by decide) (pc2 := 246) (by decide) (fun c239 => ?_) (fun c239 => ?_)
                              · exfalso; exact c239
                              · refine K.iconst at_242 (pc' := 243) rfl (z := 1) rfl ?_
                                refine K.goto at_243 (by decide) (pc' := 247) (by decide) ?_
                                refine K.istore at_247 (pc' := 249) rfl (L' := #[vi p, vi x1, vi x2, vi y1, vi y2, vi zz, vi 1, vi 1, vi w, vr o_1143, vr o_1153, vi 1, vr w_1356, .unset, .unset, .unset, .unset]) rfl ?_
                                refine K.iconst at_249 (pc' := 250) rfl (z := 5) rfl ?_
                                refine K.newa at_250 (pc' := 252) rfl hw102 (k := 5) (cap := 5) rfl (by decide) (by decide) (by decide) (by decide) (ad := "[I") (by decide) (fun h_1382 a_1381 g_a_1381 E_1383 A_1384 x_a_1381 => ?_)
                                have sz_1385 : n0 ≤ h_1370.size := Nat.le_trans sz_1352 (Nat.le_trans K_1357.1 K_1374.1)
                                have ge_a_1381 : n0 ≤ a_1381 := g_a_1381 ▸ sz_1385
                                have A_1386 : Ary Z h_1382 a_1381 .int [(.int (0 : Int32)), (.int (0 : Int32)), (.int (0 : Int32)), (.int (0 : Int32)), (.int (0 : Int32))] := A_1384
                                refine K.astore at_252 (pc' := 254) rfl rfl (L' := #[vi p, vi x1, vi x2, vi y1, vi y2, vi zz, vi 1, vi 1, vi w, vr o_1143, vr o_1153, vi 1, vr w_1356, vr a_1381, .unset, .unset, .unset]) rfl ?_
                                refine K.iconst at_254 (pc' := 255) rfl (z := 0) rfl ?_
                                refine K.istore at_255 (pc' := 257) rfl (L' := #[vi p, vi x1, vi x2, vi y1, vi y2, vi zz, vi 1, vi 1, vi w, vr o_1143, vr o_1153, vi 1, vr w_1356, vr a_1381, vi 0, .unset, .unset]) rfl ?_
                                refine K.iload at_257 (pc' := 259) rfl rfl ?_
                                refine K.if_le at_259 (pc1 := 262) rfl (by decide) (pc2 := 271) (by decide) (a := 1) rfl (fun c259 => ?_) (fun c259 => ?_)
                                · exfalso; omega
                                · refine K.aload at_262 (pc' := 264) rfl rfl rfl ?_
                                  refine K.iload at_264 (pc' := 266) rfl rfl ?_
                                  refine K.iloadN at_266 (pc' := 267) rfl rfl ?_
                                  refine K.iast at_267 (pc' := 268) rfl A_1386 (i := 0) rfl (show 0 < 5 by decide) ge_a_1381 (fun h_1387 W_1388 A_1389 => ?_)
                                  have A_1390 : Ary Z h_1387 a_1381 .int [(.int x1), (.int (0 : Int32)), (.int (0 : Int32)), (.int (0 : Int32)), (.int (0 : Int32))] := A_1389
                                  refine K.iinc at_268 (pc' := 271) rfl rfl (z := (1 : Int32)) rfl (L' := #[vi p, vi x1, vi x2, vi y1, vi y2, vi zz, vi 1, vi 1, vi w, vr o_1143, vr o_1153, vi 1, vr w_1356, vr a_1381, vi 1, .unset, .unset]) rfl ?_
                                  refine K.iload at_271 (pc' := 273) rfl rfl ?_
                                  refine K.iconst at_273 (pc' := 274) rfl (z := 1) rfl ?_
                                  refine K.icmp_le at_274 (pc1 := 277) rfl (by decide) (pc2 := 286) (by decide) (a := 1) (b := 1) rfl rfl (fun c274 => ?_) (fun c274 => ?_)
                                  · refine K.iload at_286 (pc' := 288) rfl rfl ?_
                                    refine K.if_le at_288 (pc1 := 291) rfl (by decide) (pc2 := 300) (by decide) (a := 1) rfl (fun c288 => ?_) (fun c288 => ?_)
                                    · exfalso; omega
                                    · refine K.aload at_291 (pc' := 293) rfl rfl rfl ?_
                                      refine K.iload at_293 (pc' := 295) rfl rfl ?_
                                      refine K.iloadN at_295 (pc' := 296) rfl rfl ?_
                                      refine K.iast at_296 (pc' := 297) rfl A_1390 (i := 1) rfl (show 1 < 5 by decide) ge_a_1381 (fun h_1391 W_1392 A_1393 => ?_)
                                      have A_1394 : Ary Z h_1391 a_1381 .int [(.int x1), (.int y1), (.int (0 : Int32)), (.int (0 : Int32)), (.int (0 : Int32))] := A_1393
                                      refine K.iinc at_297 (pc' := 300) rfl rfl (z := (2 : Int32)) rfl (L' := #[vi p, vi x1, vi x2, vi y1, vi y2, vi zz, vi 1, vi 1, vi w, vr o_1143, vr o_1153, vi 1, vr w_1356, vr a_1381, vi 2, .unset, .unset]) rfl ?_
                                      refine K.iload at_300 (pc' := 302) rfl rfl ?_
                                      refine K.iconst at_302 (pc' := 303) rfl (z := 1) rfl ?_
                                      refine K.icmp_le at_303 (pc1 := 306) rfl (by decide) (pc2 := 316) (by decide) (a := 1) (b := 1) rfl rfl (fun c303 => ?_) (fun c303 => ?_)
                                      · refine K.aload at_316 (pc' := 318) rfl rfl rfl ?_
                                        refine K.iload at_318 (pc' := 320) rfl rfl ?_
                                        refine K.iload at_320 (pc' := 322) rfl rfl ?_
                                        refine K.iast at_322 (pc' := 323) rfl A_1394 (i := 2) rfl (show 2 < 5 by decide) ge_a_1381 (fun h_1395 W_1396 A_1397 => ?_)
                                        have A_1398 : Ary Z h_1395 a_1381 .int [(.int x1), (.int y1), (.int zz), (.int (0 : Int32)), (.int (0 : Int32))] := A_1397
                                        refine K.iinc at_323 (pc' := 326) rfl rfl (z := (3 : Int32)) rfl (L' := #[vi p, vi x1, vi x2, vi y1, vi y2, vi zz, vi 1, vi 1, vi w, vr o_1143, vr o_1153, vi 1, vr w_1356, vr a_1381, vi 3, .unset, .unset]) rfl ?_
                                        refine K.iload at_326 (pc' := 328) rfl rfl ?_
                                        refine K.istore at_328 (pc' := 330) rfl (L' := #[vi p, vi x1, vi x2, vi y1, vi y2, vi zz, vi 1, vi 1, vi w, vr o_1143, vr o_1153, vi 1, vr w_1356, vr a_1381, vi 3, vi 3, .unset]) rfl ?_
                                        refine K.aload at_330 (pc' := 332) rfl rfl rfl ?_
                                        have f_1399 : Exa Z h_1395 o_1143 sC := ((((((f_1341.keep K_1357).keep K_1374).ext E_1383).wr W_1388).wr W_1392).wr W_1396)
                                        have ne_1400 : o_1143 ≠ w_1356 := (Nat.ne_of_lt (Nat.lt_of_lt_of_le x_o_1143.lt (Nat.le_trans (Nat.le_trans E_1155.1 (Nat.le_trans K_1170.1 (Nat.le_trans K_1185.1 (Nat.le_trans K_1200.1 (Nat.le_trans K_1216.1 (Nat.le_trans K_1240.1 (Nat.le_trans K_1264.1 (Nat.le_trans K_1279.1 (Nat.le_trans K_1300.1 (Nat.le_trans K_1317.1 K_1332.1)))))))))) f_1358)))
                                        have ne_1401 : o_1143 ≠ a_1381 := (Nat.ne_of_lt (Nat.lt_of_lt_of_le x_o_1143.lt (Nat.le_trans (Nat.le_trans E_1155.1 (Nat.le_trans K_1170.1 (Nat.le_trans K_1185.1 (Nat.le_trans K_1200.1 (Nat.le_trans K_1216.1 (Nat.le_trans K_1240.1 (Nat.le_trans K_1264.1 (Nat.le_trans K_1279.1 (Nat.le_trans K_1300.1 (Nat.le_trans K_1317.1 (Nat.le_trans K_1332.1 (Nat.le_trans K_1357.1 K_1374.1)))))))))))) (Nat.le_of_eq g_a_1381.symm))))
                                        have f_1402 : Fld Z h_1395 o_1143 sC "first" dL (.ref lk_1183) := ((((((((f_1308.keep K_1317 nin0).keep K_1332 (ninS (Ne.symm ne_1205) nin0)).keep K_1357 nin0).keep K_1374 (ninS ne_1400 nin0)).ext E_1383).other W_1388 (Or.inl ne_1401)).other W_1392 (Or.inl ne_1401)).other W_1396 (Or.inl ne_1401))
                                        have sz_1403 : n0 ≤ h_1395.size := Nat.le_trans sz_1385 (Nat.le_trans E_1383.1 (Nat.le_trans (Keep.of_wr W_1388).1 (Nat.le_trans (Keep.of_wr W_1392).1 (Keep.of_wr W_1396).1)))
                                        refine K.callv (z := (⟨sC, "iterator", "()Ljava/util/Iterator;"⟩ : MethodName)) (argsL := []) (rest := []) at_332 (pc' := 335) rfl (c_it1 l Z a0 hw n0 h_1395 (b := o_1143) (x := lk_1183) sz_1403 f_1399 f_1402) f_1399 hw29 hw30 (nf_sel hw32 rfl) hw32 hw31 hw3 hw33 (by decide) pd_7 rfl rfl (W := 0) (by simp [Value.category]) (by decide) (by decide) (by decide) (by decide) (fun v_1406 h_1404 q_1405 => ?_)
                                        obtain ⟨w_1407, rfl, K_1408, f_1409, f_1410, f_1411, f_1412⟩ := q_1405
                                        show G h_1404 14 29 (mkF m 335 #[vi p, vi x1, vi x2, vi y1, vi y2, vi zz, vi 1, vi 1, vi w, vr o_1143, vr o_1153, vi 1, vr w_1356, vr a_1381, vi 3, vi 3, .unset] [(.ref w_1407)])
                                        refine K.astore at_335 (pc' := 337) rfl rfl (L' := #[vi p, vi x1, vi x2, vi y1, vi y2, vi zz, vi 1, vi 1, vi w, vr o_1143, vr o_1153, vi 1, vr w_1356, vr a_1381, vi 3, vi 3, vr w_1407]) rfl ?_
                                        refine K.iload at_337 (pc' := 339) rfl rfl ?_
                                        refine K.if_eq at_339 (pc1 := 342) rfl (by decide) (pc2 := 369) (by decide) (a := 1) rfl (fun c339 => ?_) (fun c339 => ?_)
                                        · exfalso; omega
                                        · refine K.aload at_342 (pc' := 344) rfl rfl rfl ?_
                                          refine K.iconst at_344 (pc' := 345) rfl (z := 0) rfl ?_
                                          refine K.iload at_345 (pc' := 347) rfl rfl ?_
                                          refine K.icmp_ge at_347 (pc1 := 350) rfl (by decide) (pc2 := 354) (by decide) (a := 0) (b := 3) rfl rfl (fun c347 => ?_) (fun c347 => ?_)
                                          · exfalso; omega
                                          · refine K.iconst at_350 (pc' := 351) rfl (z := 1) rfl ?_
                                            refine K.goto at_351 (by decide) (pc' := 355) (by decide) ?_
                                            refine K.aload at_355 (pc' := 357) rfl rfl rfl ?_
                                            refine K.iconst at_357 (pc' := 358) rfl (z := 0) rfl ?_
                                            have f_1413 : Ary Z h_1404 a_1381 .int [(.int x1), (.int y1), (.int zz), (.int (0 : Int32)), (.int (0 : Int32))] := (A_1398.keep K_1408 nin0)
                                            refine K.iald at_358 (pc' := 359) rfl f_1413 (i := 0) rfl rfl ?_
                                            have ne_1414 : lk_1183 ≠ w_1356 := (Nat.ne_of_lt (Nat.lt_of_lt_of_le f_1188.lt (Nat.le_trans (Nat.le_trans K_1200.1 (Nat.le_trans K_1216.1 (Nat.le_trans K_1240.1 (Nat.le_trans K_1264.1 (Nat.le_trans K_1279.1 (Nat.le_trans K_1300.1 (Nat.le_trans K_1317.1 K_1332.1))))))) f_1358)))
                                            have ne_1415 : lk_1183 ≠ a_1381 := (Nat.ne_of_lt (Nat.lt_of_lt_of_le f_1188.lt (Nat.le_trans (Nat.le_trans K_1200.1 (Nat.le_trans K_1216.1 (Nat.le_trans K_1240.1 (Nat.le_trans K_1264.1 (Nat.le_trans K_1279.1 (Nat.le_trans K_1300.1 (Nat.le_trans K_1317.1 (Nat.le_trans K_1332.1 (Nat.le_trans K_1357.1 K_1374.1))))))))) (Nat.le_of_eq g_a_1381.symm))))
                                            have f_1416 : Fld Z h_1404 lk_1183 sL "next" dL (.ref lk_1214) := ((((((((((((f_1241.keep K_1264 nin0).keep K_1279 nin0).keep K_1300 (ninS ne_1233 (ninS (Ne.symm ne_1287) nin0))).keep K_1317 nin0).keep K_1332 (ninS ne_1229 nin0)).keep K_1357 nin0).keep K_1374 (ninS ne_1414 nin0)).ext E_1383).other W_1388 (Or.inl ne_1415)).other W_1392 (Or.inl ne_1415)).other W_1396 (Or.inl ne_1415)).keep K_1408 nin0)
                                            have f_1417 : Fld Z h_1404 lk_1183 sL "element" "Ljava/lang/Object;" (.ref w_1169) := ((((((((((((f_1242.keep K_1264 nin0).keep K_1279 nin0).keep K_1300 (ninS ne_1233 (ninS (Ne.symm ne_1287) nin0))).keep K_1317 nin0).keep K_1332 (ninS ne_1229 nin0)).keep K_1357 nin0).keep K_1374 (ninS ne_1414 nin0)).ext E_1383).other W_1388 (Or.inl ne_1415)).other W_1392 (Or.inl ne_1415)).other W_1396 (Or.inl ne_1415)).keep K_1408 nin0)
                                            have ne_1418 : w_1169 ≠ o_1143 := (f_1173.elim (fun q => Nat.ne_of_lt (Nat.lt_of_lt_of_le q ge_o_1143)) (fun q => Nat.ne_of_gt (Nat.lt_of_lt_of_le x_o_1143.lt (Nat.le_trans E_1155.1 q))))
                                            have ne_1419 : w_1169 ≠ o_1153 := (f_1173.elim (fun q => Nat.ne_of_lt (Nat.lt_of_lt_of_le q ge_o_1153)) (fun q => Nat.ne_of_gt (Nat.lt_of_lt_of_le x_o_1153.lt (Nat.le_trans (Nat.le_refl _) q))))
                                            have ne_1420 : w_1169 ≠ lk_1183 := (Nat.ne_of_lt (Nat.lt_of_lt_of_le f_1171.lt (Nat.le_trans (Nat.le_refl _) f_1186)))
                                            have ne_1421 : w_1169 ≠ lk_1214 := (Nat.ne_of_lt (Nat.lt_of_lt_of_le f_1171.lt (Nat.le_trans (Nat.le_trans K_1185.1 K_1200.1) f_1217)))
                                            have ne_1422 : w_1169 ≠ w_1356 := (Nat.ne_of_lt (Nat.lt_of_lt_of_le f_1171.lt (Nat.le_trans (Nat.le_trans K_1185.1 (Nat.le_trans K_1200.1 (Nat.le_trans K_1216.1 (Nat.le_trans K_1240.1 (Nat.le_trans K_1264.1 (Nat.le_trans K_1279.1 (Nat.le_trans K_1300.1 (Nat.le_trans K_1317.1 K_1332.1)))))))) f_1358)))
                                            have ne_1423 : w_1169 ≠ a_1381 := (Nat.ne_of_lt (Nat.lt_of_lt_of_le f_1171.lt (Nat.le_trans (Nat.le_trans K_1185.1 (Nat.le_trans K_1200.1 (Nat.le_trans K_1216.1 (Nat.le_trans K_1240.1 (Nat.le_trans K_1264.1 (Nat.le_trans K_1279.1 (Nat.le_trans K_1300.1 (Nat.le_trans K_1317.1 (Nat.le_trans K_1332.1 (Nat.le_trans K_1357.1 K_1374.1)))))))))) (Nat.le_of_eq g_a_1381.symm))))
                                            have f_1424 : Fld Z h_1404 w_1169 sN "value" "I" (.int x1) := ((((((((((((((((f_1172.keep K_1185 (ninS ne_1418 nin0)).keep K_1200 nin0).keep K_1216 (ninS ne_1419 nin0)).keep K_1240 (ninS ne_1418 (ninS ne_1419 (ninS ne_1420 nin0)))).keep K_1264 nin0).keep K_1279 nin0).keep K_1300 (ninS ne_1418 (ninS ne_1421 nin0))).keep K_1317 nin0).keep K_1332 (ninS ne_1419 nin0)).keep K_1357 nin0).keep K_1374 (ninS ne_1422 nin0)).ext E_1383).other W_1388 (Or.inl ne_1423)).other W_1392 (Or.inl ne_1423)).other W_1396 (Or.inl ne_1423)).keep K_1408 nin0)
                                            have f_1425 : Exa Z h_1404 lk_1183 sL := (((((((((((((f_1232.keep K_1240).keep K_1264).keep K_1279).keep K_1300).keep K_1317).keep K_1332).keep K_1357).keep K_1374).ext E_1383).wr W_1388).wr W_1392).wr W_1396).keep K_1408)
                                            have ne_1426 : lk_1183 ≠ w_1407 := (Nat.ne_of_lt (Nat.lt_of_lt_of_le f_1188.lt (Nat.le_trans (Nat.le_trans K_1200.1 (Nat.le_trans K_1216.1 (Nat.le_trans K_1240.1 (Nat.le_trans K_1264.1 (Nat.le_trans K_1279.1 (Nat.le_trans K_1300.1 (Nat.le_trans K_1317.1 (Nat.le_trans K_1332.1 (Nat.le_trans K_1357.1 (Nat.le_trans K_1374.1 (Nat.le_trans E_1383.1 (Nat.le_trans (Keep.of_wr W_1388).1 (Nat.le_trans (Keep.of_wr W_1392).1 (Keep.of_wr W_1396).1))))))))))))) f_1409)))
                                            have ne_1427 : w_1169 ≠ w_1407 := (Nat.ne_of_lt (Nat.lt_of_lt_of_le f_1171.lt (Nat.le_trans (Nat.le_trans K_1185.1 (Nat.le_trans K_1200.1 (Nat.le_trans K_1216.1 (Nat.le_trans K_1240.1 (Nat.le_trans K_1264.1 (Nat.le_trans K_1279.1 (Nat.le_trans K_1300.1 (Nat.le_trans K_1317.1 (Nat.le_trans K_1332.1 (Nat.le_trans K_1357.1 (Nat.le_trans K_1374.1 (Nat.le_trans E_1383.1 (Nat.le_trans (Keep.of_wr W_1388).1 (Nat.le_trans (Keep.of_wr W_1392).1 (Keep.of_wr W_1396).1)))))))))))))) f_1409)))
                                            have f_1428 : Exa Z h_1404 w_1169 sN := ((((((((((((((((f_1171.keep K_1185).keep K_1200).keep K_1216).keep K_1240).keep K_1264).keep K_1279).keep K_1300).keep K_1317).keep K_1332).keep K_1357).keep K_1374).ext E_1383).wr W_1388).wr W_1392).wr W_1396).keep K_1408)
                                            refine K.calls (argsL := [(.ref w_1407), (.int (1 : Int32)), (.int x1)]) (rest := []) at_359 (pc' := 362) rfl (c_st11 l Z a0 hw n0 h_1404 (a := w_1407) (e := x1) (lk := lk_1183) (b := w_1169) (v0 := x1) (x := lk_1214) f_1411 f_1410 f_1412 f_1425 ne_1426 f_1417 f_1416 ne_1427 f_1428 f_1424) hw78 hw79 hw80 hw81 (by decide) pd_10 rfl rfl (W := 0) (by simp [Value.category]) (by decide) (by decide) (by decide) (by decide) (fun v_1431 h_1429 q_1430 => ?_)
                                            obtain ⟨rfl, K_1433, f_1434⟩ := q_1430
                                            show G h_1429 14 29 (mkF m 362 #[vi p, vi x1, vi x2, vi y1, vi y2, vi zz, vi 1, vi 1, vi w, vr o_1143, vr o_1153, vi 1, vr w_1356, vr a_1381, vi 3, vi 3, vr w_1407] [(.int (b2 (x1.toInt = x1.toInt)))])
                                            refine K.ifeqB at_362 (pc1 := 365) rfl (by decide) (pc2 := 369) (by decide) (fun c362 => ?_) (fun c362 => ?_)
                                            · exfalso; first | exact c362 rfl | exact c362 trivial
                                            · refine K.iconst at_365 (pc' := 366) rfl (z := 1) rfl ?_
                                              refine K.goto at_366 (by decide) (pc' := 370) (by decide) ?_
                                              refine K.istore at_370 (pc' := 372) rfl (L' := #[vi p, vi x1, vi x2, vi y1, vi y2, vi zz, vi 1, vi 1, vi w, vr o_1143, vr o_1153, vi 1, vr w_1356, vr a_1381, vi 3, vi 3, vr w_1407]) rfl ?_
                                              refine K.iload at_372 (pc' := 374) rfl rfl ?_
                                              refine K.if_eq at_374 (pc1 := 377) rfl (by decide) (pc2 := 404) (by decide) (a := 1) rfl (fun c374 => ?_) (fun c374 => ?_)
                                              · exfalso; omega
                                              · refine K.aload at_377 (pc' := 379) rfl rfl rfl ?_
                                                refine K.iconst at_379 (pc' := 380) rfl (z := 1) rfl ?_
                                                refine K.iload at_380 (pc' := 382) rfl rfl ?_
                                                refine K.icmp_ge at_382 (pc1 := 385) rfl (by decide) (pc2 := 389) (by decide) (a := 1) (b := 3) rfl rfl (fun c382 => ?_) (fun c382 => ?_)
                                                · exfalso; omega
                                                · refine K.iconst at_385 (pc' := 386) rfl (z := 1) rfl ?_
                                                  refine K.goto at_386 (by decide) (pc' := 390) (by decide) ?_
                                                  refine K.aload at_390 (pc' := 392) rfl rfl rfl ?_
                                                  refine K.iconst at_392 (pc' := 393) rfl (z := 1) rfl ?_
                                                  have ne_1435 : a_1381 ≠ w_1407 := (Nat.ne_of_lt (Nat.lt_of_lt_of_le A_1386.lt (Nat.le_trans (Nat.le_trans (Keep.of_wr W_1388).1 (Nat.le_trans (Keep.of_wr W_1392).1 (Keep.of_wr W_1396).1)) f_1409)))
                                                  have f_1436 : Ary Z h_1429 a_1381 .int [(.int x1), (.int y1), (.int zz), (.int (0 : Int32)), (.int (0 : Int32))] := (f_1413.keep K_1433 (ninS ne_1435 nin0))
                                                  refine K.iald at_393 (pc' := 394) rfl f_1436 (i := 1) rfl rfl ?_
                                                  have ne_1437 : lk_1214 ≠ w_1356 := (Nat.ne_of_lt (Nat.lt_of_lt_of_le f_1219.lt (Nat.le_trans (Nat.le_trans K_1240.1 (Nat.le_trans K_1264.1 (Nat.le_trans K_1279.1 (Nat.le_trans K_1300.1 (Nat.le_trans K_1317.1 K_1332.1))))) f_1358)))
                                                  have ne_1438 : lk_1214 ≠ a_1381 := (Nat.ne_of_lt (Nat.lt_of_lt_of_le f_1219.lt (Nat.le_trans (Nat.le_trans K_1240.1 (Nat.le_trans K_1264.1 (Nat.le_trans K_1279.1 (Nat.le_trans K_1300.1 (Nat.le_trans K_1317.1 (Nat.le_trans K_1332.1 (Nat.le_trans K_1357.1 K_1374.1))))))) (Nat.le_of_eq g_a_1381.symm))))
                                                  have ne_1439 : lk_1214 ≠ w_1407 := (Nat.ne_of_lt (Nat.lt_of_lt_of_le f_1219.lt (Nat.le_trans (Nat.le_trans K_1240.1 (Nat.le_trans K_1264.1 (Nat.le_trans K_1279.1 (Nat.le_trans K_1300.1 (Nat.le_trans K_1317.1 (Nat.le_trans K_1332.1 (Nat.le_trans K_1357.1 (Nat.le_trans K_1374.1 (Nat.le_trans E_1383.1 (Nat.le_trans (Keep.of_wr W_1388).1 (Nat.le_trans (Keep.of_wr W_1392).1 (Keep.of_wr W_1396).1))))))))))) f_1409)))
                                                  have f_1440 : Fld Z h_1429 lk_1214 sL "next" dL (.ref lk_1298) := ((((((((((f_1306.keep K_1317 nin0).keep K_1332 (ninS ne_1288 nin0)).keep K_1357 nin0).keep K_1374 (ninS ne_1437 nin0)).ext E_1383).other W_1388 (Or.inl ne_1438)).other W_1392 (Or.inl ne_1438)).other W_1396 (Or.inl ne_1438)).keep K_1408 nin0).keep K_1433 (ninS ne_1439 nin0))
                                                  have f_1441 : Fld Z h_1429 lk_1214 sL "element" "Ljava/lang/Object;" (.ref w_1199) := ((((((((((f_1307.keep K_1317 nin0).keep K_1332 (ninS ne_1288 nin0)).keep K_1357 nin0).keep K_1374 (ninS ne_1437 nin0)).ext E_1383).other W_1388 (Or.inl ne_1438)).other W_1392 (Or.inl ne_1438)).other W_1396 (Or.inl ne_1438)).keep K_1408 nin0).keep K_1433 (ninS ne_1439 nin0))
                                                  have ne_1442 : w_1199 ≠ o_1153 := (f_1203.elim (fun q => Nat.ne_of_lt (Nat.lt_of_lt_of_le q ge_o_1153)) (fun q => Nat.ne_of_gt (Nat.lt_of_lt_of_le x_o_1153.lt (Nat.le_trans (Nat.le_trans K_1170.1 K_1185.1) q))))
                                                  have ne_1443 : w_1199 ≠ lk_1183 := (f_1203.elim (fun q => Nat.ne_of_lt (Nat.lt_of_lt_of_le q f_1187)) (fun q => Nat.ne_of_gt (Nat.lt_of_lt_of_le f_1188.lt (Nat.le_trans (Nat.le_refl _) q))))
                                                  have ne_1444 : w_1199 ≠ o_1143 := (f_1203.elim (fun q => Nat.ne_of_lt (Nat.lt_of_lt_of_le q ge_o_1143)) (fun q => Nat.ne_of_gt (Nat.lt_of_lt_of_le x_o_1143.lt (Nat.le_trans (Nat.le_trans E_1155.1 (Nat.le_trans K_1170.1 K_1185.1)) q))))
                                                  have ne_1445 : w_1199 ≠ lk_1214 := (Nat.ne_of_lt (Nat.lt_of_lt_of_le f_1201.lt (Nat.le_trans (Nat.le_refl _) f_1217)))
                                                  have ne_1446 : w_1199 ≠ w_1356 := (Nat.ne_of_lt (Nat.lt_of_lt_of_le f_1201.lt (Nat.le_trans (Nat.le_trans K_1216.1 (Nat.le_trans K_1240.1 (Nat.le_trans K_1264.1 (Nat.le_trans K_1279.1 (Nat.le_trans K_1300.1 (Nat.le_trans K_1317.1 K_1332.1)))))) f_1358)))
                                                  have ne_1447 : w_1199 ≠ a_1381 := (Nat.ne_of_lt (Nat.lt_of_lt_of_le f_1201.lt (Nat.le_trans (Nat.le_trans K_1216.1 (Nat.le_trans K_1240.1 (Nat.le_trans K_1264.1 (Nat.le_trans K_1279.1 (Nat.le_trans K_1300.1 (Nat.le_trans K_1317.1 (Nat.le_trans K_1332.1 (Nat.le_trans K_1357.1 K_1374.1)))))))) (Nat.le_of_eq g_a_1381.symm))))
                                                  have ne_1448 : w_1199 ≠ w_1407 := (Nat.ne_of_lt (Nat.lt_of_lt_of_le f_1201.lt (Nat.le_trans (Nat.le_trans K_1216.1 (Nat.le_trans K_1240.1 (Nat.le_trans K_1264.1 (Nat.le_trans K_1279.1 (Nat.le_trans K_1300.1 (Nat.le_trans K_1317.1 (Nat.le_trans K_1332.1 (Nat.le_trans K_1357.1 (Nat.le_trans K_1374.1 (Nat.le_trans E_1383.1 (Nat.le_trans (Keep.of_wr W_1388).1 (Nat.le_trans (Keep.of_wr W_1392).1 (Keep.of_wr W_1396).1)))))))))))) f_1409)))
                                                  have f_1449 : Fld Z h_1429 w_1199 sN "value" "I" (.int y1) := (((((((((((((((f_1202.keep K_1216 (ninS ne_1442 nin0)).keep K_1240 (ninS ne_1444 (ninS ne_1442 (ninS ne_1443 nin0)))).keep K_1264 nin0).keep K_1279 nin0).keep K_1300 (ninS ne_1444 (ninS ne_1445 nin0))).keep K_1317 nin0).keep K_1332 (ninS ne_1442 nin0)).keep K_1357 nin0).keep K_1374 (ninS ne_1446 nin0)).ext E_1383).other W_1388 (Or.inl ne_1447)).other W_1392 (Or.inl ne_1447)).other W_1396 (Or.inl ne_1447)).keep K_1408 nin0).keep K_1433 (ninS ne_1448 nin0))
                                                  have f_1450 : Exa Z h_1429 w_1407 sI := (f_1411.keep K_1433)
                                                  have f_1451 : Exa Z h_1429 lk_1214 sL := (((((((((((f_1292.keep K_1300).keep K_1317).keep K_1332).keep K_1357).keep K_1374).ext E_1383).wr W_1388).wr W_1392).wr W_1396).keep K_1408).keep K_1433)
                                                  have f_1452 : Exa Z h_1429 w_1199 sN := (((((((((((((((f_1201.keep K_1216).keep K_1240).keep K_1264).keep K_1279).keep K_1300).keep K_1317).keep K_1332).keep K_1357).keep K_1374).ext E_1383).wr W_1388).wr W_1392).wr W_1396).keep K_1408).keep K_1433)
                                                  refine K.calls (argsL := [(.ref w_1407), (.int (1 : Int32)), (.int y1)]) (rest := []) at_394 (pc' := 397) rfl (c_st11 l Z a0 hw n0 h_1429 (a := w_1407) (e := y1) (lk := lk_1214) (b := w_1199) (v0 := y1) (x := lk_1298) f_1450 f_1410 f_1434 f_1451 ne_1439 f_1441 f_1440 ne_1448 f_1452 f_1449) hw78 hw79 hw80 hw81 (by decide) pd_10 rfl rfl (W := 0) (by simp [Value.category]) (by decide) (by decide) (by decide) (by decide) (fun v_1455 h_1453 q_1454 => ?_)
                                                  obtain ⟨rfl, K_1457, f_1458⟩ := q_1454
                                                  show G h_1453 14 29 (mkF m 397 #[vi p, vi x1, vi x2, vi y1, vi y2, vi zz, vi 1, vi 1, vi w, vr o_1143, vr o_1153, vi 1, vr w_1356, vr a_1381, vi 3, vi 3, vr w_1407] [(.int (b2 (y1.toInt = y1.toInt)))])
                                                  refine K.ifeqB at_397 (pc1 := 400) rfl (by decide) (pc2 := 404) (by decide) (fun c397 => ?_) (fun c397 => ?_)
                                                  · exfalso; first | exact c397 rfl | exact c397 trivial
                                                  · refine K.iconst at_400 (pc' := 401) rfl (z := 1) rfl ?_
                                                    refine K.goto at_401 (by decide) (pc' := 405) (by decide) ?_
                                                    refine K.istore at_405 (pc' := 407) rfl (L' := #[vi p, vi x1, vi x2, vi y1, vi y2, vi zz, vi 1, vi 1, vi w, vr o_1143, vr o_1153, vi 1, vr w_1356, vr a_1381, vi 3, vi 3, vr w_1407]) rfl ?_
                                                    refine K.iload at_407 (pc' := 409) rfl rfl ?_
                                                    refine K.if_eq at_409 (pc1 := 412) rfl (by decide) (pc2 := 439) (by decide) (a := 1) rfl (fun c409 => ?_) (fun c409 => ?_)
                                                    · exfalso; omega
                                                    · refine K.aload at_412 (pc' := 414) rfl rfl rfl ?_
                                                      refine K.iconst at_414 (pc' := 415) rfl (z := 2) rfl ?_
                                                      refine K.iload at_415 (pc' := 417) rfl rfl ?_
                                                      refine K.icmp_ge at_417 (pc1 := 420) rfl (by decide) (pc2 := 424) (by decide) (a := 2) (b := 3) rfl rfl (fun c417 => ?_) (fun c417 => ?_)
                                                      · exfalso; omega
                                                      · refine K.iconst at_420 (pc' := 421) rfl (z := 1) rfl ?_
                                                        refine K.goto at_421 (by decide) (pc' := 425) (by decide) ?_
                                                        refine K.aload at_425 (pc' := 427) rfl rfl rfl ?_
                                                        refine K.iconst at_427 (pc' := 428) rfl (z := 2) rfl ?_
                                                        have f_1459 : Ary Z h_1453 a_1381 .int [(.int x1), (.int y1), (.int zz), (.int (0 : Int32)), (.int (0 : Int32))] := (f_1436.keep K_1457 (ninS ne_1435 nin0))
                                                        refine K.iald at_428 (pc' := 429) rfl f_1459 (i := 2) rfl rfl ?_
                                                        have ne_1460 : lk_1298 ≠ o_1153 := (Ne.symm (Nat.ne_of_lt (Nat.lt_of_lt_of_le x_o_1153.lt (Nat.le_trans (Nat.le_trans K_1170.1 (Nat.le_trans K_1185.1 (Nat.le_trans K_1200.1 (Nat.le_trans K_1216.1 (Nat.le_trans K_1240.1 (Nat.le_trans K_1264.1 K_1279.1)))))) f_1301))))
                                                        have ne_1461 : lk_1298 ≠ w_1356 := (Nat.ne_of_lt (Nat.lt_of_lt_of_le f_1303.lt (Nat.le_trans (Nat.le_trans K_1317.1 K_1332.1) f_1358)))
                                                        have ne_1462 : lk_1298 ≠ a_1381 := (Nat.ne_of_lt (Nat.lt_of_lt_of_le f_1303.lt (Nat.le_trans (Nat.le_trans K_1317.1 (Nat.le_trans K_1332.1 (Nat.le_trans K_1357.1 K_1374.1))) (Nat.le_of_eq g_a_1381.symm))))
                                                        have ne_1463 : lk_1298 ≠ w_1407 := (Nat.ne_of_lt (Nat.lt_of_lt_of_le f_1303.lt (Nat.le_trans (Nat.le_trans K_1317.1 (Nat.le_trans K_1332.1 (Nat.le_trans K_1357.1 (Nat.le_trans K_1374.1 (Nat.le_trans E_1383.1 (Nat.le_trans (Keep.of_wr W_1388).1 (Nat.le_trans (Keep.of_wr W_1392).1 (Keep.of_wr W_1396).1))))))) f_1409)))
                                                        have f_1464 : Fld Z h_1453 lk_1298 sL "next" dL .null := (((((((((((f_1305.keep K_1317 nin0).keep K_1332 (ninS ne_1460 nin0)).keep K_1357 nin0).keep K_1374 (ninS ne_1461 nin0)).ext E_1383).other W_1388 (Or.inl ne_1462)).other W_1392 (Or.inl ne_1462)).other W_1396 (Or.inl ne_1462)).keep K_1408 nin0).keep K_1433 (ninS ne_1463 nin0)).keep K_1457 (ninS ne_1463 nin0))
                                                        have f_1465 : Fld Z h_1453 lk_1298 sL "element" "Ljava/lang/Object;" (.ref w_1278) := (((((((((((f_1304.keep K_1317 nin0).keep K_1332 (ninS ne_1460 nin0)).keep K_1357 nin0).keep K_1374 (ninS ne_1461 nin0)).ext E_1383).other W_1388 (Or.inl ne_1462)).other W_1392 (Or.inl ne_1462)).other W_1396 (Or.inl ne_1462)).keep K_1408 nin0).keep K_1433 (ninS ne_1463 nin0)).keep K_1457 (ninS ne_1463 nin0))
                                                        have ne_1466 : w_1278 ≠ lk_1214 := (f_1282.elim (fun q => Nat.ne_of_lt (Nat.lt_of_lt_of_le q f_1218)) (fun q => Nat.ne_of_gt (Nat.lt_of_lt_of_le f_1219.lt (Nat.le_trans (Nat.le_trans K_1240.1 K_1264.1) q))))
                                                        have ne_1467 : w_1278 ≠ o_1143 := (f_1282.elim (fun q => Nat.ne_of_lt (Nat.lt_of_lt_of_le q ge_o_1143)) (fun q => Nat.ne_of_gt (Nat.lt_of_lt_of_le x_o_1143.lt (Nat.le_trans (Nat.le_trans E_1155.1 (Nat.le_trans K_1170.1 (Nat.le_trans K_1185.1 (Nat.le_trans K_1200.1 (Nat.le_trans K_1216.1 (Nat.le_trans K_1240.1 K_1264.1)))))) q))))
                                                        have ne_1468 : w_1278 ≠ o_1153 := (f_1282.elim (fun q => Nat.ne_of_lt (Nat.lt_of_lt_of_le q ge_o_1153)) (fun q => Nat.ne_of_gt (Nat.lt_of_lt_of_le x_o_1153.lt (Nat.le_trans (Nat.le_trans K_1170.1 (Nat.le_trans K_1185.1 (Nat.le_trans K_1200.1 (Nat.le_trans K_1216.1 (Nat.le_trans K_1240.1 K_1264.1))))) q))))
                                                        have ne_1469 : w_1278 ≠ w_1356 := (Nat.ne_of_lt (Nat.lt_of_lt_of_le f_1280.lt (Nat.le_trans (Nat.le_trans K_1300.1 (Nat.le_trans K_1317.1 K_1332.1)) f_1358)))
                                                        have ne_1470 : w_1278 ≠ a_1381 := (Nat.ne_of_lt (Nat.lt_of_lt_of_le f_1280.lt (Nat.le_trans (Nat.le_trans K_1300.1 (Nat.le_trans K_1317.1 (Nat.le_trans K_1332.1 (Nat.le_trans K_1357.1 K_1374.1)))) (Nat.le_of_eq g_a_1381.symm))))
                                                        have ne_1471 : w_1278 ≠ w_1407 := (Nat.ne_of_lt (Nat.lt_of_lt_of_le f_1280.lt (Nat.le_trans (Nat.le_trans K_1300.1 (Nat.le_trans K_1317.1 (Nat.le_trans K_1332.1 (Nat.le_trans K_1357.1 (Nat.le_trans K_1374.1 (Nat.le_trans E_1383.1 (Nat.le_trans (Keep.of_wr W_1388).1 (Nat.le_trans (Keep.of_wr W_1392).1 (Keep.of_wr W_1396).1)))))))) f_1409)))
                                                        have f_1472 : Fld Z h_1453 w_1278 sN "value" "I" (.int zz) := ((((((((((((f_1281.keep K_1300 (ninS ne_1467 (ninS ne_1466 nin0))).keep K_1317 nin0).keep K_1332 (ninS ne_1468 nin0)).keep K_1357 nin0).keep K_1374 (ninS ne_1469 nin0)).ext E_1383).other W_1388 (Or.inl ne_1470)).other W_1392 (Or.inl ne_1470)).other W_1396 (Or.inl ne_1470)).keep K_1408 nin0).keep K_1433 (ninS ne_1471 nin0)).keep K_1457 (ninS ne_1471 nin0))
                                                        have f_1473 : Exa Z h_1453 w_1407 sI := (f_1450.keep K_1457)
                                                        have f_1474 : Exa Z h_1453 lk_1298 sL := (((((((((((f_1303.keep K_1317).keep K_1332).keep K_1357).keep K_1374).ext E_1383).wr W_1388).wr W_1392).wr W_1396).keep K_1408).keep K_1433).keep K_1457)
                                                        have f_1475 : Exa Z h_1453 w_1278 sN := ((((((((((((f_1280.keep K_1300).keep K_1317).keep K_1332).keep K_1357).keep K_1374).ext E_1383).wr W_1388).wr W_1392).wr W_1396).keep K_1408).keep K_1433).keep K_1457)
                                                        refine K.calls (argsL := [(.ref w_1407), (.int (1 : Int32)), (.int zz)]) (rest := []) at_429 (pc' := 432) rfl (c_st10 l Z a0 hw n0 h_1453 (a := w_1407) (e := zz) (lk := lk_1298) (b := w_1278) (v0 := zz) f_1473 f_1410 f_1458 f_1474 ne_1463 f_1465 f_1464 ne_1471 f_1475 f_1472) hw78 hw79 hw80 hw81 (by decide) pd_10 rfl rfl (W := 0) (by simp [Value.category]) (by decide) (by decide) (by decide) (by decide) (fun v_1478 h_1476 q_1477 => ?_)
                                                        obtain ⟨rfl, K_1480, f_1481⟩ := q_1477
                                                        show G h_1476 14 29 (mkF m 432 #[vi p, vi x1, vi x2, vi y1, vi y2, vi zz, vi 1, vi 1, vi w, vr o_1143, vr o_1153, vi 1, vr w_1356, vr a_1381, vi 3, vi 3, vr w_1407] [(.int (b2 (zz.toInt = zz.toInt)))])
                                                        refine K.ifeqB at_432 (pc1 := 435) rfl (by decide) (pc2 := 439) (by decide) (fun c432 => ?_) (fun c432 => ?_)
                                                        · exfalso; first | exact c432 rfl | exact c432 trivial
                                                        · refine K.iconst at_435 (pc' := 436) rfl (z := 1) rfl ?_
                                                          refine K.goto at_436 (by decide) (pc' := 440) (by decide) ?_
                                                          refine K.istore at_440 (pc' := 442) rfl (L' := #[vi p, vi x1, vi x2, vi y1, vi y2, vi zz, vi 1, vi 1, vi w, vr o_1143, vr o_1153, vi 1, vr w_1356, vr a_1381, vi 3, vi 3, vr w_1407]) rfl ?_
                                                          refine K.iload at_442 (pc' := 444) rfl rfl ?_
                                                          refine K.if_eq at_444 (pc1 := 447) rfl (by decide) (pc2 := 474) (by decide) (a := 1) rfl (fun c444 => ?_) (fun c444 => ?_)
                                                          · exfalso; omega
                                                          · refine K.aload at_447 (pc' := 449) rfl rfl rfl ?_
                                                            refine K.iconst at_449 (pc' := 450) rfl (z := 3) rfl ?_
                                                            refine K.iload at_450 (pc' := 452) rfl rfl ?_
                                                            refine K.icmp_ge at_452 (pc1 := 455) rfl (by decide) (pc2 := 459) (by decide) (a := 3) (b := 3) rfl rfl (fun c452 => ?_) (fun c452 => ?_)
                                                            · refine K.iconst at_459 (pc' := 460) rfl (z := 0) rfl ?_
                                                              refine K.aload at_460 (pc' := 462) rfl rfl rfl ?_
                                                              refine K.iconst at_462 (pc' := 463) rfl (z := 3) rfl ?_
                                                              have f_1482 : Ary Z h_1476 a_1381 .int [(.int x1), (.int y1), (.int zz), (.int (0 : Int32)), (.int (0 : Int32))] := (f_1459.keep K_1480 (ninS ne_1435 nin0))
                                                              refine K.iald at_463 (pc' := 464) rfl f_1482 (i := 3) rfl rfl ?_
                                                              refine K.calls (argsL := [(.ref w_1407), (.int (0 : Int32)), (.int (0 : Int32))]) (rest := []) at_464 (pc' := 467) rfl (c_st0 l Z a0 hw n0 h_1476 (a := w_1407) (e := (0 : Int32)) ) hw78 hw79 hw80 hw81 (by decide) pd_10 rfl rfl (W := 0) (by simp [Value.category]) (by decide) (by decide) (by decide) (by decide) (fun v_1485 h_1483 q_1484 => ?_)
                                                              obtain ⟨rfl, rfl⟩ := q_1484
                                                              show G h_1476 14 29 (mkF m 467 #[vi p, vi x1, vi x2, vi y1, vi y2, vi zz, vi 1, vi 1, vi w, vr o_1143, vr o_1153, vi 1, vr w_1356, vr a_1381, vi 3, vi 3, vr w_1407] [(.int (b2 (True)))])
                                                              refine K.ifeqB at_467 (pc1 := 470) rfl (by decide) (pc2 := 474) (by decide) (fun c467 => ?_) (fun c467 => ?_)
                                                              · exfalso; first | exact c467 rfl | exact c467 trivial
                                                              · refine K.iconst at_470 (pc' := 471) rfl (z := 1) rfl ?_
                                                                refine K.goto at_471 (by decide) (pc' := 475) (by decide) ?_
                                                                refine K.istore at_475 (pc' := 477) rfl (L' := #[vi p, vi x1, vi x2, vi y1, vi y2, vi zz, vi 1, vi 1, vi w, vr o_1143, vr o_1153, vi 1, vr w_1356, vr a_1381, vi 3, vi 3, vr w_1407]) rfl ?_
                                                                refine K.iload at_477 (pc' := 479) rfl rfl ?_
                                                                refine K.if_eq at_479 (pc1 := 482) rfl (by decide) (pc2 := 509) (by decide) (a := 1) rfl (fun c479 => ?_) (fun c479 => ?_)
                                                                · exfalso; omega
                                                                · refine K.aload at_482 (pc' := 484) rfl rfl rfl ?_
                                                                  refine K.iconst at_484 (pc' := 485) rfl (z := 4) rfl ?_
                                                                  refine K.iload at_485 (pc' := 487) rfl rfl ?_
                                                                  refine K.icmp_ge at_487 (pc1 := 490) rfl (by decide) (pc2 := 494) (by decide) (a := 4) (b := 3) rfl rfl (fun c487 => ?_) (fun c487 => ?_)
                                                                  · refine K.iconst at_494 (pc' := 495) rfl (z := 0) rfl ?_
                                                                    refine K.aload at_495 (pc' := 497) rfl rfl rfl ?_
                                                                    refine K.iconst at_497 (pc' := 498) rfl (z := 4) rfl ?_
                                                                    refine K.iald at_498 (pc' := 499) rfl f_1482 (i := 4) rfl rfl ?_
                                                                    refine K.calls (argsL := [(.ref w_1407), (.int (0 : Int32)), (.int (0 : Int32))]) (rest := []) at_499 (pc' := 502) rfl (c_st0 l Z a0 hw n0 h_1476 (a := w_1407) (e := (0 : Int32)) ) hw78 hw79 hw80 hw81 (by decide) pd_10 rfl rfl (W := 0) (by simp [Value.category]) (by decide) (by decide) (by decide) (by decide) (fun v_1489 h_1487 q_1488 => ?_)
                                                                    obtain ⟨rfl, rfl⟩ := q_1488
                                                                    show G h_1476 14 29 (mkF m 502 #[vi p, vi x1, vi x2, vi y1, vi y2, vi zz, vi 1, vi 1, vi w, vr o_1143, vr o_1153, vi 1, vr w_1356, vr a_1381, vi 3, vi 3, vr w_1407] [(.int (b2 (True)))])
                                                                    refine K.ifeqB at_502 (pc1 := 505) rfl (by decide) (pc2 := 509) (by decide) (fun c502 => ?_) (fun c502 => ?_)
                                                                    · exfalso; first | exact c502 rfl | exact c502 trivial
                                                                    · refine K.iconst at_505 (pc' := 506) rfl (z := 1) rfl ?_
                                                                      refine K.goto at_506 (by decide) (pc' := 510) (by decide) ?_
                                                                      refine K.istore at_510 (pc' := 512) rfl (L' := #[vi p, vi x1, vi x2, vi y1, vi y2, vi zz, vi 1, vi 1, vi w, vr o_1143, vr o_1153, vi 1, vr w_1356, vr a_1381, vi 3, vi 3, vr w_1407]) rfl ?_
                                                                      refine K.iload at_512 (pc' := 514) rfl rfl ?_
                                                                      refine K.if_eq at_514 (pc1 := 517) rfl (by decide) (pc2 := 531) (by decide) (a := 1) rfl (fun c514 => ?_) (fun c514 => ?_)
                                                                      · exfalso; omega
                                                                      · refine K.aload at_517 (pc' := 519) rfl rfl rfl ?_
                                                                        have f_1491 : Exa Z h_1476 w_1407 sI := (f_1473.keep K_1480)
                                                                        refine K.calli (z := (⟨sI, "hasNext", "()Z"⟩ : MethodName)) (argsL := []) (rest := []) at_519 (pc' := 524) rfl (c_has0 l Z a0 hw n0 h_1476 (a := w_1407) f_1491 f_1481) f_1491 hw46 hw47 hw48 rfl hw49 hw50 hw51 hw52 hw53 hw36 hw54 (by decide) pd_4 rfl rfl (W := 0) (by simp [Value.category]) (by decide) (by decide) (by decide) (by decide) (fun v_1494 h_1492 q_1493 => ?_)
                                                                        obtain ⟨rfl, rfl⟩ := q_1493
                                                                        show G h_1476 14 29 (mkF m 524 #[vi p, vi x1, vi x2, vi y1, vi y2, vi zz, vi 1, vi 1, vi w, vr o_1143, vr o_1153, vi 1, vr w_1356, vr a_1381, vi 3, vi 3, vr w_1407] [(.int (b2 (False)))])
                                                                        refine K.ifneB at_524 (pc1 := 527) rfl (by decide) (pc2 := 531) (by decide) (fun c524 => ?_) (fun c524 => ?_)
                                                                        · exfalso; exact c524
                                                                        · refine K.iconst at_527 (pc' := 528) rfl (z := 1) rfl ?_
                                                                          refine K.goto at_528 (by decide) (pc' := 532) (by decide) ?_
                                                                          exact K.retz at_532 (Or.inr rfl) (by decide) (by decide) rfl
                                                                  · exfalso; omega
                                                            · exfalso; omega
                                      · exfalso; omega
                                  · exfalso; omega
            · exfalso; omega
        · exfalso; omega
    · refine K.iload at_16 (pc' := 18) rfl rfl ?_
      refine K.iconst at_18 (pc' := 19) rfl (z := -1) rfl ?_
      obtain ⟨w, e_w⟩ : ∃ z, zz ^^^ (-1 : Int32) = z := ⟨_, rfl⟩
      refine K.ixor at_19 (pc' := 20) rfl e_w ?_
      refine K.istore at_20 (pc' := 22) rfl (L' := #[vi p, vi x1, vi x2, vi y1, vi y2, vi zz, vi 1, vi 2, vi w, .unset, .unset, .unset, .unset, .unset, .unset, .unset, .unset]) rfl ?_
      refine K.newo at_22 (pc' := 25) rfl hw1 hw2 hw3 (by decide) (by decide) (fun h_1497 o_1496 g_o_1496 E_1498 x_o_1496 D_o_1496 => ?_)
      have ge_o_1496 : n0 ≤ o_1496 := g_o_1496 ▸ Z0
      have f_1499 : Fld Z h_1497 o_1496 sC "first" dL .null := D_o_1496 (Or.inl hw21) (ty := (.object sL)) (by decide)
      have f_1500 : Fld Z h_1497 o_1496 sC "size" "I" (.int (0 : Int32)) := D_o_1496 (Or.inl hw28) (ty := .int) (by decide)
      have f_1501 : Fld Z h_1497 o_1496 sC "last" dL .null := D_o_1496 (Or.inl hw77) (ty := (.object sL)) (by decide)
      refine K.dup at_25 (pc' := 26) rfl rfl ?_
      refine K.callc (argsL := []) (rest := [(.ref o_1496)]) at_26 (pc' := 29) rfl rfl (c_chn l Z a0 hw n0 h_1497 (a := o_1496) ) hw4 hw5 hw3 hw6 (by decide) pd_0 rfl rfl (W := 1) (by simp [Value.category]) (by decide) (by decide) (by decide) (by decide) (fun v_1504 h_1502 q_1503 => ?_)
      obtain ⟨rfl, rfl⟩ := q_1503
      show G h_1497 1 3 (mkF m 29 #[vi p, vi x1, vi x2, vi y1, vi y2, vi zz, vi 1, vi 2, vi w, .unset, .unset, .unset, .unset, .unset, .unset, .unset, .unset] [(.ref o_1496)])
      refine K.astore at_29 (pc' := 31) rfl rfl (L' := #[vi p, vi x1, vi x2, vi y1, vi y2, vi zz, vi 1, vi 2, vi w, vr o_1496, .unset, .unset, .unset, .unset, .unset, .unset, .unset]) rfl ?_
      refine K.newo at_31 (pc' := 34) rfl hw1 hw2 hw3 (by decide) (by decide) (fun h_1507 o_1506 g_o_1506 E_1508 x_o_1506 D_o_1506 => ?_)
      have sz_1509 : n0 ≤ h_1497.size := Nat.le_trans Z0 E_1498.1
      have ge_o_1506 : n0 ≤ o_1506 := g_o_1506 ▸ sz_1509
      have f_1510 : Fld Z h_1507 o_1506 sC "first" dL .null := D_o_1506 (Or.inl hw21) (ty := (.object sL)) (by decide)
      have f_1511 : Fld Z h_1507 o_1506 sC "size" "I" (.int (0 : Int32)) := D_o_1506 (Or.inl hw28) (ty := .int) (by decide)
      have f_1512 : Fld Z h_1507 o_1506 sC "last" dL .null := D_o_1506 (Or.inl hw77) (ty := (.object sL)) (by decide)
      refine K.dup at_34 (pc' := 35) rfl rfl ?_
      refine K.callc (argsL := []) (rest := [(.ref o_1506)]) at_35 (pc' := 38) rfl rfl (c_chn l Z a0 hw n0 h_1507 (a := o_1506) ) hw4 hw5 hw3 hw6 (by decide) pd_0 rfl rfl (W := 1) (by simp [Value.category]) (by decide) (by decide) (by decide) (by decide) (fun v_1515 h_1513 q_1514 => ?_)
      obtain ⟨rfl, rfl⟩ := q_1514
      show G h_1507 2 6 (mkF m 38 #[vi p, vi x1, vi x2, vi y1, vi y2, vi zz, vi 1, vi 2, vi w, vr o_1496, .unset, .unset, .unset, .unset, .unset, .unset, .unset] [(.ref o_1506)])
      refine K.astore at_38 (pc' := 40) rfl rfl (L' := #[vi p, vi x1, vi x2, vi y1, vi y2, vi zz, vi 1, vi 2, vi w, vr o_1496, vr o_1506, .unset, .unset, .unset, .unset, .unset, .unset]) rfl ?_
      refine K.iload at_40 (pc' := 42) rfl rfl ?_
      refine K.if_le at_42 (pc1 := 45) rfl (by decide) (pc2 := 55) (by decide) (a := 1) rfl (fun c42 => ?_) (fun c42 => ?_)
      · exfalso; omega
      · refine K.aload at_45 (pc' := 47) rfl rfl rfl ?_
        refine K.iloadN at_47 (pc' := 48) rfl rfl ?_
        have sz_1517 : n0 ≤ h_1507.size := Nat.le_trans sz_1509 E_1508.1
        have f_1518 : Old Z n0 h_1507 := ((P2.ext E_1498).ext E_1508)
        refine K.calls (argsL := [(.int x1)]) (rest := [(.ref o_1496)]) at_48 (pc' := 51) rfl (c_val l Z a0 hw n0 h_1507 (p := x1) (ca := ca) (cc := cc) sz_1517 f_1518 P3 P4 hbx) hw55 hw56 hw57 hw58 (by decide) pd_8 rfl rfl (W := 1) (by simp [Value.category]) (by decide) (by decide) (by decide) (by decide) (fun v_1521 h_1519 q_1520 => ?_)
        obtain ⟨w_1522, rfl, K_1523, f_1524, f_1525, f_1526⟩ := q_1520
        show G h_1519 3 7 (mkF m 51 #[vi p, vi x1, vi x2, vi y1, vi y2, vi zz, vi 1, vi 2, vi w, vr o_1496, vr o_1506, .unset, .unset, .unset, .unset, .unset, .unset] [(.ref w_1522), (.ref o_1496)])
        have f_1527 : Exa Z h_1519 o_1496 sC := ((x_o_1496.ext E_1508).keep K_1523)
        have f_1528 : Fld Z h_1519 o_1496 sC "last" dL .null := ((f_1501.ext E_1508).keep K_1523 nin0)
        have f_1529 : Fld Z h_1519 o_1496 sC "size" "I" (.int (0 : Int32)) := ((f_1500.ext E_1508).keep K_1523 nin0)
        have sz_1530 : n0 ≤ h_1519.size := Nat.le_trans sz_1517 K_1523.1
        have f_1531 : Fld Z h_1519 o_1496 sC "first" dL .null := ((f_1499.ext E_1508).keep K_1523 nin0)
        refine K.callv (z := (⟨sC, "add", "(Ljava/lang/Object;)Z"⟩ : MethodName)) (argsL := [(.ref w_1522)]) (rest := []) at_51 (pc' := 54) rfl (c_add0 l Z a0 hw n0 h_1519 (a := o_1496) (e := w_1522) (n := (0 : Int32)) sz_1530 f_1527 ge_o_1496 f_1531 f_1528 f_1529 (by first | decide | omega)) f_1527 hw62 hw63 (nf_sel hw65 rfl) hw65 hw64 hw3 hw66 (by decide) pd_9 rfl rfl (W := 0) (by simp [Value.category]) (by decide) (by decide) (by decide) (by decide) (fun v_1534 h_1532 q_1533 => ?_)
        obtain ⟨lk_1536, n1_1537, rfl, K_1538, hn1_w_1535, f_1539, f_1540, f_1541, f_1542, f_1543, f_1544, f_1545, f_1546⟩ := q_1533
        show G h_1532 4 9 (mkF m 54 #[vi p, vi x1, vi x2, vi y1, vi y2, vi zz, vi 1, vi 2, vi w, vr o_1496, vr o_1506, .unset, .unset, .unset, .unset, .unset, .unset] [(.int (b2 (True)))])
        refine K.pop at_54 (pc' := 55) rfl rfl ?_
        refine K.iload at_55 (pc' := 57) rfl rfl ?_
        refine K.iconst at_57 (pc' := 58) rfl (z := 1) rfl ?_
        refine K.icmp_le at_58 (pc1 := 61) rfl (by decide) (pc2 := 71) (by decide) (a := 1) (b := 1) rfl rfl (fun c58 => ?_) (fun c58 => ?_)
        · refine K.iload at_71 (pc' := 73) rfl rfl ?_
          refine K.if_le at_73 (pc1 := 76) rfl (by decide) (pc2 := 86) (by decide) (a := 2) rfl (fun c73 => ?_) (fun c73 => ?_)
          · exfalso; omega
          · refine K.aload at_76 (pc' := 78) rfl rfl rfl ?_
            refine K.iloadN at_78 (pc' := 79) rfl rfl ?_
            have sz_1547 : n0 ≤ h_1532.size := Nat.le_trans sz_1530 K_1538.1
            have f_1548 : Old Z n0 h_1532 := ((f_1518.keep K_1523 all0).keep K_1538 (allS ge_o_1496 all0))
            refine K.calls (argsL := [(.int y1)]) (rest := [(.ref o_1506)]) at_79 (pc' := 82) rfl (c_val l Z a0 hw n0 h_1532 (p := y1) (ca := ca) (cc := cc) sz_1547 f_1548 P3 P4 hbx) hw55 hw56 hw57 hw58 (by decide) pd_8 rfl rfl (W := 1) (by simp [Value.category]) (by decide) (by decide) (by decide) (by decide) (fun v_1551 h_1549 q_1550 => ?_)
            obtain ⟨w_1552, rfl, K_1553, f_1554, f_1555, f_1556⟩ := q_1550
            show G h_1549 5 10 (mkF m 82 #[vi p, vi x1, vi x2, vi y1, vi y2, vi zz, vi 1, vi 2, vi w, vr o_1496, vr o_1506, .unset, .unset, .unset, .unset, .unset, .unset] [(.ref w_1552), (.ref o_1506)])
            have f_1557 : Exa Z h_1549 o_1506 sC := (((x_o_1506.keep K_1523).keep K_1538).keep K_1553)
            have ne_1558 : o_1506 ≠ o_1496 := (Ne.symm (Nat.ne_of_lt (Nat.lt_of_lt_of_le x_o_1496.lt (Nat.le_trans (Nat.le_refl _) (Nat.le_of_eq g_o_1506.symm)))))
            have f_1559 : Fld Z h_1549 o_1506 sC "last" dL .null := (((f_1512.keep K_1523 nin0).keep K_1538 (ninS ne_1558 nin0)).keep K_1553 nin0)
            have f_1560 : Fld Z h_1549 o_1506 sC "size" "I" (.int (0 : Int32)) := (((f_1511.keep K_1523 nin0).keep K_1538 (ninS ne_1558 nin0)).keep K_1553 nin0)
            have sz_1561 : n0 ≤ h_1549.size := Nat.le_trans sz_1547 K_1553.1
            have f_1562 : Fld Z h_1549 o_1506 sC "first" dL .null := (((f_1510.keep K_1523 nin0).keep K_1538 (ninS ne_1558 nin0)).keep K_1553 nin0)
            refine K.callv (z := (⟨sC, "add", "(Ljava/lang/Object;)Z"⟩ : MethodName)) (argsL := [(.ref w_1552)]) (rest := []) at_82 (pc' := 85) rfl (c_add0 l Z a0 hw n0 h_1549 (a := o_1506) (e := w_1552) (n := (0 : Int32)) sz_1561 f_1557 ge_o_1506 f_1562 f_1559 f_1560 (by first | decide | omega)) f_1557 hw62 hw63 (nf_sel hw65 rfl) hw65 hw64 hw3 hw66 (by decide) pd_9 rfl rfl (W := 0) (by simp [Value.category]) (by decide) (by decide) (by decide) (by decide) (fun v_1565 h_1563 q_1564 => ?_)
            obtain ⟨lk_1567, n1_1568, rfl, K_1569, hn1_w_1566, f_1570, f_1571, f_1572, f_1573, f_1574, f_1575, f_1576, f_1577⟩ := q_1564
            show G h_1563 6 12 (mkF m 85 #[vi p, vi x1, vi x2, vi y1, vi y2, vi zz, vi 1, vi 2, vi w, vr o_1496, vr o_1506, .unset, .unset, .unset, .unset, .unset, .unset] [(.int (b2 (True)))])
            refine K.pop at_85 (pc' := 86) rfl rfl ?_
            refine K.iload at_86 (pc' := 88) rfl rfl ?_
            refine K.iconst at_88 (pc' := 89) rfl (z := 1) rfl ?_
            refine K.icmp_le at_89 (pc1 := 92) rfl (by decide) (pc2 := 103) (by decide) (a := 2) (b := 1) rfl rfl (fun c89 => ?_) (fun c89 => ?_)
            · exfalso; omega
            · refine K.aload at_92 (pc' := 94) rfl rfl rfl ?_
              refine K.iload at_94 (pc' := 96) rfl rfl ?_
              have sz_1578 : n0 ≤ h_1563.size := Nat.le_trans sz_1561 K_1569.1
              have f_1579 : Old Z n0 h_1563 := ((f_1548.keep K_1553 all0).keep K_1569 (allS ge_o_1506 all0))
              refine K.calls (argsL := [(.int y2)]) (rest := [(.ref o_1506)]) at_96 (pc' := 99) rfl (c_val l Z a0 hw n0 h_1563 (p := y2) (ca := ca) (cc := cc) sz_1578 f_1579 P3 P4 hbx) hw55 hw56 hw57 hw58 (by decide) pd_8 rfl rfl (W := 1) (by simp [Value.category]) (by decide) (by decide) (by decide) (by decide) (fun v_1582 h_1580 q_1581 => ?_)
              obtain ⟨w_1583, rfl, K_1584, f_1585, f_1586, f_1587⟩ := q_1581
              show G h_1580 7 13 (mkF m 99 #[vi p, vi x1, vi x2, vi y1, vi y2, vi zz, vi 1, vi 2, vi w, vr o_1496, vr o_1506, .unset, .unset, .unset, .unset, .unset, .unset] [(.ref w_1583), (.ref o_1506)])
              have f_1588 : Exa Z h_1580 o_1506 sC := ((f_1557.keep K_1569).keep K_1584)
              have f_1589 : Fld Z h_1580 o_1506 sC "last" dL (.ref lk_1567) := (f_1576.keep K_1584 nin0)
              have f_1590 : Fld Z h_1580 o_1506 sC "first" dL (.ref lk_1567) := (f_1575.keep K_1584 nin0)
              have f_1591 : Fld Z h_1580 o_1506 sC "size" "I" (.int n1_1568) := (f_1577.keep K_1584 nin0)
              have f_1592 : Fld Z h_1580 lk_1567 sL "element" "Ljava/lang/Object;" (.ref w_1552) := (f_1573.keep K_1584 nin0)
              have sz_1593 : n0 ≤ h_1580.size := Nat.le_trans sz_1578 K_1584.1
              have f_1594 : Exa Z h_1580 lk_1567 sL := (f_1572.keep K_1584)
              have ne_1595 : lk_1567 ≠ o_1506 := (Ne.symm (Nat.ne_of_lt (Nat.lt_of_lt_of_le x_o_1506.lt (Nat.le_trans (Nat.le_trans K_1523.1 (Nat.le_trans K_1538.1 K_1553.1)) f_1570))))
              have f_1596 : Fld Z h_1580 lk_1567 sL "next" dL .null := (f_1574.keep K_1584 nin0)
              refine K.callv (z := (⟨sC, "add", "(Ljava/lang/Object;)Z"⟩ : MethodName)) (argsL := [(.ref w_1583)]) (rest := []) at_99 (pc' := 102) rfl (c_add1 l Z a0 hw n0 h_1580 (a := o_1506) (e := w_1583) (n := n1_1568) (f0 := lk_1567) (t := lk_1567) (te := w_1552) sz_1593 f_1588 ge_o_1506 f_1594 f_1571 ne_1595 f_1596 f_1592 f_1590 f_1589 f_1591 (by omega)) f_1588 hw62 hw63 (nf_sel hw65 rfl) hw65 hw64 hw3 hw66 (by decide) pd_9 rfl rfl (W := 0) (by simp [Value.category]) (by decide) (by decide) (by decide) (by decide) (fun v_1599 h_1597 q_1598 => ?_)
              obtain ⟨lk_1601, n1_1602, rfl, K_1603, hn1_w_1600, f_1604, f_1605, f_1606, f_1607, f_1608, f_1609, f_1610, f_1611, f_1612, f_1613⟩ := q_1598
              show G h_1597 8 15 (mkF m 102 #[vi p, vi x1, vi x2, vi y1, vi y2, vi zz, vi 1, vi 2, vi w, vr o_1496, vr o_1506, .unset, .unset, .unset, .unset, .unset, .unset] [(.int (b2 (True)))])
              refine K.pop at_102 (pc' := 103) rfl rfl ?_
              refine K.aload at_103 (pc' := 105) rfl rfl rfl ?_
              refine K.aload at_105 (pc' := 107) rfl rfl rfl ?_
              have f_1614 : Exa Z h_1597 o_1496 sC := (((((f_1527.keep K_1538).keep K_1553).keep K_1569).keep K_1584).keep K_1603)
              have ne_1615 : o_1496 ≠ lk_1567 := (Nat.ne_of_lt (Nat.lt_of_lt_of_le x_o_1496.lt (Nat.le_trans (Nat.le_trans E_1508.1 (Nat.le_trans K_1523.1 (Nat.le_trans K_1538.1 K_1553.1))) f_1570)))
              have f_1616 : Fld Z h_1597 o_1496 sC "last" dL (.ref lk_1536) := ((((f_1545.keep K_1553 nin0).keep K_1569 (ninS (Ne.symm ne_1558) nin0)).keep K_1584 nin0).keep K_1603 (ninS (Ne.symm ne_1558) (ninS ne_1615 nin0)))
              have f_1617 : Fld Z h_1597 o_1496 sC "first" dL (.ref lk_1536) := ((((f_1544.keep K_1553 nin0).keep K_1569 (ninS (Ne.symm ne_1558) nin0)).keep K_1584 nin0).keep K_1603 (ninS (Ne.symm ne_1558) (ninS ne_1615 nin0)))
              have f_1618 : Fld Z h_1597 o_1496 sC "size" "I" (.int n1_1537) := ((((f_1546.keep K_1553 nin0).keep K_1569 (ninS (Ne.symm ne_1558) nin0)).keep K_1584 nin0).keep K_1603 (ninS (Ne.symm ne_1558) (ninS ne_1615 nin0)))
              have ne_1619 : lk_1536 ≠ o_1506 := (Ne.symm (Nat.ne_of_lt (Nat.lt_of_lt_of_le x_o_1506.lt (Nat.le_trans K_1523.1 f_1539))))
              have ne_1620 : lk_1536 ≠ lk_1567 := (Nat.ne_of_lt (Nat.lt_of_lt_of_le f_1541.lt (Nat.le_trans K_1553.1 f_1570)))
              have f_1621 : Fld Z h_1597 lk_1536 sL "element" "Ljava/lang/Object;" (.ref w_1522) := ((((f_1542.keep K_1553 nin0).keep K_1569 (ninS ne_1619 nin0)).keep K_1584 nin0).keep K_1603 (ninS ne_1619 (ninS ne_1620 nin0)))
              have f_1622 : Exa Z h_1597 o_1506 sC := (f_1588.keep K_1603)
              have f_1623 : Exa Z h_1597 lk_1536 sL := ((((f_1541.keep K_1553).keep K_1569).keep K_1584).keep K_1603)
              have ne_1624 : lk_1536 ≠ o_1496 := (Ne.symm (Nat.ne_of_lt (Nat.lt_of_lt_of_le x_o_1496.lt (Nat.le_trans (Nat.le_trans E_1508.1 K_1523.1) f_1539))))
              have f_1625 : Fld Z h_1597 lk_1536 sL "next" dL .null := ((((f_1543.keep K_1553 nin0).keep K_1569 (ninS ne_1619 nin0)).keep K_1584 nin0).keep K_1603 (ninS ne_1619 (ninS ne_1620 nin0)))
              refine K.callv (z := (⟨sC, "moveAll", "(Lcom/example/quadrille/quadrille/formats/Chain;)V"⟩ : MethodName)) (argsL := [(.ref o_1506)]) (rest := []) at_107 (pc' := 110) rfl (c_mv1 l Z a0 hw n0 h_1597 (a := o_1496) (b := o_1506) (n := n1_1537) (k := n1_1602) (f0 := lk_1536) (t := lk_1536) (te := w_1522) (f1 := lk_1567) (l1 := lk_1601) f_1614 ge_o_1496 f_1622 ge_o_1506 (Ne.symm ne_1558) f_1623 f_1540 ne_1624 ne_1619 f_1625 f_1621 f_1617 f_1616 f_1618 f_1611 f_1612 f_1613 (by omega) (by omega)) f_1614 hw15 hw16 (nf_sel hw18 rfl) hw18 hw17 hw3 hw19 (by decide) pd_3 rfl rfl (W := 0) (by simp [Value.category]) (by decide) (by decide) (by decide) (by decide) (fun v_1628 h_1626 q_1627 => ?_)
              obtain ⟨n1_1630, rfl, K_1631, hn1_w_1629, f_1632, f_1633, f_1634, f_1635, f_1636, f_1637, f_1638, f_1639⟩ := q_1627
              show G h_1626 8 15 (mkF m 110 #[vi p, vi x1, vi x2, vi y1, vi y2, vi zz, vi 1, vi 2, vi w, vr o_1496, vr o_1506, .unset, .unset, .unset, .unset, .unset, .unset] [])
              refine K.aload at_110 (pc' := 112) rfl rfl rfl ?_
              have f_1640 : Exa Z h_1626 o_1496 sC := (f_1614.keep K_1631)
              refine K.callv (z := (⟨sC, "size", "()I"⟩ : MethodName)) (argsL := []) (rest := []) at_112 (pc' := 115) rfl (c_size l Z a0 hw n0 h_1626 (a := o_1496) (n := n1_1630) f_1640 f_1636) f_1640 hw22 hw23 (nf_sel hw25 rfl) hw25 hw24 hw3 hw26 (by decide) pd_6 rfl rfl (W := 0) (by simp [Value.category]) (by decide) (by decide) (by decide) (by decide) (fun v_1643 h_1641 q_1642 => ?_)
              obtain ⟨rfl, rfl⟩ := q_1642
              show G h_1626 8 15 (mkF m 115 #[vi p, vi x1, vi x2, vi y1, vi y2, vi zz, vi 1, vi 2, vi w, vr o_1496, vr o_1506, .unset, .unset, .unset, .unset, .unset, .unset] [(.int n1_1630)])
              refine K.iload at_115 (pc' := 117) rfl rfl ?_
              refine K.iload at_117 (pc' := 119) rfl rfl ?_
              refine K.iadd at_119 (pc' := 120) rfl (z := (3 : Int32)) (by decide) ?_
              refine K.icmp_ne at_120 (pc1 := 123) rfl (by decide) (pc2 := 148) (by decide) (a := n1_1630.toInt) (b := 3) rfl rfl (fun c120 => ?_) (fun c120 => ?_)
              · exfalso; have o0 : (0 : Int32).toInt = 0 := rfl; have o1 : (1 : Int32).toInt = 1 := rfl; have o2 : (2 : Int32).toInt = 2 := rfl; omega
              · refine K.aload at_123 (pc' := 125) rfl rfl rfl ?_
                have f_1645 : Exa Z h_1626 o_1506 sC := (f_1622.keep K_1631)
                refine K.callv (z := (⟨sC, "size", "()I"⟩ : MethodName)) (argsL := []) (rest := []) at_125 (pc' := 128) rfl (c_size l Z a0 hw n0 h_1626 (a := o_1506) (n := (0 : Int32)) f_1645 f_1639) f_1645 hw22 hw23 (nf_sel hw25 rfl) hw25 hw24 hw3 hw26 (by decide) pd_6 rfl rfl (W := 0) (by simp [Value.category]) (by decide) (by decide) (by decide) (by decide) (fun v_1648 h_1646 q_1647 => ?_)
                obtain ⟨rfl, rfl⟩ := q_1647
                show G h_1626 8 15 (mkF m 128 #[vi p, vi x1, vi x2, vi y1, vi y2, vi zz, vi 1, vi 2, vi w, vr o_1496, vr o_1506, .unset, .unset, .unset, .unset, .unset, .unset] [(.int (0 : Int32))])
                refine K.if_ne at_128 (pc1 := 131) rfl (by decide) (pc2 := 148) (by decide) (a := 0) rfl (fun c128 => ?_) (fun c128 => ?_)
                · exfalso; have o0 : (0 : Int32).toInt = 0 := rfl; have o1 : (1 : Int32).toInt = 1 := rfl; have o2 : (2 : Int32).toInt = 2 := rfl; omega
                · refine K.aload at_131 (pc' := 133) rfl rfl rfl ?_
                  have sz_1650 : n0 ≤ h_1626.size := Nat.le_trans sz_1593 (Nat.le_trans K_1603.1 K_1631.1)
                  refine K.callv (z := (⟨sC, "iterator", "()Ljava/util/Iterator;"⟩ : MethodName)) (argsL := []) (rest := []) at_133 (pc' := 136) rfl (c_it0 l Z a0 hw n0 h_1626 (b := o_1506) sz_1650 f_1645 f_1637) f_1645 hw29 hw30 (nf_sel hw32 rfl) hw32 hw31 hw3 hw33 (by decide) pd_7 rfl rfl (W := 0) (by simp [Value.category]) (by decide) (by decide) (by decide) (by decide) (fun v_1653 h_1651 q_1652 => ?_)
                  obtain ⟨w_1654, rfl, K_1655, f_1656, f_1657, f_1658, f_1659⟩ := q_1652
                  show G h_1651 9 17 (mkF m 136 #[vi p, vi x1, vi x2, vi y1, vi y2, vi zz, vi 1, vi 2, vi w, vr o_1496, vr o_1506, .unset, .unset, .unset, .unset, .unset, .unset] [(.ref w_1654)])
                  refine K.calli (z := (⟨sI, "hasNext", "()Z"⟩ : MethodName)) (argsL := []) (rest := []) at_136 (pc' := 141) rfl (c_has0 l Z a0 hw n0 h_1651 (a := w_1654) f_1658 f_1659) f_1658 hw46 hw47 hw48 rfl hw49 hw50 hw51 hw52 hw53 hw36 hw54 (by decide) pd_4 rfl rfl (W := 0) (by simp [Value.category]) (by decide) (by decide) (by decide) (by decide) (fun v_1662 h_1660 q_1661 => ?_)
                  obtain ⟨rfl, rfl⟩ := q_1661
                  show G h_1651 9 17 (mkF m 141 #[vi p, vi x1, vi x2, vi y1, vi y2, vi zz, vi 1, vi 2, vi w, vr o_1496, vr o_1506, .unset, .unset, .unset, .unset, .unset, .unset] [(.int (b2 (False)))])
                  refine K.ifneB at_141 (pc1 := 144) rfl (by decide) (pc2 := 148) (by decide) (fun c141 => ?_) (fun c141 => ?_)
                  · exfalso; exact c141
                  · refine K.iconst at_144 (pc' := 145) rfl (z := 1) rfl ?_
                    refine K.goto at_145 (by decide) (pc' := 149) (by decide) ?_
                    refine K.istore at_149 (pc' := 151) rfl (L' := #[vi p, vi x1, vi x2, vi y1, vi y2, vi zz, vi 1, vi 2, vi w, vr o_1496, vr o_1506, vi 1, .unset, .unset, .unset, .unset, .unset]) rfl ?_
                    refine K.aload at_151 (pc' := 153) rfl rfl rfl ?_
                    refine K.iload at_153 (pc' := 155) rfl rfl ?_
                    have sz_1664 : n0 ≤ h_1651.size := Nat.le_trans sz_1650 K_1655.1
                    have f_1665 : Old Z n0 h_1651 := ((((f_1579.keep K_1584 all0).keep K_1603 (allS ge_o_1506 (allS f_1571 all0))).keep K_1631 (allS ge_o_1496 (allS ge_o_1506 (allS f_1540 all0)))).keep K_1655 all0)
                    refine K.calls (argsL := [(.int zz)]) (rest := [(.ref o_1496)]) at_155 (pc' := 158) rfl (c_val l Z a0 hw n0 h_1651 (p := zz) (ca := ca) (cc := cc) sz_1664 f_1665 P3 P4 hbx) hw55 hw56 hw57 hw58 (by decide) pd_8 rfl rfl (W := 1) (by simp [Value.category]) (by decide) (by decide) (by decide) (by decide) (fun v_1668 h_1666 q_1667 => ?_)
                    obtain ⟨w_1669, rfl, K_1670, f_1671, f_1672, f_1673⟩ := q_1667
                    show G h_1666 10 18 (mkF m 158 #[vi p, vi x1, vi x2, vi y1, vi y2, vi zz, vi 1, vi 2, vi w, vr o_1496, vr o_1506, vi 1, .unset, .unset, .unset, .unset, .unset] [(.ref w_1669), (.ref o_1496)])
                    have f_1674 : Exa Z h_1666 o_1496 sC := ((f_1640.keep K_1655).keep K_1670)
                    have f_1675 : Fld Z h_1666 o_1496 sC "last" dL (.ref lk_1601) := ((f_1635.keep K_1655 nin0).keep K_1670 nin0)
                    have f_1676 : Fld Z h_1666 o_1496 sC "first" dL (.ref lk_1536) := ((f_1634.keep K_1655 nin0).keep K_1670 nin0)
                    have f_1677 : Fld Z h_1666 o_1496 sC "size" "I" (.int n1_1630) := ((f_1636.keep K_1655 nin0).keep K_1670 nin0)
                    have ne_1678 : lk_1601 ≠ lk_1536 := (Ne.symm (Nat.ne_of_lt (Nat.lt_of_lt_of_le f_1541.lt (Nat.le_trans (Nat.le_trans K_1553.1 (Nat.le_trans K_1569.1 K_1584.1)) f_1604))))
                    have ne_1679 : lk_1601 ≠ o_1506 := (Ne.symm (Nat.ne_of_lt (Nat.lt_of_lt_of_le x_o_1506.lt (Nat.le_trans (Nat.le_trans K_1523.1 (Nat.le_trans K_1538.1 (Nat.le_trans K_1553.1 (Nat.le_trans K_1569.1 K_1584.1)))) f_1604))))
                    have ne_1680 : lk_1601 ≠ o_1496 := (Ne.symm (Nat.ne_of_lt (Nat.lt_of_lt_of_le x_o_1496.lt (Nat.le_trans (Nat.le_trans E_1508.1 (Nat.le_trans K_1523.1 (Nat.le_trans K_1538.1 (Nat.le_trans K_1553.1 (Nat.le_trans K_1569.1 K_1584.1))))) f_1604))))
                    have f_1681 : Fld Z h_1666 lk_1601 sL "element" "Ljava/lang/Object;" (.ref w_1583) := (((f_1607.keep K_1631 (ninS ne_1680 (ninS ne_1679 (ninS ne_1678 nin0)))).keep K_1655 nin0).keep K_1670 nin0)
                    have sz_1682 : n0 ≤ h_1666.size := Nat.le_trans sz_1664 K_1670.1
                    have f_1683 : Exa Z h_1666 lk_1601 sL := (((f_1606.keep K_1631).keep K_1655).keep K_1670)
                    have f_1684 : Fld Z h_1666 lk_1601 sL "next" dL .null := (((f_1608.keep K_1631 (ninS ne_1680 (ninS ne_1679 (ninS ne_1678 nin0)))).keep K_1655 nin0).keep K_1670 nin0)
                    refine K.callv (z := (⟨sC, "add", "(Ljava/lang/Object;)Z"⟩ : MethodName)) (argsL := [(.ref w_1669)]) (rest := []) at_158 (pc' := 161) rfl (c_add1 l Z a0 hw n0 h_1666 (a := o_1496) (e := w_1669) (n := n1_1630) (f0 := lk_1536) (t := lk_1601) (te := w_1583) sz_1682 f_1674 ge_o_1496 f_1683 f_1605 ne_1680 f_1684 f_1681 f_1676 f_1675 f_1677 (by omega)) f_1674 hw62 hw63 (nf_sel hw65 rfl) hw65 hw64 hw3 hw66 (by decide) pd_9 rfl rfl (W := 0) (by simp [Value.category]) (by decide) (by decide) (by decide) (by decide) (fun v_1687 h_1685 q_1686 => ?_)
                    obtain ⟨lk_1689, n1_1690, rfl, K_1691, hn1_w_1688, f_1692, f_1693, f_1694, f_1695, f_1696, f_1697, f_1698, f_1699, f_1700, f_1701⟩ := q_1686
                    show G h_1685 11 20 (mkF m 161 #[vi p, vi x1, vi x2, vi y1, vi y2, vi zz, vi 1, vi 2, vi w, vr o_1496, vr o_1506, vi 1, .unset, .unset, .unset, .unset, .unset] [(.int (b2 (True)))])
                    refine K.pop at_161 (pc' := 162) rfl rfl ?_
                    refine K.aload at_162 (pc' := 164) rfl rfl rfl ?_
                    refine K.iload at_164 (pc' := 166) rfl rfl ?_
                    have sz_1702 : n0 ≤ h_1685.size := Nat.le_trans sz_1682 K_1691.1
                    have f_1703 : Old Z n0 h_1685 := ((f_1665.keep K_1670 all0).keep K_1691 (allS ge_o_1496 (allS f_1605 all0)))
                    refine K.calls (argsL := [(.int w)]) (rest := [(.ref o_1506)]) at_166 (pc' := 169) rfl (c_val l Z a0 hw n0 h_1685 (p := w) (ca := ca) (cc := cc) sz_1702 f_1703 P3 P4 hbx) hw55 hw56 hw57 hw58 (by decide) pd_8 rfl rfl (W := 1) (by simp [Value.category]) (by decide) (by decide) (by decide) (by decide) (fun v_1706 h_1704 q_1705 => ?_)
                    obtain ⟨w_1707, rfl, K_1708, f_1709, f_1710, f_1711⟩ := q_1705
                    show G h_1704 12 21 (mkF m 169 #[vi p, vi x1, vi x2, vi y1, vi y2, vi zz, vi 1, vi 2, vi w, vr o_1496, vr o_1506, vi 1, .unset, .unset, .unset, .unset, .unset] [(.ref w_1707), (.ref o_1506)])
                    have f_1712 : Exa Z h_1704 o_1506 sC := ((((f_1645.keep K_1655).keep K_1670).keep K_1691).keep K_1708)
                    have f_1713 : Fld Z h_1704 o_1506 sC "last" dL .null := ((((f_1638.keep K_1655 nin0).keep K_1670 nin0).keep K_1691 (ninS ne_1558 (ninS (Ne.symm ne_1679) nin0))).keep K_1708 nin0)
                    have f_1714 : Fld Z h_1704 o_1506 sC "size" "I" (.int (0 : Int32)) := ((((f_1639.keep K_1655 nin0).keep K_1670 nin0).keep K_1691 (ninS ne_1558 (ninS (Ne.symm ne_1679) nin0))).keep K_1708 nin0)
                    have sz_1715 : n0 ≤ h_1704.size := Nat.le_trans sz_1702 K_1708.1
                    have f_1716 : Fld Z h_1704 o_1506 sC "first" dL .null := ((((f_1637.keep K_1655 nin0).keep K_1670 nin0).keep K_1691 (ninS ne_1558 (ninS (Ne.symm ne_1679) nin0))).keep K_1708 nin0)
                    refine K.callv (z := (⟨sC, "add", "(Ljava/lang/Object;)Z"⟩ : MethodName)) (argsL := [(.ref w_1707)]) (rest := []) at_169 (pc' := 172) rfl (c_add0 l Z a0 hw n0 h_1704 (a := o_1506) (e := w_1707) (n := (0 : Int32)) sz_1715 f_1712 ge_o_1506 f_1716 f_1713 f_1714 (by first | decide | omega)) f_1712 hw62 hw63 (nf_sel hw65 rfl) hw65 hw64 hw3 hw66 (by decide) pd_9 rfl rfl (W := 0) (by simp [Value.category]) (by decide) (by decide) (by decide) (by decide) (fun v_1719 h_1717 q_1718 => ?_)
                    obtain ⟨lk_1721, n1_1722, rfl, K_1723, hn1_w_1720, f_1724, f_1725, f_1726, f_1727, f_1728, f_1729, f_1730, f_1731⟩ := q_1718
                    show G h_1717 13 23 (mkF m 172 #[vi p, vi x1, vi x2, vi y1, vi y2, vi zz, vi 1, vi 2, vi w, vr o_1496, vr o_1506, vi 1, .unset, .unset, .unset, .unset, .unset] [(.int (b2 (True)))])
                    refine K.pop at_172 (pc' := 173) rfl rfl ?_
                    refine K.iload at_173 (pc' := 175) rfl rfl ?_
                    refine K.if_eq at_175 (pc1 := 178) rfl (by decide) (pc2 := 206) (by decide) (a := 1) rfl (fun c175 => ?_) (fun c175 => ?_)
                    · exfalso; omega
                    · refine K.aload at_178 (pc' := 180) rfl rfl rfl ?_
                      have f_1732 : Exa Z h_1717 o_1496 sC := (((f_1674.keep K_1691).keep K_1708).keep K_1723)
                      have f_1733 : Fld Z h_1717 o_1496 sC "size" "I" (.int n1_1690) := ((f_1701.keep K_1708 nin0).keep K_1723 (ninS (Ne.symm ne_1558) nin0))
                      refine K.callv (z := (⟨sC, "size", "()I"⟩ : MethodName)) (argsL := []) (rest := []) at_180 (pc' := 183) rfl (c_size l Z a0 hw n0 h_1717 (a := o_1496) (n := n1_1690) f_1732 f_1733) f_1732 hw22 hw23 (nf_sel hw25 rfl) hw25 hw24 hw3 hw26 (by decide) pd_6 rfl rfl (W := 0) (by simp [Value.category]) (by decide) (by decide) (by decide) (by decide) (fun v_1736 h_1734 q_1735 => ?_)
                      obtain ⟨rfl, rfl⟩ := q_1735
                      show G h_1717 13 23 (mkF m 183 #[vi p, vi x1, vi x2, vi y1, vi y2, vi zz, vi 1, vi 2, vi w, vr o_1496, vr o_1506, vi 1, .unset, .unset, .unset, .unset, .unset] [(.int n1_1690)])
                      refine K.iload at_183 (pc' := 185) rfl rfl ?_
                      refine K.iload at_185 (pc' := 187) rfl rfl ?_
                      refine K.iadd at_187 (pc' := 188) rfl (z := (3 : Int32)) (by decide) ?_
                      refine K.iconst at_188 (pc' := 189) rfl (z := 1) rfl ?_
                      refine K.iadd at_189 (pc' := 190) rfl (z := (4 : Int32)) (by decide) ?_
                      refine K.icmp_ne at_190 (pc1 := 193) rfl (by decide) (pc2 := 206) (by decide) (a := n1_1690.toInt) (b := 4) rfl rfl (fun c190 => ?_) (fun c190 => ?_)
                      · exfalso; have o0 : (0 : Int32).toInt = 0 := rfl; have o1 : (1 : Int32).toInt = 1 := rfl; have o2 : (2 : Int32).toInt = 2 := rfl; omega
                      · refine K.aload at_193 (pc' := 195) rfl rfl rfl ?_
                        have f_1738 : Exa Z h_1717 o_1506 sC := (f_1712.keep K_1723)
                        refine K.callv (z := (⟨sC, "size", "()I"⟩ : MethodName)) (argsL := []) (rest := []) at_195 (pc' := 198) rfl (c_size l Z a0 hw n0 h_1717 (a := o_1506) (n := n1_1722) f_1738 f_1731) f_1738 hw22 hw23 (nf_sel hw25 rfl) hw25 hw24 hw3 hw26 (by decide) pd_6 rfl rfl (W := 0) (by simp [Value.category]) (by decide) (by decide) (by decide) (by decide) (fun v_1741 h_1739 q_1740 => ?_)
                        obtain ⟨rfl, rfl⟩ := q_1740
                        show G h_1717 13 23 (mkF m 198 #[vi p, vi x1, vi x2, vi y1, vi y2, vi zz, vi 1, vi 2, vi w, vr o_1496, vr o_1506, vi 1, .unset, .unset, .unset, .unset, .unset] [(.int n1_1722)])
                        refine K.iconst at_198 (pc' := 199) rfl (z := 1) rfl ?_
                        refine K.icmp_ne at_199 (pc1 := 202) rfl (by decide) (pc2 := 206) (by decide) (a := n1_1722.toInt) (b := 1) rfl rfl (fun c199 => ?_) (fun c199 => ?_)
                        · exfalso; have o0 : (0 : Int32).toInt = 0 := rfl; have o1 : (1 : Int32).toInt = 1 := rfl; have o2 : (2 : Int32).toInt = 2 := rfl; omega
                        · refine K.iconst at_202 (pc' := 203) rfl (z := 1) rfl ?_
                          refine K.goto at_203 (by decide) (pc' := 207) (by decide) ?_
                          refine K.istore at_207 (pc' := 209) rfl (L' := #[vi p, vi x1, vi x2, vi y1, vi y2, vi zz, vi 1, vi 2, vi w, vr o_1496, vr o_1506, vi 1, .unset, .unset, .unset, .unset, .unset]) rfl ?_
                          refine K.aload at_209 (pc' := 211) rfl rfl rfl ?_
                          have sz_1743 : n0 ≤ h_1717.size := Nat.le_trans sz_1715 K_1723.1
                          refine K.callv (z := (⟨sC, "iterator", "()Ljava/util/Iterator;"⟩ : MethodName)) (argsL := []) (rest := []) at_211 (pc' := 214) rfl (c_it1 l Z a0 hw n0 h_1717 (b := o_1506) (x := lk_1721) sz_1743 f_1738 f_1729) f_1738 hw29 hw30 (nf_sel hw32 rfl) hw32 hw31 hw3 hw33 (by decide) pd_7 rfl rfl (W := 0) (by simp [Value.category]) (by decide) (by decide) (by decide) (by decide) (fun v_1746 h_1744 q_1745 => ?_)
                          obtain ⟨w_1747, rfl, K_1748, f_1749, f_1750, f_1751, f_1752⟩ := q_1745
                          show G h_1744 14 25 (mkF m 214 #[vi p, vi x1, vi x2, vi y1, vi y2, vi zz, vi 1, vi 2, vi w, vr o_1496, vr o_1506, vi 1, .unset, .unset, .unset, .unset, .unset] [(.ref w_1747)])
                          refine K.astore at_214 (pc' := 216) rfl rfl (L' := #[vi p, vi x1, vi x2, vi y1, vi y2, vi zz, vi 1, vi 2, vi w, vr o_1496, vr o_1506, vi 1, vr w_1747, .unset, .unset, .unset, .unset]) rfl ?_
                          refine K.iload at_216 (pc' := 218) rfl rfl ?_
                          refine K.if_eq at_218 (pc1 := 221) rfl (by decide) (pc2 := 246) (by decide) (a := 1) rfl (fun c218 => ?_) (fun c218 => ?_)
                          · exfalso; omega
                          · refine K.aload at_221 (pc' := 223) rfl rfl rfl ?_
                            refine K.iconst at_223 (pc' := 224) rfl (z := 1) rfl ?_
                            refine K.iload at_224 (pc' := 226) rfl rfl ?_
                            have f_1753 : Fld Z h_1744 lk_1721 sL "next" dL .null := (f_1728.keep K_1748 nin0)
                            have f_1754 : Fld Z h_1744 lk_1721 sL "element" "Ljava/lang/Object;" (.ref w_1707) := (f_1727.keep K_1748 nin0)
                            have ne_1755 : w_1707 ≠ o_1506 := (f_1711.elim (fun q => Nat.ne_of_lt (Nat.lt_of_lt_of_le q ge_o_1506)) (fun q => Nat.ne_of_gt (Nat.lt_of_lt_of_le x_o_1506.lt (Nat.le_trans (Nat.le_trans K_1523.1 (Nat.le_trans K_1538.1 (Nat.le_trans K_1553.1 (Nat.le_trans K_1569.1 (Nat.le_trans K_1584.1 (Nat.le_trans K_1603.1 (Nat.le_trans K_1631.1 (Nat.le_trans K_1655.1 (Nat.le_trans K_1670.1 K_1691.1))))))))) q))))
                            have f_1756 : Fld Z h_1744 w_1707 sN "value" "I" (.int w) := ((f_1710.keep K_1723 (ninS ne_1755 nin0)).keep K_1748 nin0)
                            have f_1757 : Exa Z h_1744 lk_1721 sL := (f_1726.keep K_1748)
                            have ne_1758 : lk_1721 ≠ w_1747 := (Nat.ne_of_lt (Nat.lt_of_lt_of_le f_1726.lt (Nat.le_trans (Nat.le_refl _) f_1749)))
                            have ne_1759 : w_1707 ≠ w_1747 := (Nat.ne_of_lt (Nat.lt_of_lt_of_le f_1709.lt (Nat.le_trans K_1723.1 f_1749)))
                            have f_1760 : Exa Z h_1744 w_1707 sN := ((f_1709.keep K_1723).keep K_1748)
                            refine K.calls (argsL := [(.ref w_1747), (.int (1 : Int32)), (.int w)]) (rest := []) at_226 (pc' := 229) rfl (c_st10 l Z a0 hw n0 h_1744 (a := w_1747) (e := w) (lk := lk_1721) (b := w_1707) (v0 := w) f_1751 f_1750 f_1752 f_1757 ne_1758 f_1754 f_1753 ne_1759 f_1760 f_1756) hw78 hw79 hw80 hw81 (by decide) pd_10 rfl rfl (W := 0) (by simp [Value.category]) (by decide) (by decide) (by decide) (by decide) (fun v_1763 h_1761 q_1762 => ?_)
                            obtain ⟨rfl, K_1765, f_1766⟩ := q_1762
                            show G h_1761 14 25 (mkF m 229 #[vi p, vi x1, vi x2, vi y1, vi y2, vi zz, vi 1, vi 2, vi w, vr o_1496, vr o_1506, vi 1, vr w_1747, .unset, .unset, .unset, .unset] [(.int (b2 (w.toInt = w.toInt)))])
                            refine K.ifeqB at_229 (pc1 := 232) rfl (by decide) (pc2 := 246) (by decide) (fun c229 => ?_) (fun c229 => ?_)
                            · exfalso; first | exact c229 rfl | exact c229 trivial
                            · refine K.aload at_232 (pc' := 234) rfl rfl rfl ?_
                              have f_1767 : Exa Z h_1761 w_1747 sI := (f_1751.keep K_1765)
                              refine K.calli (z := (⟨sI, "hasNext", "()Z"⟩ : MethodName)) (argsL := []) (rest := []) at_234 (pc' := 239) rfl (c_has0 l Z a0 hw n0 h_1761 (a := w_1747) f_1767 f_1766) f_1767 hw46 hw47 hw48 rfl hw49 hw50 hw51 hw52 hw53 hw36 hw54 (by decide) pd_4 rfl rfl (W := 0) (by simp [Value.category]) (by decide) (by decide) (by decide) (by decide) (fun v_1770 h_1768 q_1769 => ?_)
                              obtain ⟨rfl, rfl⟩ := q_1769
                              show G h_1761 14 25 (mkF m 239 #[vi p, vi x1, vi x2, vi y1, vi y2, vi zz, vi 1, vi 2, vi w, vr o_1496, vr o_1506, vi 1, vr w_1747, .unset, .unset, .unset, .unset] [(.int (b2 (False)))])
                              refine K.ifneB at_239 (pc1 := 242) rfl (by decide) (pc2 := 246) (by decide) (fun c239 => ?_) (fun c239 => ?_)
                              · exfalso; exact c239
                              · refine K.iconst at_242 (pc' := 243) rfl (z := 1) rfl ?_
                                refine K.goto at_243 (by decide) (pc' := 247) (by decide) ?_
                                refine K.istore at_247 (pc' := 249) rfl (L' := #[vi p, vi x1, vi x2, vi y1, vi y2, vi zz, vi 1, vi 2, vi w, vr o_1496, vr o_1506, vi 1, vr w_1747, .unset, .unset, .unset, .unset]) rfl ?_
                                refine K.iconst at_249 (pc' := 250) rfl (z := 5) rfl ?_
                                refine K.newa at_250 (pc' := 252) rfl hw102 (k := 5) (cap := 5) rfl (by decide) (by decide) (by decide) (by decide) (ad := "[I") (by decide) (fun h_1773 a_1772 g_a_1772 E_1774 A_1775 x_a_1772 => ?_)
                                have sz_1776 : n0 ≤ h_1761.size := Nat.le_trans sz_1743 (Nat.le_trans K_1748.1 K_1765.1)
                                have ge_a_1772 : n0 ≤ a_1772 := g_a_1772 ▸ sz_1776
                                have A_1777 : Ary Z h_1773 a_1772 .int [(.int (0 : Int32)), (.int (0 : Int32)), (.int (0 : Int32)), (.int (0 : Int32)), (.int (0 : Int32))] := A_1775
                                refine K.astore at_252 (pc' := 254) rfl rfl (L' := #[vi p, vi x1, vi x2, vi y1, vi y2, vi zz, vi 1, vi 2, vi w, vr o_1496, vr o_1506, vi 1, vr w_1747, vr a_1772, .unset, .unset, .unset]) rfl ?_
                                refine K.iconst at_254 (pc' := 255) rfl (z := 0) rfl ?_
                                refine K.istore at_255 (pc' := 257) rfl (L' := #[vi p, vi x1, vi x2, vi y1, vi y2, vi zz, vi 1, vi 2, vi w, vr o_1496, vr o_1506, vi 1, vr w_1747, vr a_1772, vi 0, .unset, .unset]) rfl ?_
                                refine K.iload at_257 (pc' := 259) rfl rfl ?_
                                refine K.if_le at_259 (pc1 := 262) rfl (by decide) (pc2 := 271) (by decide) (a := 1) rfl (fun c259 => ?_) (fun c259 => ?_)
                                · exfalso; omega
                                · refine K.aload at_262 (pc' := 264) rfl rfl rfl ?_
                                  refine K.iload at_264 (pc' := 266) rfl rfl ?_
                                  refine K.iloadN at_266 (pc' := 267) rfl rfl ?_
                                  refine K.iast at_267 (pc' := 268) rfl A_1777 (i := 0) rfl (show 0 < 5 by decide) ge_a_1772 (fun h_1778 W_1779 A_1780 => ?_)
                                  have A_1781 : Ary Z h_1778 a_1772 .int [(.int x1), (.int (0 : Int32)), (.int (0 : Int32)), (.int (0 : Int32)), (.int (0 : Int32))] := A_1780
                                  refine K.iinc at_268 (pc' := 271) rfl rfl (z := (1 : Int32)) rfl (L' := #[vi p, vi x1, vi x2, vi y1, vi y2, vi zz, vi 1, vi 2, vi w, vr o_1496, vr o_1506, vi 1, vr w_1747, vr a_1772, vi 1, .unset, .unset]) rfl ?_
                                  refine K.iload at_271 (pc' := 273) rfl rfl ?_
                                  refine K.iconst at_273 (pc' := 274) rfl (z := 1) rfl ?_
                                  refine K.icmp_le at_274 (pc1 := 277) rfl (by decide) (pc2 := 286) (by decide) (a := 1) (b := 1) rfl rfl (fun c274 => ?_) (fun c274 => ?_)
                                  · refine K.iload at_286 (pc' := 288) rfl rfl ?_
                                    refine K.if_le at_288 (pc1 := 291) rfl (by decide) (pc2 := 300) (by decide) (a := 2) rfl (fun c288 => ?_) (fun c288 => ?_)
                                    · exfalso; omega
                                    · refine K.aload at_291 (pc' := 293) rfl rfl rfl ?_
                                      refine K.iload at_293 (pc' := 295) rfl rfl ?_
                                      refine K.iloadN at_295 (pc' := 296) rfl rfl ?_
                                      refine K.iast at_296 (pc' := 297) rfl A_1781 (i := 1) rfl (show 1 < 5 by decide) ge_a_1772 (fun h_1782 W_1783 A_1784 => ?_)
                                      have A_1785 : Ary Z h_1782 a_1772 .int [(.int x1), (.int y1), (.int (0 : Int32)), (.int (0 : Int32)), (.int (0 : Int32))] := A_1784
                                      refine K.iinc at_297 (pc' := 300) rfl rfl (z := (2 : Int32)) rfl (L' := #[vi p, vi x1, vi x2, vi y1, vi y2, vi zz, vi 1, vi 2, vi w, vr o_1496, vr o_1506, vi 1, vr w_1747, vr a_1772, vi 2, .unset, .unset]) rfl ?_
                                      refine K.iload at_300 (pc' := 302) rfl rfl ?_
                                      refine K.iconst at_302 (pc' := 303) rfl (z := 1) rfl ?_
                                      refine K.icmp_le at_303 (pc1 := 306) rfl (by decide) (pc2 := 316) (by decide) (a := 2) (b := 1) rfl rfl (fun c303 => ?_) (fun c303 => ?_)
                                      · exfalso; omega
                                      · refine K.aload at_306 (pc' := 308) rfl rfl rfl ?_
                                        refine K.iload at_308 (pc' := 310) rfl rfl ?_
                                        refine K.iload at_310 (pc' := 312) rfl rfl ?_
                                        refine K.iast at_312 (pc' := 313) rfl A_1785 (i := 2) rfl (show 2 < 5 by decide) ge_a_1772 (fun h_1786 W_1787 A_1788 => ?_)
                                        have A_1789 : Ary Z h_1786 a_1772 .int [(.int x1), (.int y1), (.int y2), (.int (0 : Int32)), (.int (0 : Int32))] := A_1788
                                        refine K.iinc at_313 (pc' := 316) rfl rfl (z := (3 : Int32)) rfl (L' := #[vi p, vi x1, vi x2, vi y1, vi y2, vi zz, vi 1, vi 2, vi w, vr o_1496, vr o_1506, vi 1, vr w_1747, vr a_1772, vi 3, .unset, .unset]) rfl ?_
                                        refine K.aload at_316 (pc' := 318) rfl rfl rfl ?_
                                        refine K.iload at_318 (pc' := 320) rfl rfl ?_
                                        refine K.iload at_320 (pc' := 322) rfl rfl ?_
                                        refine K.iast at_322 (pc' := 323) rfl A_1789 (i := 3) rfl (show 3 < 5 by decide) ge_a_1772 (fun h_1790 W_1791 A_1792 => ?_)
                                        have A_1793 : Ary Z h_1790 a_1772 .int [(.int x1), (.int y1), (.int y2), (.int zz), (.int (0 : Int32))] := A_1792
                                        refine K.iinc at_323 (pc' := 326) rfl rfl (z := (4 : Int32)) rfl (L' := #[vi p, vi x1, vi x2, vi y1, vi y2, vi zz, vi 1, vi 2, vi w, vr o_1496, vr o_1506, vi 1, vr w_1747, vr a_1772, vi 4, .unset, .unset]) rfl ?_
                                        refine K.iload at_326 (pc' := 328) rfl rfl ?_
                                        refine K.istore at_328 (pc' := 330) rfl (L' := #[vi p, vi x1, vi x2, vi y1, vi y2, vi zz, vi 1, vi 2, vi w, vr o_1496, vr o_1506, vi 1, vr w_1747, vr a_1772, vi 4, vi 4, .unset]) rfl ?_
                                        refine K.aload at_330 (pc' := 332) rfl rfl rfl ?_
                                        have f_1794 : Exa Z h_1790 o_1496 sC := (((((((f_1732.keep K_1748).keep K_1765).ext E_1774).wr W_1779).wr W_1783).wr W_1787).wr W_1791)
                                        have ne_1795 : o_1496 ≠ w_1747 := (Nat.ne_of_lt (Nat.lt_of_lt_of_le x_o_1496.lt (Nat.le_trans (Nat.le_trans E_1508.1 (Nat.le_trans K_1523.1 (Nat.le_trans K_1538.1 (Nat.le_trans K_1553.1 (Nat.le_trans K_1569.1 (Nat.le_trans K_1584.1 (Nat.le_trans K_1603.1 (Nat.le_trans K_1631.1 (Nat.le_trans K_1655.1 (Nat.le_trans K_1670.1 (Nat.le_trans K_1691.1 (Nat.le_trans K_1708.1 K_1723.1)))))))))))) f_1749)))
                                        have ne_1796 : o_1496 ≠ a_1772 := (Nat.ne_of_lt (Nat.lt_of_lt_of_le x_o_1496.lt (Nat.le_trans (Nat.le_trans E_1508.1 (Nat.le_trans K_1523.1 (Nat.le_trans K_1538.1 (Nat.le_trans K_1553.1 (Nat.le_trans K_1569.1 (Nat.le_trans K_1584.1 (Nat.le_trans K_1603.1 (Nat.le_trans K_1631.1 (Nat.le_trans K_1655.1 (Nat.le_trans K_1670.1 (Nat.le_trans K_1691.1 (Nat.le_trans K_1708.1 (Nat.le_trans K_1723.1 (Nat.le_trans K_1748.1 K_1765.1)))))))))))))) (Nat.le_of_eq g_a_1772.symm))))
                                        have f_1797 : Fld Z h_1790 o_1496 sC "first" dL (.ref lk_1536) := (((((((((f_1699.keep K_1708 nin0).keep K_1723 (ninS (Ne.symm ne_1558) nin0)).keep K_1748 nin0).keep K_1765 (ninS ne_1795 nin0)).ext E_1774).other W_1779 (Or.inl ne_1796)).other W_1783 (Or.inl ne_1796)).other W_1787 (Or.inl ne_1796)).other W_1791 (Or.inl ne_1796))
                                        have sz_1798 : n0 ≤ h_1790.size := Nat.le_trans sz_1776 (Nat.le_trans E_1774.1 (Nat.le_trans (Keep.of_wr W_1779).1 (Nat.le_trans (Keep.of_wr W_1783).1 (Nat.le_trans (Keep.of_wr W_1787).1 (Keep.of_wr W_1791).1))))
                                        refine K.callv (z := (⟨sC, "iterator", "()Ljava/util/Iterator;"⟩ : MethodName)) (argsL := []) (rest := []) at_332 (pc' := 335) rfl (c_it1 l Z a0 hw n0 h_1790 (b := o_1496) (x := lk_1536) sz_1798 f_1794 f_1797) f_1794 hw29 hw30 (nf_sel hw32 rfl) hw32 hw31 hw3 hw33 (by decide) pd_7 rfl rfl (W := 0) (by simp [Value.category]) (by decide) (by decide) (by decide) (by decide) (fun v_1801 h_1799 q_1800 => ?_)
                                        obtain ⟨w_1802, rfl, K_1803, f_1804, f_1805, f_1806, f_1807⟩ := q_1800
                                        show G h_1799 16 32 (mkF m 335 #[vi p, vi x1, vi x2, vi y1, vi y2, vi zz, vi 1, vi 2, vi w, vr o_1496, vr o_1506, vi 1, vr w_1747, vr a_1772, vi 4, vi 4, .unset] [(.ref w_1802)])
                                        refine K.astore at_335 (pc' := 337) rfl rfl (L' := #[vi p, vi x1, vi x2, vi y1, vi y2, vi zz, vi 1, vi 2, vi w, vr o_1496, vr o_1506, vi 1, vr w_1747, vr a_1772, vi 4, vi 4, vr w_1802]) rfl ?_
                                        refine K.iload at_337 (pc' := 339) rfl rfl ?_
                                        refine K.if_eq at_339 (pc1 := 342) rfl (by decide) (pc2 := 369) (by decide) (a := 1) rfl (fun c339 => ?_) (fun c339 => ?_)
                                        · exfalso; omega
                                        · refine K.aload at_342 (pc' := 344) rfl rfl rfl ?_
                                          refine K.iconst at_344 (pc' := 345) rfl (z := 0) rfl ?_
                                          refine K.iload at_345 (pc' := 347) rfl rfl ?_
                                          refine K.icmp_ge at_347 (pc1 := 350) rfl (by decide) (pc2 := 354) (by decide) (a := 0) (b := 4) rfl rfl (fun c347 => ?_) (fun c347 => ?_)
                                          · exfalso; omega
                                          · refine K.iconst at_350 (pc' := 351) rfl (z := 1) rfl ?_
                                            refine K.goto at_351 (by decide) (pc' := 355) (by decide) ?_
                                            refine K.aload at_355 (pc' := 357) rfl rfl rfl ?_
                                            refine K.iconst at_357 (pc' := 358) rfl (z := 0) rfl ?_
                                            have f_1808 : Ary Z h_1799 a_1772 .int [(.int x1), (.int y1), (.int y2), (.int zz), (.int (0 : Int32))] := (A_1793.keep K_1803 nin0)
                                            refine K.iald at_358 (pc' := 359) rfl f_1808 (i := 0) rfl rfl ?_
                                            have ne_1809 : lk_1536 ≠ w_1747 := (Nat.ne_of_lt (Nat.lt_of_lt_of_le f_1541.lt (Nat.le_trans (Nat.le_trans K_1553.1 (Nat.le_trans K_1569.1 (Nat.le_trans K_1584.1 (Nat.le_trans K_1603.1 (Nat.le_trans K_1631.1 (Nat.le_trans K_1655.1 (Nat.le_trans K_1670.1 (Nat.le_trans K_1691.1 (Nat.le_trans K_1708.1 K_1723.1))))))))) f_1749)))
                                            have ne_1810 : lk_1536 ≠ a_1772 := (Nat.ne_of_lt (Nat.lt_of_lt_of_le f_1541.lt (Nat.le_trans (Nat.le_trans K_1553.1 (Nat.le_trans K_1569.1 (Nat.le_trans K_1584.1 (Nat.le_trans K_1603.1 (Nat.le_trans K_1631.1 (Nat.le_trans K_1655.1 (Nat.le_trans K_1670.1 (Nat.le_trans K_1691.1 (Nat.le_trans K_1708.1 (Nat.le_trans K_1723.1 (Nat.le_trans K_1748.1 K_1765.1))))))))))) (Nat.le_of_eq g_a_1772.symm))))
                                            have f_1811 : Fld Z h_1799 lk_1536 sL "next" dL (.ref lk_1567) := (((((((((((((f_1632.keep K_1655 nin0).keep K_1670 nin0).keep K_1691 (ninS ne_1624 (ninS (Ne.symm ne_1678) nin0))).keep K_1708 nin0).keep K_1723 (ninS ne_1619 nin0)).keep K_1748 nin0).keep K_1765 (ninS ne_1809 nin0)).ext E_1774).other W_1779 (Or.inl ne_1810)).other W_1783 (Or.inl ne_1810)).other W_1787 (Or.inl ne_1810)).other W_1791 (Or.inl ne_1810)).keep K_1803 nin0)
                                            have f_1812 : Fld Z h_1799 lk_1536 sL "element" "Ljava/lang/Object;" (.ref w_1522) := (((((((((((((f_1633.keep K_1655 nin0).keep K_1670 nin0).keep K_1691 (ninS ne_1624 (ninS (Ne.symm ne_1678) nin0))).keep K_1708 nin0).keep K_1723 (ninS ne_1619 nin0)).keep K_1748 nin0).keep K_1765 (ninS ne_1809 nin0)).ext E_1774).other W_1779 (Or.inl ne_1810)).other W_1783 (Or.inl ne_1810)).other W_1787 (Or.inl ne_1810)).other W_1791 (Or.inl ne_1810)).keep K_1803 nin0)
                                            have ne_1813 : w_1522 ≠ o_1496 := (f_1526.elim (fun q => Nat.ne_of_lt (Nat.lt_of_lt_of_le q ge_o_1496)) (fun q => Nat.ne_of_gt (Nat.lt_of_lt_of_le x_o_1496.lt (Nat.le_trans E_1508.1 q))))
                                            have ne_1814 : w_1522 ≠ o_1506 := (f_1526.elim (fun q => Nat.ne_of_lt (Nat.lt_of_lt_of_le q ge_o_1506)) (fun q => Nat.ne_of_gt (Nat.lt_of_lt_of_le x_o_1506.lt (Nat.le_trans (Nat.le_refl _) q))))
                                            have ne_1815 : w_1522 ≠ lk_1567 := (Nat.ne_of_lt (Nat.lt_of_lt_of_le f_1524.lt (Nat.le_trans (Nat.le_trans K_1538.1 K_1553.1) f_1570)))
                                            have ne_1816 : w_1522 ≠ lk_1536 := (Nat.ne_of_lt (Nat.lt_of_lt_of_le f_1524.lt (Nat.le_trans (Nat.le_refl _) f_1539)))
                                            have ne_1817 : w_1522 ≠ lk_1601 := (Nat.ne_of_lt (Nat.lt_of_lt_of_le f_1524.lt (Nat.le_trans (Nat.le_trans K_1538.1 (Nat.le_trans K_1553.1 (Nat.le_trans K_1569.1 K_1584.1))) f_1604)))
                                            have ne_1818 : w_1522 ≠ w_1747 := (Nat.ne_of_lt (Nat.lt_of_lt_of_le f_1524.lt (Nat.le_trans (Nat.le_trans K_1538.1 (Nat.le_trans K_1553.1 (Nat.le_trans K_1569.1 (Nat.le_trans K_1584.1 (Nat.le_trans K_1603.1 (Nat.le_trans K_1631.1 (Nat.le_trans K_1655.1 (Nat.le_trans K_1670.1 (Nat.le_trans K_1691.1 (Nat.le_trans K_1708.1 K_1723.1)))))))))) f_1749)))
                                            have ne_1819 : w_1522 ≠ a_1772 := (Nat.ne_of_lt (Nat.lt_of_lt_of_le f_1524.lt (Nat.le_trans (Nat.le_trans K_1538.1 (Nat.le_trans K_1553.1 (Nat.le_trans K_1569.1 (Nat.le_trans K_1584.1 (Nat.le_trans K_1603.1 (Nat.le_trans K_1631.1 (Nat.le_trans K_1655.1 (Nat.le_trans K_1670.1 (Nat.le_trans K_1691.1 (Nat.le_trans K_1708.1 (Nat.le_trans K_1723.1 (Nat.le_trans K_1748.1 K_1765.1)))))))))))) (Nat.le_of_eq g_a_1772.symm))))
                                            have f_1820 : Fld Z h_1799 w_1522 sN "value" "I" (.int x1) := (((((((((((((((((((f_1525.keep K_1538 (ninS ne_1813 nin0)).keep K_1553 nin0).keep K_1569 (ninS ne_1814 nin0)).keep K_1584 nin0).keep K_1603 (ninS ne_1814 (ninS ne_1815 nin0))).keep K_1631 (ninS ne_1813 (ninS ne_1814 (ninS ne_1816 nin0)))).keep K_1655 nin0).keep K_1670 nin0).keep K_1691 (ninS ne_1813 (ninS ne_1817 nin0))).keep K_1708 nin0).keep K_1723 (ninS ne_1814 nin0)).keep K_1748 nin0).keep K_1765 (ninS ne_1818 nin0)).ext E_1774).other W_1779 (Or.inl ne_1819)).other W_1783 (Or.inl ne_1819)).other W_1787 (Or.inl ne_1819)).other W_1791 (Or.inl ne_1819)).keep K_1803 nin0)
                                            have f_1821 : Exa Z h_1799 lk_1536 sL := ((((((((((((((f_1623.keep K_1631).keep K_1655).keep K_1670).keep K_1691).keep K_1708).keep K_1723).keep K_1748).keep K_1765).ext E_1774).wr W_1779).wr W_1783).wr W_1787).wr W_1791).keep K_1803)
                                            have ne_1822 : lk_1536 ≠ w_1802 := (Nat.ne_of_lt (Nat.lt_of_lt_of_le f_1541.lt (Nat.le_trans (Nat.le_trans K_1553.1 (Nat.le_trans K_1569.1 (Nat.le_trans K_1584.1 (Nat.le_trans K_1603.1 (Nat.le_trans K_1631.1 (Nat.le_trans K_1655.1 (Nat.le_trans K_1670.1 (Nat.le_trans K_1691.1 (Nat.le_trans K_1708.1 (Nat.le_trans K_1723.1 (Nat.le_trans K_1748.1 (Nat.le_trans K_1765.1 (Nat.le_trans E_1774.1 (Nat.le_trans (Keep.of_wr W_1779).1 (Nat.le_trans (Keep.of_wr W_1783).1 (Nat.le_trans (Keep.of_wr W_1787).1 (Keep.of_wr W_1791).1)))))))))))))))) f_1804)))
                                            have ne_1823 : w_1522 ≠ w_1802 := (Nat.ne_of_lt (Nat.lt_of_lt_of_le f_1524.lt (Nat.le_trans (Nat.le_trans K_1538.1 (Nat.le_trans K_1553.1 (Nat.le_trans K_1569.1 (Nat.le_trans K_1584.1 (Nat.le_trans K_1603.1 (Nat.le_trans K_1631.1 (Nat.le_trans K_1655.1 (Nat.le_trans K_1670.1 (Nat.le_trans K_1691.1 (Nat.le_trans K_1708.1 (Nat.le_trans K_1723.1 (Nat.le_trans K_1748.1 (Nat.le_trans K_1765.1 (Nat.le_trans E_1774.1 (Nat.le_trans (Keep.of_wr W_1779).1 (Nat.le_trans (Keep.of_wr W_1783).1 (Nat.le_trans (Keep.of_wr W_1787).1 (Keep.of_wr W_1791).1))))))))))))))))) f_1804)))
                                            have f_1824 : Exa Z h_1799 w_1522 sN := (((((((((((((((((((f_1524.keep K_1538).keep K_1553).keep K_1569).keep K_1584).keep K_1603).keep K_1631).keep K_1655).keep K_1670).keep K_1691).keep K_1708).keep K_1723).keep K_1748).keep K_1765).ext E_1774).wr W_1779).wr W_1783).wr W_1787).wr W_1791).keep K_1803)
                                            refine K.calls (argsL := [(.ref w_1802), (.int (1 : Int32)), (.int x1)]) (rest := []) at_359 (pc' := 362) rfl (c_st11 l Z a0 hw n0 h_1799 (a := w_1802) (e := x1) (lk := lk_1536) (b := w_1522) (v0 := x1) (x := lk_1567) f_1806 f_1805 f_1807 f_1821 ne_1822 f_1812 f_1811 ne_1823 f_1824 f_1820) hw78 hw79 hw80 hw81 (by decide) pd_10 rfl rfl (W := 0) (by simp [Value.category]) (by decide) (by decide) (by decide) (by decide) (fun v_1827 h_1825 q_1826 => ?_)
                                            obtain ⟨rfl, K_1829, f_1830⟩ := q_1826
                                            show G h_1825 16 32 (mkF m 362 #[vi p, vi x1, vi x2, vi y1, vi y2, vi zz, vi 1, vi 2, vi w, vr o_1496, vr o_1506, vi 1, vr w_1747, vr a_1772, vi 4, vi 4, vr w_1802] [(.int (b2 (x1.toInt = x1.toInt)))])
                                            refine K.ifeqB at_362 (pc1 := 365) rfl (by decide) (pc2 := 369) (by decide) (fun c362 => ?_) (fun c362 => ?_)
                                            · exfalso; first | exact c362 rfl | exact c362 trivial
                                            · refine K.iconst at_365 (pc' := 366) rfl (z := 1) rfl ?_
                                              refine K.goto at_366 (by decide) (pc' := 370) (by decide) ?_
                                              refine K.istore at_370 (pc' := 372) rfl (L' := #[vi p, vi x1, vi x2, vi y1, vi y2, vi zz, vi 1, vi 2, vi w, vr o_1496, vr o_1506, vi 1, vr w_1747, vr a_1772, vi 4, vi 4, vr w_1802]) rfl ?_
                                              refine K.iload at_372 (pc' := 374) rfl rfl ?_
                                              refine K.if_eq at_374 (pc1 := 377) rfl (by decide) (pc2 := 404) (by decide) (a := 1) rfl (fun c374 => ?_) (fun c374 => ?_)
                                              · exfalso; omega
                                              · refine K.aload at_377 (pc' := 379) rfl rfl rfl ?_
                                                refine K.iconst at_379 (pc' := 380) rfl (z := 1) rfl ?_
                                                refine K.iload at_380 (pc' := 382) rfl rfl ?_
                                                refine K.icmp_ge at_382 (pc1 := 385) rfl (by decide) (pc2 := 389) (by decide) (a := 1) (b := 4) rfl rfl (fun c382 => ?_) (fun c382 => ?_)
                                                · exfalso; omega
                                                · refine K.iconst at_385 (pc' := 386) rfl (z := 1) rfl ?_
                                                  refine K.goto at_386 (by decide) (pc' := 390) (by decide) ?_
                                                  refine K.aload at_390 (pc' := 392) rfl rfl rfl ?_
                                                  refine K.iconst at_392 (pc' := 393) rfl (z := 1) rfl ?_
                                                  have ne_1831 : a_1772 ≠ w_1802 := (Nat.ne_of_lt (Nat.lt_of_lt_of_le A_1777.lt (Nat.le_trans (Nat.le_trans (Keep.of_wr W_1779).1 (Nat.le_trans (Keep.of_wr W_1783).1 (Nat.le_trans (Keep.of_wr W_1787).1 (Keep.of_wr W_1791).1))) f_1804)))
                                                  have f_1832 : Ary Z h_1825 a_1772 .int [(.int x1), (.int y1), (.int y2), (.int zz), (.int (0 : Int32))] := (f_1808.keep K_1829 (ninS ne_1831 nin0))
                                                  refine K.iald at_393 (pc' := 394) rfl f_1832 (i := 1) rfl rfl ?_
                                                  have ne_1833 : lk_1567 ≠ lk_1601 := (Nat.ne_of_lt (Nat.lt_of_lt_of_le f_1572.lt (Nat.le_trans K_1584.1 f_1604)))
                                                  have ne_1834 : lk_1567 ≠ w_1747 := (Nat.ne_of_lt (Nat.lt_of_lt_of_le f_1572.lt (Nat.le_trans (Nat.le_trans K_1584.1 (Nat.le_trans K_1603.1 (Nat.le_trans K_1631.1 (Nat.le_trans K_1655.1 (Nat.le_trans K_1670.1 (Nat.le_trans K_1691.1 (Nat.le_trans K_1708.1 K_1723.1))))))) f_1749)))
                                                  have ne_1835 : lk_1567 ≠ a_1772 := (Nat.ne_of_lt (Nat.lt_of_lt_of_le f_1572.lt (Nat.le_trans (Nat.le_trans K_1584.1 (Nat.le_trans K_1603.1 (Nat.le_trans K_1631.1 (Nat.le_trans K_1655.1 (Nat.le_trans K_1670.1 (Nat.le_trans K_1691.1 (Nat.le_trans K_1708.1 (Nat.le_trans K_1723.1 (Nat.le_trans K_1748.1 K_1765.1))))))))) (Nat.le_of_eq g_a_1772.symm))))
                                                  have ne_1836 : lk_1567 ≠ w_1802 := (Nat.ne_of_lt (Nat.lt_of_lt_of_le f_1572.lt (Nat.le_trans (Nat.le_trans K_1584.1 (Nat.le_trans K_1603.1 (Nat.le_trans K_1631.1 (Nat.le_trans K_1655.1 (Nat.le_trans K_1670.1 (Nat.le_trans K_1691.1 (Nat.le_trans K_1708.1 (Nat.le_trans K_1723.1 (Nat.le_trans K_1748.1 (Nat.le_trans K_1765.1 (Nat.le_trans E_1774.1 (Nat.le_trans (Keep.of_wr W_1779).1 (Nat.le_trans (Keep.of_wr W_1783).1 (Nat.le_trans (Keep.of_wr W_1787).1 (Keep.of_wr W_1791).1)))))))))))))) f_1804)))
                                                  have f_1837 : Fld Z h_1825 lk_1567 sL "next" dL (.ref lk_1601) := (((((((((((((((f_1609.keep K_1631 (ninS (Ne.symm ne_1615) (ninS ne_1595 (ninS (Ne.symm ne_1620) nin0)))).keep K_1655 nin0).keep K_1670 nin0).keep K_1691 (ninS (Ne.symm ne_1615) (ninS ne_1833 nin0))).keep K_1708 nin0).keep K_1723 (ninS ne_1595 nin0)).keep K_1748 nin0).keep K_1765 (ninS ne_1834 nin0)).ext E_1774).other W_1779 (Or.inl ne_1835)).other W_1783 (Or.inl ne_1835)).other W_1787 (Or.inl ne_1835)).other W_1791 (Or.inl ne_1835)).keep K_1803 nin0).keep K_1829 (ninS ne_1836 nin0))
                                                  have f_1838 : Fld Z h_1825 lk_1567 sL "element" "Ljava/lang/Object;" (.ref w_1552) := (((((((((((((((f_1610.keep K_1631 (ninS (Ne.symm ne_1615) (ninS ne_1595 (ninS (Ne.symm ne_1620) nin0)))).keep K_1655 nin0).keep K_1670 nin0).keep K_1691 (ninS (Ne.symm ne_1615) (ninS ne_1833 nin0))).keep K_1708 nin0).keep K_1723 (ninS ne_1595 nin0)).keep K_1748 nin0).keep K_1765 (ninS ne_1834 nin0)).ext E_1774).other W_1779 (Or.inl ne_1835)).other W_1783 (Or.inl ne_1835)).other W_1787 (Or.inl ne_1835)).other W_1791 (Or.inl ne_1835)).keep K_1803 nin0).keep K_1829 (ninS ne_1836 nin0))
                                                  have ne_1839 : w_1552 ≠ o_1506 := (f_1556.elim (fun q => Nat.ne_of_lt (Nat.lt_of_lt_of_le q ge_o_1506)) (fun q => Nat.ne_of_gt (Nat.lt_of_lt_of_le x_o_1506.lt (Nat.le_trans (Nat.le_trans K_1523.1 K_1538.1) q))))
                                                  have ne_1840 : w_1552 ≠ lk_1567 := (Nat.ne_of_lt (Nat.lt_of_lt_of_le f_1554.lt (Nat.le_trans (Nat.le_refl _) f_1570)))
                                                  have ne_1841 : w_1552 ≠ lk_1536 := (f_1556.elim (fun q => Nat.ne_of_lt (Nat.lt_of_lt_of_le q f_1540)) (fun q => Nat.ne_of_gt (Nat.lt_of_lt_of_le f_1541.lt (Nat.le_trans (Nat.le_refl _) q))))
                                                  have ne_1842 : w_1552 ≠ o_1496 := (f_1556.elim (fun q => Nat.ne_of_lt (Nat.lt_of_lt_of_le q ge_o_1496)) (fun q => Nat.ne_of_gt (Nat.lt_of_lt_of_le x_o_1496.lt (Nat.le_trans (Nat.le_trans E_1508.1 (Nat.le_trans K_1523.1 K_1538.1)) q))))
                                                  have ne_1843 : w_1552 ≠ lk_1601 := (Nat.ne_of_lt (Nat.lt_of_lt_of_le f_1554.lt (Nat.le_trans (Nat.le_trans K_1569.1 K_1584.1) f_1604)))
                                                  have ne_1844 : w_1552 ≠ w_1747 := (Nat.ne_of_lt (Nat.lt_of_lt_of_le f_1554.lt (Nat.le_trans (Nat.le_trans K_1569.1 (Nat.le_trans K_1584.1 (Nat.le_trans K_1603.1 (Nat.le_trans K_1631.1 (Nat.le_trans K_1655.1 (Nat.le_trans K_1670.1 (Nat.le_trans K_1691.1 (Nat.le_trans K_1708.1 K_1723.1)))))))) f_1749)))
                                                  have ne_1845 : w_1552 ≠ a_1772 := (Nat.ne_of_lt (Nat.lt_of_lt_of_le f_1554.lt (Nat.le_trans (Nat.le_trans K_1569.1 (Nat.le_trans K_1584.1 (Nat.le_trans K_1603.1 (Nat.le_trans K_1631.1 (Nat.le_trans K_1655.1 (Nat.le_trans K_1670.1 (Nat.le_trans K_1691.1 (Nat.le_trans K_1708.1 (Nat.le_trans K_1723.1 (Nat.le_trans K_1748.1 K_1765.1)))))))))) (Nat.le_of_eq g_a_1772.symm))))
                                                  have ne_1846 : w_1552 ≠ w_1802 := (Nat.ne_of_lt (Nat.lt_of_lt_of_le f_1554.lt (Nat.le_trans (Nat.le_trans K_1569.1 (Nat.le_trans K_1584.1 (Nat.le_trans K_1603.1 (Nat.le_trans K_1631.1 (Nat.le_trans K_1655.1 (Nat.le_trans K_1670.1 (Nat.le_trans K_1691.1 (Nat.le_trans K_1708.1 (Nat.le_trans K_1723.1 (Nat.le_trans K_1748.1 (Nat.le_trans K_1765.1 (Nat.le_trans E_1774.1 (Nat.le_trans (Keep.of_wr W_1779).1 (Nat.le_trans (Keep.of_wr W_1783).1 (Nat.le_trans (Keep.of_wr W_1787).1 (Keep.of_wr W_1791).1))))))))))))))) f_1804)))
                                                  have f_1847 : Fld Z h_1825 w_1552 sN "value" "I" (.int y1) := ((((((((((((((((((f_1555.keep K_1569 (ninS ne_1839 nin0)).keep K_1584 nin0).keep K_1603 (ninS ne_1839 (ninS ne_1840 nin0))).keep K_1631 (ninS ne_1842 (ninS ne_1839 (ninS ne_1841 nin0)))).keep K_1655 nin0).keep K_1670 nin0).keep K_1691 (ninS ne_1842 (ninS ne_1843 nin0))).keep K_1708 nin0).keep K_1723 (ninS ne_1839 nin0)).keep K_1748 nin0).keep K_1765 (ninS ne_1844 nin0)).ext E_1774).other W_1779 (Or.inl ne_1845)).other W_1783 (Or.inl ne_1845)).other W_1787 (Or.inl ne_1845)).other W_1791 (Or.inl ne_1845)).keep K_1803 nin0).keep K_1829 (ninS ne_1846 nin0))
                                                  have f_1848 : Exa Z h_1825 w_1802 sI := (f_1806.keep K_1829)
                                                  have f_1849 : Exa Z h_1825 lk_1567 sL := ((((((((((((((((f_1594.keep K_1603).keep K_1631).keep K_1655).keep K_1670).keep K_1691).keep K_1708).keep K_1723).keep K_1748).keep K_1765).ext E_1774).wr W_1779).wr W_1783).wr W_1787).wr W_1791).keep K_1803).keep K_1829)
                                                  have f_1850 : Exa Z h_1825 w_1552 sN := ((((((((((((((((((f_1554.keep K_1569).keep K_1584).keep K_1603).keep K_1631).keep K_1655).keep K_1670).keep K_1691).keep K_1708).keep K_1723).keep K_1748).keep K_1765).ext E_1774).wr W_1779).wr W_1783).wr W_1787).wr W_1791).keep K_1803).keep K_1829)
                                                  refine K.calls (argsL := [(.ref w_1802), (.int (1 : Int32)), (.int y1)]) (rest := []) at_394 (pc' := 397) rfl (c_st11 l Z a0 hw n0 h_1825 (a := w_1802) (e := y1) (lk := lk_1567) (b := w_1552) (v0 := y1) (x := lk_1601) f_1848 f_1805 f_1830 f_1849 ne_1836 f_1838 f_1837 ne_1846 f_1850 f_1847) hw78 hw79 hw80 hw81 (by decide) pd_10 rfl rfl (W := 0) (by simp [Value.category]) (by decide) (by decide) (by decide) (by decide) (fun v_1853 h_1851 q_1852 => ?_)
                                                  obtain ⟨rfl, K_1855, f_1856⟩ := q_1852
                                                  show G h_1851 16 32 (mkF m 397 #[vi p, vi x1, vi x2, vi y1, vi y2, vi zz, vi 1, vi 2, vi w, vr o_1496, vr o_1506, vi 1, vr w_1747, vr a_1772, vi 4, vi 4, vr w_1802] [(.int (b2 (y1.toInt = y1.toInt)))])
                                                  refine K.ifeqB at_397 (pc1 := 400) rfl (by decide) (pc2 := 404) (by decide) (fun c397 => ?_) (fun c397 => ?_)
                                                  · exfalso; first | exact c397 rfl | exact c397 trivial
                                                  · refine K.iconst at_400 (pc' := 401) rfl (z := 1) rfl ?_
                                                    refine K.goto at_401 (by decide) (pc' := 405) (by decide) ?_
                                                    refine K.istore at_405 (pc' := 407) rfl (L' := #[vi p, vi x1, vi x2, vi y1, vi y2, vi zz, vi 1, vi 2, vi w, vr o_1496, vr o_1506, vi 1, vr w_1747, vr a_1772, vi 4, vi 4, vr w_1802]) rfl ?_
                                                    refine K.iload at_407 (pc' := 409) rfl rfl ?_
                                                    refine K.if_eq at_409 (pc1 := 412) rfl (by decide) (pc2 := 439) (by decide) (a := 1) rfl (fun c409 => ?_) (fun c409 => ?_)
                                                    · exfalso; omega
                                                    · refine K.aload at_412 (pc' := 414) rfl rfl rfl ?_
                                                      refine K.iconst at_414 (pc' := 415) rfl (z := 2) rfl ?_
                                                      refine K.iload at_415 (pc' := 417) rfl rfl ?_
                                                      refine K.icmp_ge at_417 (pc1 := 420) rfl (by decide) (pc2 := 424) (by decide) (a := 2) (b := 4) rfl rfl (fun c417 => ?_) (fun c417 => ?_)
                                                      · exfalso; omega
                                                      · refine K.iconst at_420 (pc' := 421) rfl (z := 1) rfl ?_
                                                        refine K.goto at_421 (by decide) (pc' := 425) (by decide) ?_
                                                        refine K.aload at_425 (pc' := 427) rfl rfl rfl ?_
                                                        refine K.iconst at_427 (pc' := 428) rfl (z := 2) rfl ?_
                                                        have f_1857 : Ary Z h_1851 a_1772 .int [(.int x1), (.int y1), (.int y2), (.int zz), (.int (0 : Int32))] := (f_1832.keep K_1855 (ninS ne_1831 nin0))
                                                        refine K.iald at_428 (pc' := 429) rfl f_1857 (i := 2) rfl rfl ?_
                                                        have ne_1858 : lk_1601 ≠ w_1747 := (Nat.ne_of_lt (Nat.lt_of_lt_of_le f_1606.lt (Nat.le_trans (Nat.le_trans K_1631.1 (Nat.le_trans K_1655.1 (Nat.le_trans K_1670.1 (Nat.le_trans K_1691.1 (Nat.le_trans K_1708.1 K_1723.1))))) f_1749)))
                                                        have ne_1859 : lk_1601 ≠ a_1772 := (Nat.ne_of_lt (Nat.lt_of_lt_of_le f_1606.lt (Nat.le_trans (Nat.le_trans K_1631.1 (Nat.le_trans K_1655.1 (Nat.le_trans K_1670.1 (Nat.le_trans K_1691.1 (Nat.le_trans K_1708.1 (Nat.le_trans K_1723.1 (Nat.le_trans K_1748.1 K_1765.1))))))) (Nat.le_of_eq g_a_1772.symm))))
                                                        have ne_1860 : lk_1601 ≠ w_1802 := (Nat.ne_of_lt (Nat.lt_of_lt_of_le f_1606.lt (Nat.le_trans (Nat.le_trans K_1631.1 (Nat.le_trans K_1655.1 (Nat.le_trans K_1670.1 (Nat.le_trans K_1691.1 (Nat.le_trans K_1708.1 (Nat.le_trans K_1723.1 (Nat.le_trans K_1748.1 (Nat.le_trans K_1765.1 (Nat.le_trans E_1774.1 (Nat.le_trans (Keep.of_wr W_1779).1 (Nat.le_trans (Keep.of_wr W_1783).1 (Nat.le_trans (Keep.of_wr W_1787).1 (Keep.of_wr W_1791).1)))))))))))) f_1804)))
                                                        have f_1861 : Fld Z h_1851 lk_1601 sL "next" dL (.ref lk_1689) := ((((((((((((f_1697.keep K_1708 nin0).keep K_1723 (ninS ne_1679 nin0)).keep K_1748 nin0).keep K_1765 (ninS ne_1858 nin0)).ext E_1774).other W_1779 (Or.inl ne_1859)).other W_1783 (Or.inl ne_1859)).other W_1787 (Or.inl ne_1859)).other W_1791 (Or.inl ne_1859)).keep K_1803 nin0).keep K_1829 (ninS ne_1860 nin0)).keep K_1855 (ninS ne_1860 nin0))
                                                        have f_1862 : Fld Z h_1851 lk_1601 sL "element" "Ljava/lang/Object;" (.ref w_1583) := ((((((((((((f_1698.keep K_1708 nin0).keep K_1723 (ninS ne_1679 nin0)).keep K_1748 nin0).keep K_1765 (ninS ne_1858 nin0)).ext E_1774).other W_1779 (Or.inl ne_1859)).other W_1783 (Or.inl ne_1859)).other W_1787 (Or.inl ne_1859)).other W_1791 (Or.inl ne_1859)).keep K_1803 nin0).keep K_1829 (ninS ne_1860 nin0)).keep K_1855 (ninS ne_1860 nin0))
                                                        have ne_1863 : w_1583 ≠ lk_1567 := (f_1587.elim (fun q => Nat.ne_of_lt (Nat.lt_of_lt_of_le q f_1571)) (fun q => Nat.ne_of_gt (Nat.lt_of_lt_of_le f_1572.lt (Nat.le_trans (Nat.le_refl _) q))))
                                                        have ne_1864 : w_1583 ≠ o_1506 := (f_1587.elim (fun q => Nat.ne_of_lt (Nat.lt_of_lt_of_le q ge_o_1506)) (fun q => Nat.ne_of_gt (Nat.lt_of_lt_of_le x_o_1506.lt (Nat.le_trans (Nat.le_trans K_1523.1 (Nat.le_trans K_1538.1 (Nat.le_trans K_1553.1 K_1569.1))) q))))
                                                        have ne_1865 : w_1583 ≠ lk_1536 := (f_1587.elim (fun q => Nat.ne_of_lt (Nat.lt_of_lt_of_le q f_1540)) (fun q => Nat.ne_of_gt (Nat.lt_of_lt_of_le f_1541.lt (Nat.le_trans (Nat.le_trans K_1553.1 K_1569.1) q))))
                                                        have ne_1866 : w_1583 ≠ o_1496 := (f_1587.elim (fun q => Nat.ne_of_lt (Nat.lt_of_lt_of_le q ge_o_1496)) (fun q => Nat.ne_of_gt (Nat.lt_of_lt_of_le x_o_1496.lt (Nat.le_trans (Nat.le_trans E_1508.1 (Nat.le_trans K_1523.1 (Nat.le_trans K_1538.1 (Nat.le_trans K_1553.1 K_1569.1)))) q))))
                                                        have ne_1867 : w_1583 ≠ lk_1601 := (Nat.ne_of_lt (Nat.lt_of_lt_of_le f_1585.lt (Nat.le_trans (Nat.le_refl _) f_1604)))
                                                        have ne_1868 : w_1583 ≠ w_1747 := (Nat.ne_of_lt (Nat.lt_of_lt_of_le f_1585.lt (Nat.le_trans (Nat.le_trans K_1603.1 (Nat.le_trans K_1631.1 (Nat.le_trans K_1655.1 (Nat.le_trans K_1670.1 (Nat.le_trans K_1691.1 (Nat.le_trans K_1708.1 K_1723.1)))))) f_1749)))
                                                        have ne_1869 : w_1583 ≠ a_1772 := (Nat.ne_of_lt (Nat.lt_of_lt_of_le f_1585.lt (Nat.le_trans (Nat.le_trans K_1603.1 (Nat.le_trans K_1631.1 (Nat.le_trans K_1655.1 (Nat.le_trans K_1670.1 (Nat.le_trans K_1691.1 (Nat.le_trans K_1708.1 (Nat.le_trans K_1723.1 (Nat.le_trans K_1748.1 K_1765.1)))))))) (Nat.le_of_eq g_a_1772.symm))))
                                                        have ne_1870 : w_1583 ≠ w_1802 := (Nat.ne_of_lt (Nat.lt_of_lt_of_le f_1585.lt (Nat.le_trans (Nat.le_trans K_1603.1 (Nat.le_trans K_1631.1 (Nat.le_trans K_1655.1 (Nat.le_trans K_1670.1 (Nat.le_trans K_1691.1 (Nat.le_trans K_1708.1 (Nat.le_trans K_1723.1 (Nat.le_trans K_1748.1 (Nat.le_trans K_1765.1 (Nat.le_trans E_1774.1 (Nat.le_trans (Keep.of_wr W_1779).1 (Nat.le_trans (Keep.of_wr W_1783).1 (Nat.le_trans (Keep.of_wr W_1787).1 (Keep.of_wr W_1791).1))))))))))))) f_1804)))
                                                        have f_1871 : Fld Z h_1851 w_1583 sN "value" "I" (.int y2) := (((((((((((((((((f_1586.keep K_1603 (ninS ne_1864 (ninS ne_1863 nin0))).keep K_1631 (ninS ne_1866 (ninS ne_1864 (ninS ne_1865 nin0)))).keep K_1655 nin0).keep K_1670 nin0).keep K_1691 (ninS ne_1866 (ninS ne_1867 nin0))).keep K_1708 nin0).keep K_1723 (ninS ne_1864 nin0)).keep K_1748 nin0).keep K_1765 (ninS ne_1868 nin0)).ext E_1774).other W_1779 (Or.inl ne_1869)).other W_1783 (Or.inl ne_1869)).other W_1787 (Or.inl ne_1869)).other W_1791 (Or.inl ne_1869)).keep K_1803 nin0).keep K_1829 (ninS ne_1870 nin0)).keep K_1855 (ninS ne_1870 nin0))
                                                        have f_1872 : Exa Z h_1851 w_1802 sI := (f_1848.keep K_1855)
                                                        have f_1873 : Exa Z h_1851 lk_1601 sL := (((((((((((((f_1683.keep K_1691).keep K_1708).keep K_1723).keep K_1748).keep K_1765).ext E_1774).wr W_1779).wr W_1783).wr W_1787).wr W_1791).keep K_1803).keep K_1829).keep K_1855)
                                                        have f_1874 : Exa Z h_1851 w_1583 sN := (((((((((((((((((f_1585.keep K_1603).keep K_1631).keep K_1655).keep K_1670).keep K_1691).keep K_1708).keep K_1723).keep K_1748).keep K_1765).ext E_1774).wr W_1779).wr W_1783).wr W_1787).wr W_1791).keep K_1803).keep K_1829).keep K_1855)
                                                        refine K.calls (argsL := [(.ref w_1802), (.int (1 : Int32)), (.int y2)]) (rest := []) at_429 (pc' := 432) rfl (c_st11 l Z a0 hw n0 h_1851 (a := w_1802) (e := y2) (lk := lk_1601) (b := w_1583) (v0 := y2) (x := lk_1689) f_1872 f_1805 f_1856 f_1873 ne_1860 f_1862 f_1861 ne_1870 f_1874 f_1871) hw78 hw79 hw80 hw81 (by decide) pd_10 rfl rfl (W := 0) (by simp [Value.category]) (by decide) (by decide) (by decide) (by decide) (fun v_1877 h_1875 q_1876 => ?_)
                                                        obtain ⟨rfl, K_1879, f_1880⟩ := q_1876
                                                        show G h_1875 16 32 (mkF m 432 #[vi p, vi x1, vi x2, vi y1, vi y2, vi zz, vi 1, vi 2, vi w, vr o_1496, vr o_1506, vi 1, vr w_1747, vr a_1772, vi 4, vi 4, vr w_1802] [(.int (b2 (y2.toInt = y2.toInt)))])
                                                        refine K.ifeqB at_432 (pc1 := 435) rfl (by decide) (pc2 := 439) (by decide) (fun c432 => ?_) (fun c432 => ?_)
                                                        · exfalso; first | exact c432 rfl | exact c432 trivial
                                                        · refine K.iconst at_435 (pc' := 436) rfl (z := 1) rfl ?_
                                                          refine K.goto at_436 (by decide) (pc' := 440) (by decide) ?_
                                                          refine K.istore at_440 (pc' := 442) rfl (L' := #[vi p, vi x1, vi x2, vi y1, vi y2, vi zz, vi 1, vi 2, vi w, vr o_1496, vr o_1506, vi 1, vr w_1747, vr a_1772, vi 4, vi 4, vr w_1802]) rfl ?_
                                                          refine K.iload at_442 (pc' := 444) rfl rfl ?_
                                                          refine K.if_eq at_444 (pc1 := 447) rfl (by decide) (pc2 := 474) (by decide) (a := 1) rfl (fun c444 => ?_) (fun c444 => ?_)
                                                          · exfalso; omega
                                                          · refine K.aload at_447 (pc' := 449) rfl rfl rfl ?_
                                                            refine K.iconst at_449 (pc' := 450) rfl (z := 3) rfl ?_
                                                            refine K.iload at_450 (pc' := 452) rfl rfl ?_
                                                            refine K.icmp_ge at_452 (pc1 := 455) rfl (by decide) (pc2 := 459) (by decide) (a := 3) (b := 4) rfl rfl (fun c452 => ?_) (fun c452 => ?_)
                                                            · exfalso; omega
                                                            · refine K.iconst at_455 (pc' := 456) rfl (z := 1) rfl ?_
                                                              refine K.goto at_456 (by decide) (pc' := 460) (by decide) ?_
                                                              refine K.aload at_460 (pc' := 462) rfl rfl rfl ?_
                                                              refine K.iconst at_462 (pc' := 463) rfl (z := 3) rfl ?_
                                                              have f_1881 : Ary Z h_1875 a_1772 .int [(.int x1), (.int y1), (.int y2), (.int zz), (.int (0 : Int32))] := (f_1857.keep K_1879 (ninS ne_1831 nin0))
                                                              refine K.iald at_463 (pc' := 464) rfl f_1881 (i := 3) rfl rfl ?_
                                                              have ne_1882 : lk_1689 ≠ o_1506 := (Ne.symm (Nat.ne_of_lt (Nat.lt_of_lt_of_le x_o_1506.lt (Nat.le_trans (Nat.le_trans K_1523.1 (Nat.le_trans K_1538.1 (Nat.le_trans K_1553.1 (Nat.le_trans K_1569.1 (Nat.le_trans K_1584.1 (Nat.le_trans K_1603.1 (Nat.le_trans K_1631.1 (Nat.le_trans K_1655.1 K_1670.1)))))))) f_1692))))
                                                              have ne_1883 : lk_1689 ≠ w_1747 := (Nat.ne_of_lt (Nat.lt_of_lt_of_le f_1694.lt (Nat.le_trans (Nat.le_trans K_1708.1 K_1723.1) f_1749)))
                                                              have ne_1884 : lk_1689 ≠ a_1772 := (Nat.ne_of_lt (Nat.lt_of_lt_of_le f_1694.lt (Nat.le_trans (Nat.le_trans K_1708.1 (Nat.le_trans K_1723.1 (Nat.le_trans K_1748.1 K_1765.1))) (Nat.le_of_eq g_a_1772.symm))))
                                                              have ne_1885 : lk_1689 ≠ w_1802 := (Nat.ne_of_lt (Nat.lt_of_lt_of_le f_1694.lt (Nat.le_trans (Nat.le_trans K_1708.1 (Nat.le_trans K_1723.1 (Nat.le_trans K_1748.1 (Nat.le_trans K_1765.1 (Nat.le_trans E_1774.1 (Nat.le_trans (Keep.of_wr W_1779).1 (Nat.le_trans (Keep.of_wr W_1783).1 (Nat.le_trans (Keep.of_wr W_1787).1 (Keep.of_wr W_1791).1)))))))) f_1804)))
                                                              have f_1886 : Fld Z h_1875 lk_1689 sL "next" dL .null := (((((((((((((f_1696.keep K_1708 nin0).keep K_1723 (ninS ne_1882 nin0)).keep K_1748 nin0).keep K_1765 (ninS ne_1883 nin0)).ext E_1774).other W_1779 (Or.inl ne_1884)).other W_1783 (Or.inl ne_1884)).other W_1787 (Or.inl ne_1884)).other W_1791 (Or.inl ne_1884)).keep K_1803 nin0).keep K_1829 (ninS ne_1885 nin0)).keep K_1855 (ninS ne_1885 nin0)).keep K_1879 (ninS ne_1885 nin0))
                                                              have f_1887 : Fld Z h_1875 lk_1689 sL "element" "Ljava/lang/Object;" (.ref w_1669) := (((((((((((((f_1695.keep K_1708 nin0).keep K_1723 (ninS ne_1882 nin0)).keep K_1748 nin0).keep K_1765 (ninS ne_1883 nin0)).ext E_1774).other W_1779 (Or.inl ne_1884)).other W_1783 (Or.inl ne_1884)).other W_1787 (Or.inl ne_1884)).other W_1791 (Or.inl ne_1884)).keep K_1803 nin0).keep K_1829 (ninS ne_1885 nin0)).keep K_1855 (ninS ne_1885 nin0)).keep K_1879 (ninS ne_1885 nin0))
                                                              have ne_1888 : w_1669 ≠ lk_1601 := (f_1673.elim (fun q => Nat.ne_of_lt (Nat.lt_of_lt_of_le q f_1605)) (fun q => Nat.ne_of_gt (Nat.lt_of_lt_of_le f_1606.lt (Nat.le_trans (Nat.le_trans K_1631.1 K_1655.1) q))))
                                                              have ne_1889 : w_1669 ≠ o_1496 := (f_1673.elim (fun q => Nat.ne_of_lt (Nat.lt_of_lt_of_le q ge_o_1496)) (fun q => Nat.ne_of_gt (Nat.lt_of_lt_of_le x_o_1496.lt (Nat.le_trans (Nat.le_trans E_1508.1 (Nat.le_trans K_1523.1 (Nat.le_trans K_1538.1 (Nat.le_trans K_1553.1 (Nat.le_trans K_1569.1 (Nat.le_trans K_1584.1 (Nat.le_trans K_1603.1 (Nat.le_trans K_1631.1 K_1655.1)))))))) q))))
                                                              have ne_1890 : w_1669 ≠ o_1506 := (f_1673.elim (fun q => Nat.ne_of_lt (Nat.lt_of_lt_of_le q ge_o_1506)) (fun q => Nat.ne_of_gt (Nat.lt_of_lt_of_le x_o_1506.lt (Nat.le_trans (Nat.le_trans K_1523.1 (Nat.le_trans K_1538.1 (Nat.le_trans K_1553.1 (Nat.le_trans K_1569.1 (Nat.le_trans K_1584.1 (Nat.le_trans K_1603.1 (Nat.le_trans K_1631.1 K_1655.1))))))) q))))
                                                              have ne_1891 : w_1669 ≠ w_1747 := (Nat.ne_of_lt (Nat.lt_of_lt_of_le f_1671.lt (Nat.le_trans (Nat.le_trans K_1691.1 (Nat.le_trans K_1708.1 K_1723.1)) f_1749)))
                                                              have ne_1892 : w_1669 ≠ a_1772 := (Nat.ne_of_lt (Nat.lt_of_lt_of_le f_1671.lt (Nat.le_trans (Nat.le_trans K_1691.1 (Nat.le_trans K_1708.1 (Nat.le_trans K_1723.1 (Nat.le_trans K_1748.1 K_1765.1)))) (Nat.le_of_eq g_a_1772.symm))))
                                                              have ne_1893 : w_1669 ≠ w_1802 := (Nat.ne_of_lt (Nat.lt_of_lt_of_le f_1671.lt (Nat.le_trans (Nat.le_trans K_1691.1 (Nat.le_trans K_1708.1 (Nat.le_trans K_1723.1 (Nat.le_trans K_1748.1 (Nat.le_trans K_1765.1 (Nat.le_trans E_1774.1 (Nat.le_trans (Keep.of_wr W_1779).1 (Nat.le_trans (Keep.of_wr W_1783).1 (Nat.le_trans (Keep.of_wr W_1787).1 (Keep.of_wr W_1791).1))))))))) f_1804)))
                                                              have f_1894 : Fld Z h_1875 w_1669 sN "value" "I" (.int zz) := ((((((((((((((f_1672.keep K_1691 (ninS ne_1889 (ninS ne_1888 nin0))).keep K_1708 nin0).keep K_1723 (ninS ne_1890 nin0)).keep K_1748 nin0).keep K_1765 (ninS ne_1891 nin0)).ext E_1774).other W_1779 (Or.inl ne_1892)).other W_1783 (Or.inl ne_1892)).other W_1787 (Or.inl ne_1892)).other W_1791 (Or.inl ne_1892)).keep K_1803 nin0).keep K_1829 (ninS ne_1893 nin0)).keep K_1855 (ninS ne_1893 nin0)).keep K_1879 (ninS ne_1893 nin0))
                                                              have f_1895 : Exa Z h_1875 w_1802 sI := (f_1872.keep K_1879)
                                                              have f_1896 : Exa Z h_1875 lk_1689 sL := (((((((((((((f_1694.keep K_1708).keep K_1723).keep K_1748).keep K_1765).ext E_1774).wr W_1779).wr W_1783).wr W_1787).wr W_1791).keep K_1803).keep K_1829).keep K_1855).keep K_1879)
                                                              have f_1897 : Exa Z h_1875 w_1669 sN := ((((((((((((((f_1671.keep K_1691).keep K_1708).keep K_1723).keep K_1748).keep K_1765).ext E_1774).wr W_1779).wr W_1783).wr W_1787).wr W_1791).keep K_1803).keep K_1829).keep K_1855).keep K_1879)
                                                              refine K.calls (argsL := [(.ref w_1802), (.int (1 : Int32)), (.int zz)]) (rest := []) at_464 (pc' := 467) rfl (c_st10 l Z a0 hw n0 h_1875 (a := w_1802) (e := zz) (lk := lk_1689) (b := w_1669) (v0 := zz) f_1895 f_1805 f_1880 f_1896 ne_1885 f_1887 f_1886 ne_1893 f_1897 f_1894) hw78 hw79 hw80 hw81 (by decide) pd_10 rfl rfl (W := 0) (by simp [Value.category]) (by decide) (by decide) (by decide) (by decide) (fun v_1900 h_1898 q_1899 => ?_)
                                                              obtain ⟨rfl, K_1902, f_1903⟩ := q_1899
                                                              show G h_1898 16 32 (mkF m 467 #[vi p, vi x1, vi x2, vi y1, vi y2, vi zz, vi 1, vi 2, vi w, vr o_1496, vr o_1506, vi 1, vr w_1747, vr a_1772, vi 4, vi 4, vr w_1802] [(.int (b2 (zz.toInt = zz.toInt)))])
                                                              refine K.ifeqB at_467 (pc1 := 470) rfl (by decide) (pc2 := 474) (by decide) (fun c467 => ?_) (fun c467 => ?_)
                                                              · exfalso; first | exact c467 rfl | exact c467 trivial
                                                              · refine K.iconst at_470 (pc' := 471) rfl (z := 1) rfl ?_
                                                                refine K.goto at_471 (by decide) (pc' := 475) (by decide) ?_
                                                                refine K.istore at_475 (pc' := 477) rfl (L' := #[vi p, vi x1, vi x2, vi y1, vi y2, vi zz, vi 1, vi 2, vi w, vr o_1496, vr o_1506, vi 1, vr w_1747, vr a_1772, vi 4, vi 4, vr w_1802]) rfl ?_
                                                                refine K.iload at_477 (pc' := 479) rfl rfl ?_
                                                                refine K.if_eq at_479 (pc1 := 482) rfl (by decide) (pc2 := 509) (by decide) (a := 1) rfl (fun c479 => ?_) (fun c479 => ?_)
                                                                · exfalso; omega
                                                                · refine K.aload at_482 (pc' := 484) rfl rfl rfl ?_
                                                                  refine K.iconst at_484 (pc' := 485) rfl (z := 4) rfl ?_
                                                                  refine K.iload at_485 (pc' := 487) rfl rfl ?_
                                                                  refine K.icmp_ge at_487 (pc1 := 490) rfl (by decide) (pc2 := 494) (by decide) (a := 4) (b := 4) rfl rfl (fun c487 => ?_) (fun c487 => ?_)
                                                                  · refine K.iconst at_494 (pc' := 495) rfl (z := 0) rfl ?_
                                                                    refine K.aload at_495 (pc' := 497) rfl rfl rfl ?_
                                                                    refine K.iconst at_497 (pc' := 498) rfl (z := 4) rfl ?_
                                                                    have f_1904 : Ary Z h_1898 a_1772 .int [(.int x1), (.int y1), (.int y2), (.int zz), (.int (0 : Int32))] := (f_1881.keep K_1902 (ninS ne_1831 nin0))
                                                                    refine K.iald at_498 (pc' := 499) rfl f_1904 (i := 4) rfl rfl ?_
                                                                    refine K.calls (argsL := [(.ref w_1802), (.int (0 : Int32)), (.int (0 : Int32))]) (rest := []) at_499 (pc' := 502) rfl (c_st0 l Z a0 hw n0 h_1898 (a := w_1802) (e := (0 : Int32)) ) hw78 hw79 hw80 hw81 (by decide) pd_10 rfl rfl (W := 0) (by simp [Value.category]) (by decide) (by decide) (by decide) (by decide) (fun v_1907 h_1905 q_1906 => ?_)
                                                                    obtain ⟨rfl, rfl⟩ := q_1906
                                                                    show G h_1898 16 32 (mkF m 502 #[vi p, vi x1, vi x2, vi y1, vi y2, vi zz, vi 1, vi 2, vi w, vr o_1496, vr o_1506, vi 1, vr w_1747, vr a_1772, vi 4, vi 4, vr w_1802] [(.int (b2 (True)))])
                                                                    refine K.ifeqB at_502 (pc1 := 505) rfl (by decide) (pc2 := 509) (by decide) (fun c502 => ?_) (fun c502 => ?_)
                                                                    · exfalso; first | exact c502 rfl | exact c502 trivial
                                                                    · refine K.iconst at_505 (pc' := 506) rfl (z := 1) rfl ?_
                                                                      refine K.goto at_506 (by decide) (pc' := 510) (by decide) ?_
                                                                      refine K.istore at_510 (pc' := 512) rfl (L' := #[vi p, vi x1, vi x2, vi y1, vi y2, vi zz, vi 1, vi 2, vi w, vr o_1496, vr o_1506, vi 1, vr w_1747, vr a_1772, vi 4, vi 4, vr w_1802]) rfl ?_
                                                                      refine K.iload at_512 (pc' := 514) rfl rfl ?_
                                                                      refine K.if_eq at_514 (pc1 := 517) rfl (by decide) (pc2 := 531) (by decide) (a := 1) rfl (fun c514 => ?_) (fun c514 => ?_)
                                                                      · exfalso; omega
                                                                      · refine K.aload at_517 (pc' := 519) rfl rfl rfl ?_
                                                                        have f_1909 : Exa Z h_1898 w_1802 sI := (f_1895.keep K_1902)
                                                                        refine K.calli (z := (⟨sI, "hasNext", "()Z"⟩ : MethodName)) (argsL := []) (rest := []) at_519 (pc' := 524) rfl (c_has0 l Z a0 hw n0 h_1898 (a := w_1802) f_1909 f_1903) f_1909 hw46 hw47 hw48 rfl hw49 hw50 hw51 hw52 hw53 hw36 hw54 (by decide) pd_4 rfl rfl (W := 0) (by simp [Value.category]) (by decide) (by decide) (by decide) (by decide) (fun v_1912 h_1910 q_1911 => ?_)
                                                                        obtain ⟨rfl, rfl⟩ := q_1911
                                                                        show G h_1898 16 32 (mkF m 524 #[vi p, vi x1, vi x2, vi y1, vi y2, vi zz, vi 1, vi 2, vi w, vr o_1496, vr o_1506, vi 1, vr w_1747, vr a_1772, vi 4, vi 4, vr w_1802] [(.int (b2 (False)))])
                                                                        refine K.ifneB at_524 (pc1 := 527) rfl (by decide) (pc2 := 531) (by decide) (fun c524 => ?_) (fun c524 => ?_)
                                                                        · exfalso; exact c524
                                                                        · refine K.iconst at_527 (pc' := 528) rfl (z := 1) rfl ?_
                                                                          refine K.goto at_528 (by decide) (pc' := 532) (by decide) ?_
                                                                          exact K.retz at_532 (Or.inr rfl) (by decide) (by decide) rfl
                                                                  · exfalso; omega
                                  · exfalso; omega
        · exfalso; omega
  · have cs_b : b = 0 ∨ b = 1 ∨ b = 2 := by
      have q : b.toInt = 0 ∨ b.toInt = 1 ∨ b.toInt = 2 := by omega
      rcases q with q | q | q
      · exact Or.inl (eqI q)
      · exact Or.inr (Or.inl (eqI q))
      · exact Or.inr (Or.inr (eqI q))
    rcases cs_b with rfl | rfl | rfl
    · refine K.iload at_16 (pc' := 18) rfl rfl ?_
      refine K.iconst at_18 (pc' := 19) rfl (z := -1) rfl ?_
      obtain ⟨w, e_w⟩ : ∃ z, zz ^^^ (-1 : Int32) = z := ⟨_, rfl⟩
      refine K.ixor at_19 (pc' := 20) rfl e_w ?_
      refine K.istore at_20 (pc' := 22) rfl (L' := #[vi p, vi x1, vi x2, vi y1, vi y2, vi zz, vi 2, vi 0, vi w, .unset, .unset, .unset, .unset, .unset, .unset, .unset, .unset]) rfl ?_
      refine K.newo at_22 (pc' := 25) rfl hw1 hw2 hw3 (by decide) (by decide) (fun h_1915 o_1914 g_o_1914 E_1916 x_o_1914 D_o_1914 => ?_)
      have ge_o_1914 : n0 ≤ o_1914 := g_o_1914 ▸ Z0
      have f_1917 : Fld Z h_1915 o_1914 sC "first" dL .null := D_o_1914 (Or.inl hw21) (ty := (.object sL)) (by decide)
      have f_1918 : Fld Z h_1915 o_1914 sC "size" "I" (.int (0 : Int32)) := D_o_1914 (Or.inl hw28) (ty := .int) (by decide)
      have f_1919 : Fld Z h_1915 o_1914 sC "last" dL .null := D_o_1914 (Or.inl hw77) (ty := (.object sL)) (by decide)
      refine K.dup at_25 (pc' := 26) rfl rfl ?_
      refine K.callc (argsL := []) (rest := [(.ref o_1914)]) at_26 (pc' := 29) rfl rfl (c_chn l Z a0 hw n0 h_1915 (a := o_1914) ) hw4 hw5 hw3 hw6 (by decide) pd_0 rfl rfl (W := 1) (by simp [Value.category]) (by decide) (by decide) (by decide) (by decide) (fun v_1922 h_1920 q_1921 => ?_)
      obtain ⟨rfl, rfl⟩ := q_1921
      show G h_1915 1 3 (mkF m 29 #[vi p, vi x1, vi x2, vi y1, vi y2, vi zz, vi 2, vi 0, vi w, .unset, .unset, .unset, .unset, .unset, .unset, .unset, .unset] [(.ref o_1914)])
      refine K.astore at_29 (pc' := 31) rfl rfl (L' := #[vi p, vi x1, vi x2, vi y1, vi y2, vi zz, vi 2, vi 0, vi w, vr o_1914, .unset, .unset, .unset, .unset, .unset, .unset, .unset]) rfl ?_
      refine K.newo at_31 (pc' := 34) rfl hw1 hw2 hw3 (by decide) (by decide) (fun h_1925 o_1924 g_o_1924 E_1926 x_o_1924 D_o_1924 => ?_)
      have sz_1927 : n0 ≤ h_1915.size := Nat.le_trans Z0 E_1916.1
      have ge_o_1924 : n0 ≤ o_1924 := g_o_1924 ▸ sz_1927
      have f_1928 : Fld Z h_1925 o_1924 sC "first" dL .null := D_o_1924 (Or.inl hw21) (ty := (.object sL)) (by decide)
      have f_1929 : Fld Z h_1925 o_1924 sC "size" "I" (.int (0 : Int32)) := D_o_1924 (Or.inl hw28) (ty := .int) (by decide)
      have f_1930 : Fld Z h_1925 o_1924 sC "last" dL .null := D_o_1924 (Or.inl hw77) (ty := (.object sL)) (by decide)
      refine K.dup at_34 (pc' := 35) rfl rfl ?_
      refine K.callc (argsL := []) (rest := [(.ref o_1924)]) at_35 (pc' := 38) rfl rfl (c_chn l Z a0 hw n0 h_1925 (a := o_1924) ) hw4 hw5 hw3 hw6 (by decide) pd_0 rfl rfl (W := 1) (by simp [Value.category]) (by decide) (by decide) (by decide) (by decide) (fun v_1933 h_1931 q_1932 => ?_)
      obtain ⟨rfl, rfl⟩ := q_1932
      show G h_1925 2 6 (mkF m 38 #[vi p, vi x1, vi x2, vi y1, vi y2, vi zz, vi 2, vi 0, vi w, vr o_1914, .unset, .unset, .unset, .unset, .unset, .unset, .unset] [(.ref o_1924)])
      refine K.astore at_38 (pc' := 40) rfl rfl (L' := #[vi p, vi x1, vi x2, vi y1, vi y2, vi zz, vi 2, vi 0, vi w, vr o_1914, vr o_1924, .unset, .unset, .unset, .unset, .unset, .unset]) rfl ?_
      refine K.iload at_40 (pc' := 42) rfl rfl ?_
      refine K.if_le at_42 (pc1 := 45) rfl (by decide) (pc2 := 55) (by decide) (a := 2) rfl (fun c42 => ?_) (fun c42 => ?_)
      · exfalso; omega
      · refine K.aload at_45 (pc' := 47) rfl rfl rfl ?_
        refine K.iloadN at_47 (pc' := 48) rfl rfl ?_
        have sz_1935 : n0 ≤ h_1925.size := Nat.le_trans sz_1927 E_1926.1
        have f_1936 : Old Z n0 h_1925 := ((P2.ext E_1916).ext E_1926)
        refine K.calls (argsL := [(.int x1)]) (rest := [(.ref o_1914)]) at_48 (pc' := 51) rfl (c_val l Z a0 hw n0 h_1925 (p := x1) (ca := ca) (cc := cc) sz_1935 f_1936 P3 P4 hbx) hw55 hw56 hw57 hw58 (by decide) pd_8 rfl rfl (W := 1) (by simp [Value.category]) (by decide) (by decide) (by decide) (by decide) (fun v_1939 h_1937 q_1938 => ?_)
        obtain ⟨w_1940, rfl, K_1941, f_1942, f_1943, f_1944⟩ := q_1938
        show G h_1937 3 7 (mkF m 51 #[vi p, vi x1, vi x2, vi y1, vi y2, vi zz, vi 2, vi 0, vi w, vr o_1914, vr o_1924, .unset, .unset, .unset, .unset, .unset, .unset] [(.ref w_1940), (.ref o_1914)])
        have f_1945 : Exa Z h_1937 o_1914 sC := ((x_o_1914.ext E_1926).keep K_1941)
        have f_1946 : Fld Z h_1937 o_1914 sC "last" dL .null := ((f_1919.ext E_1926).keep K_1941 nin0)
        have f_1947 : Fld Z h_1937 o_1914 sC "size" "I" (.int (0 : Int32)) := ((f_1918.ext E_1926).keep K_1941 nin0)
        have sz_1948 : n0 ≤ h_1937.size := Nat.le_trans sz_1935 K_1941.1
        have f_1949 : Fld Z h_1937 o_1914 sC "first" dL .null := ((f_1917.ext E_1926).keep K_1941 nin0)
        refine K.callv (z := (⟨sC, "add", "(Ljava/lang/Object;)Z"⟩ : MethodName)) (argsL := [(.ref w_1940)]) (rest := []) at_51 (pc' := 54) rfl (c_add0 l Z a0 hw n0 h_1937 (a := o_1914) (e := w_1940) (n := (0 : Int32)) sz_1948 f_1945 ge_o_1914 f_1949 f_1946 f_1947 (by first | decide | omega)) f_1945 hw62 hw63 (nf_sel hw65 rfl) hw65 hw64 hw3 hw66 (by decide) pd_9 rfl rfl (W := 0) (by simp [Value.category]) (by decide) (by decide) (by decide) (by decide) (fun v_1952 h_1950 q_1951 => ?_)
        obtain ⟨lk_1954, n1_1955, rfl, K_1956, hn1_w_1953, f_1957, f_1958, f_1959, f_1960, f_1961, f_1962, f_1963, f_1964⟩ := q_1951
        show G h_1950 4 9 (mkF m 54 #[vi p, vi x1, vi x2, vi y1, vi y2, vi zz, vi 2, vi 0, vi w, vr o_1914, vr o_1924, .unset, .unset, .unset, .unset, .unset, .unset] [(.int (b2 (True)))])
        refine K.pop at_54 (pc' := 55) rfl rfl ?_
        refine K.iload at_55 (pc' := 57) rfl rfl ?_
        refine K.iconst at_57 (pc' := 58) rfl (z := 1) rfl ?_
        refine K.icmp_le at_58 (pc1 := 61) rfl (by decide) (pc2 := 71) (by decide) (a := 2) (b := 1) rfl rfl (fun c58 => ?_) (fun c58 => ?_)
        · exfalso; omega
        · refine K.aload at_61 (pc' := 63) rfl rfl rfl ?_
          refine K.iloadN at_63 (pc' := 64) rfl rfl ?_
          have sz_1965 : n0 ≤ h_1950.size := Nat.le_trans sz_1948 K_1956.1
          have f_1966 : Old Z n0 h_1950 := ((f_1936.keep K_1941 all0).keep K_1956 (allS ge_o_1914 all0))
          refine K.calls (argsL := [(.int x2)]) (rest := [(.ref o_1914)]) at_64 (pc' := 67) rfl (c_val l Z a0 hw n0 h_1950 (p := x2) (ca := ca) (cc := cc) sz_1965 f_1966 P3 P4 hbx) hw55 hw56 hw57 hw58 (by decide) pd_8 rfl rfl (W := 1) (by simp [Value.category]) (by decide) (by decide) (by decide) (by decide) (fun v_1969 h_1967 q_1968 => ?_)
          obtain ⟨w_1970, rfl, K_1971, f_1972, f_1973, f_1974⟩ := q_1968
          show G h_1967 5 10 (mkF m 67 #[vi p, vi x1, vi x2, vi y1, vi y2, vi zz, vi 2, vi 0, vi w, vr o_1914, vr o_1924, .unset, .unset, .unset, .unset, .unset, .unset] [(.ref w_1970), (.ref o_1914)])
          have f_1975 : Exa Z h_1967 o_1914 sC := ((f_1945.keep K_1956).keep K_1971)
          have f_1976 : Fld Z h_1967 o_1914 sC "last" dL (.ref lk_1954) := (f_1963.keep K_1971 nin0)
          have f_1977 : Fld Z h_1967 o_1914 sC "first" dL (.ref lk_1954) := (f_1962.keep K_1971 nin0)
          have f_1978 : Fld Z h_1967 o_1914 sC "size" "I" (.int n1_1955) := (f_1964.keep K_1971 nin0)
          have f_1979 : Fld Z h_1967 lk_1954 sL "element" "Ljava/lang/Object;" (.ref w_1940) := (f_1960.keep K_1971 nin0)
          have sz_1980 : n0 ≤ h_1967.size := Nat.le_trans sz_1965 K_1971.1
          have f_1981 : Exa Z h_1967 lk_1954 sL := (f_1959.keep K_1971)
          have ne_1982 : lk_1954 ≠ o_1914 := (Ne.symm (Nat.ne_of_lt (Nat.lt_of_lt_of_le x_o_1914.lt (Nat.le_trans (Nat.le_trans E_1926.1 K_1941.1) f_1957))))
          have f_1983 : Fld Z h_1967 lk_1954 sL "next" dL .null := (f_1961.keep K_1971 nin0)
          refine K.callv (z := (⟨sC, "add", "(Ljava/lang/Object;)Z"⟩ : MethodName)) (argsL := [(.ref w_1970)]) (rest := []) at_67 (pc' := 70) rfl (c_add1 l Z a0 hw n0 h_1967 (a := o_1914) (e := w_1970) (n := n1_1955) (f0 := lk_1954) (t := lk_1954) (te := w_1940) sz_1980 f_1975 ge_o_1914 f_1981 f_1958 ne_1982 f_1983 f_1979 f_1977 f_1976 f_1978 (by omega)) f_1975 hw62 hw63 (nf_sel hw65 rfl) hw65 hw64 hw3 hw66 (by decide) pd_9 rfl rfl (W := 0) (by simp [Value.category]) (by decide) (by decide) (by decide) (by decide) (fun v_1986 h_1984 q_1985 => ?_)
          obtain ⟨lk_1988, n1_1989, rfl, K_1990, hn1_w_1987, f_1991, f_1992, f_1993, f_1994, f_1995, f_1996, f_1997, f_1998, f_1999, f_2000⟩ := q_1985
          show G h_1984 6 12 (mkF m 70 #[vi p, vi x1, vi x2, vi y1, vi y2, vi zz, vi 2, vi 0, vi w, vr o_1914, vr o_1924, .unset, .unset, .unset, .unset, .unset, .unset] [(.int (b2 (True)))])
          refine K.pop at_70 (pc' := 71) rfl rfl ?_
          refine K.iload at_71 (pc' := 73) rfl rfl ?_
          refine K.if_le at_73 (pc1 := 76) rfl (by decide) (pc2 := 86) (by decide) (a := 0) rfl (fun c73 => ?_) (fun c73 => ?_)
          · refine K.iload at_86 (pc' := 88) rfl rfl ?_
            refine K.iconst at_88 (pc' := 89) rfl (z := 1) rfl ?_
            refine K.icmp_le at_89 (pc1 := 92) rfl (by decide) (pc2 := 103) (by decide) (a := 0) (b := 1) rfl rfl (fun c89 => ?_) (fun c89 => ?_)
            · refine K.aload at_103 (pc' := 105) rfl rfl rfl ?_
              refine K.aload at_105 (pc' := 107) rfl rfl rfl ?_
              have f_2001 : Exa Z h_1984 o_1914 sC := (f_1975.keep K_1990)
              have ne_2002 : o_1924 ≠ o_1914 := (Ne.symm (Nat.ne_of_lt (Nat.lt_of_lt_of_le x_o_1914.lt (Nat.le_trans (Nat.le_refl _) (Nat.le_of_eq g_o_1924.symm)))))
              have ne_2003 : o_1924 ≠ lk_1954 := (Nat.ne_of_lt (Nat.lt_of_lt_of_le x_o_1924.lt (Nat.le_trans K_1941.1 f_1957)))
              have f_2004 : Fld Z h_1984 o_1924 sC "first" dL .null := ((((f_1928.keep K_1941 nin0).keep K_1956 (ninS ne_2002 nin0)).keep K_1971 nin0).keep K_1990 (ninS ne_2002 (ninS ne_2003 nin0)))
              have f_2005 : Exa Z h_1984 o_1924 sC := ((((x_o_1924.keep K_1941).keep K_1956).keep K_1971).keep K_1990)
              refine K.callv (z := (⟨sC, "moveAll", "(Lcom/example/quadrille/quadrille/formats/Chain;)V"⟩ : MethodName)) (argsL := [(.ref o_1924)]) (rest := []) at_107 (pc' := 110) rfl (c_mvE l Z a0 hw n0 h_1984 (a := o_1914) (b := o_1924) f_2005 f_2004) f_2001 hw15 hw16 (nf_sel hw18 rfl) hw18 hw17 hw3 hw19 (by decide) pd_3 rfl rfl (W := 0) (by simp [Value.category]) (by decide) (by decide) (by decide) (by decide) (fun v_2008 h_2006 q_2007 => ?_)
              obtain ⟨rfl, rfl⟩ := q_2007
              show G h_1984 6 12 (mkF m 110 #[vi p, vi x1, vi x2, vi y1, vi y2, vi zz, vi 2, vi 0, vi w, vr o_1914, vr o_1924, .unset, .unset, .unset, .unset, .unset, .unset] [])
              refine K.aload at_110 (pc' := 112) rfl rfl rfl ?_
              refine K.callv (z := (⟨sC, "size", "()I"⟩ : MethodName)) (argsL := []) (rest := []) at_112 (pc' := 115) rfl (c_size l Z a0 hw n0 h_1984 (a := o_1914) (n := n1_1989) f_2001 f_2000) f_2001 hw22 hw23 (nf_sel hw25 rfl) hw25 hw24 hw3 hw26 (by decide) pd_6 rfl rfl (W := 0) (by simp [Value.category]) (by decide) (by decide) (by decide) (by decide) (fun v_2012 h_2010 q_2011 => ?_)
              obtain ⟨rfl, rfl⟩ := q_2011
              show G h_1984 6 12 (mkF m 115 #[vi p, vi x1, vi x2, vi y1, vi y2, vi zz, vi 2, vi 0, vi w, vr o_1914, vr o_1924, .unset, .unset, .unset, .unset, .unset, .unset] [(.int n1_1989)])
              refine K.iload at_115 (pc' := 117) rfl rfl ?_
              refine K.iload at_117 (pc' := 119) rfl rfl ?_
              refine K.iadd at_119 (pc' := 120) rfl (z := (2 : Int32)) (by decide) ?_
              refine K.icmp_ne at_120 (pc1 := 123) rfl (by decide) (pc2 := 148) (by decide) (a := n1_1989.toInt) (b := 2) rfl rfl (fun c120 => ?_) (fun c120 => ?_)
              · exfalso; have o0 : (0 : Int32).toInt = 0 := rfl; have o1 : (1 : Int32).toInt = 1 := rfl; have o2 : (2 : Int32).toInt = 2 := rfl; omega
              · refine K.aload at_123 (pc' := 125) rfl rfl rfl ?_
                have f_2014 : Fld Z h_1984 o_1924 sC "size" "I" (.int (0 : Int32)) := ((((f_1929.keep K_1941 nin0).keep K_1956 (ninS ne_2002 nin0)).keep K_1971 nin0).keep K_1990 (ninS ne_2002 (ninS ne_2003 nin0)))
                refine K.callv (z := (⟨sC, "size", "()I"⟩ : MethodName)) (argsL := []) (rest := []) at_125 (pc' := 128) rfl (c_size l Z a0 hw n0 h_1984 (a := o_1924) (n := (0 : Int32)) f_2005 f_2014) f_2005 hw22 hw23 (nf_sel hw25 rfl) hw25 hw24 hw3 hw26 (by decide) pd_6 rfl rfl (W := 0) (by simp [Value.category]) (by decide) (by decide) (by decide) (by decide) (fun v_2017 h_2015 q_2016 => ?_)
                obtain ⟨rfl, rfl⟩ := q_2016
                show G h_1984 6 12 (mkF m 128 #[vi p, vi x1, vi x2, vi y1, vi y2, vi zz, vi 2, vi 0, vi w, vr o_1914, vr o_1924, .unset, .unset, .unset, .unset, .unset, .unset] [(.int (0 : Int32))])
                refine K.if_ne at_128 (pc1 := 131) rfl (by decide) (pc2 := 148) (by decide) (a := 0) rfl (fun c128 => ?_) (fun c128 => ?_)
                · exfalso; have o0 : (0 : Int32).toInt = 0 := rfl; have o1 : (1 : Int32).toInt = 1 := rfl; have o2 : (2 : Int32).toInt = 2 := rfl; omega
                · refine K.aload at_131 (pc' := 133) rfl rfl rfl ?_
                  have sz_2019 : n0 ≤ h_1984.size := Nat.le_trans sz_1980 K_1990.1
                  refine K.callv (z := (⟨sC, "iterator", "()Ljava/util/Iterator;"⟩ : MethodName)) (argsL := []) (rest := []) at_133 (pc' := 136) rfl (c_it0 l Z a0 hw n0 h_1984 (b := o_1924) sz_2019 f_2005 f_2004) f_2005 hw29 hw30 (nf_sel hw32 rfl) hw32 hw31 hw3 hw33 (by decide) pd_7 rfl rfl (W := 0) (by simp [Value.category]) (by decide) (by decide) (by decide) (by decide) (fun v_2022 h_2020 q_2021 => ?_)
                  obtain ⟨w_2023, rfl, K_2024, f_2025, f_2026, f_2027, f_2028⟩ := q_2021
                  show G h_2020 7 14 (mkF m 136 #[vi p, vi x1, vi x2, vi y1, vi y2, vi zz, vi 2, vi 0, vi w, vr o_1914, vr o_1924, .unset, .unset, .unset, .unset, .unset, .unset] [(.ref w_2023)])
                  refine K.calli (z := (⟨sI, "hasNext", "()Z"⟩ : MethodName)) (argsL := []) (rest := []) at_136 (pc' := 141) rfl (c_has0 l Z a0 hw n0 h_2020 (a := w_2023) f_2027 f_2028) f_2027 hw46 hw47 hw48 rfl hw49 hw50 hw51 hw52 hw53 hw36 hw54 (by decide) pd_4 rfl rfl (W := 0) (by simp [Value.category]) (by decide) (by decide) (by decide) (by decide) (fun v_2031 h_2029 q_2030 => ?_)
                  obtain ⟨rfl, rfl⟩ := q_2030
                  show G h_2020 7 14 (mkF m 141 #[vi p, vi x1, vi x2, vi y1, vi y2, vi zz, vi 2, vi 0, vi w, vr o_1914, vr o_1924, .unset, .unset, .unset, .unset, .unset, .unset] [(.int (b2 (False)))])
                  refine K.ifneB at_141 (pc1 := 144) rfl (by decide) (pc2 := 148) (by decide) (fun c141 => ?_) (fun c141 => ?_)
                  · exfalso; exact c141
                  · refine K.iconst at_144 (pc' := 145) rfl (z := 1) rfl ?_
                    refine K.goto at_145 (by decide) (pc' := 149) (by decide) ?_
                    refine K.istore at_149 (pc' := 151) rfl (L' := #[vi p, vi x1, vi x2, vi y1, vi y2, vi zz, vi 2, vi 0, vi w, vr o_1914, vr o_1924, vi 1, .unset, .unset, .unset, .unset, .unset]) rfl ?_
                    refine K.aload at_151 (pc' := 153) rfl rfl rfl ?_
                    refine K.iload at_153 (pc' := 155) rfl rfl ?_
                    have sz_2033 : n0 ≤ h_2020.size := Nat.le_trans sz_2019 K_2024.1
                    have f_2034 : Old Z n0 h_2020 := (((f_1966.keep K_1971 all0).keep K_1990 (allS ge_o_1914 (allS f_1958 all0))).keep K_2024 all0)
                    refine K.calls (argsL := [(.int zz)]) (rest := [(.ref o_1914)]) at_155 (pc' := 158) rfl (c_val l Z a0 hw n0 h_2020 (p := zz) (ca := ca) (cc := cc) sz_2033 f_2034 P3 P4 hbx) hw55 hw56 hw57 hw58 (by decide) pd_8 rfl rfl (W := 1) (by simp [Value.category]) (by decide) (by decide) (by decide) (by decide) (fun v_2037 h_2035 q_2036 => ?_)
                    obtain ⟨w_2038, rfl, K_2039, f_2040, f_2041, f_2042⟩ := q_2036
                    show G h_2035 8 15 (mkF m 158 #[vi p, vi x1, vi x2, vi y1, vi y2, vi zz, vi 2, vi 0, vi w, vr o_1914, vr o_1924, vi 1, .unset, .unset, .unset, .unset, .unset] [(.ref w_2038), (.ref o_1914)])
                    have f_2043 : Exa Z h_2035 o_1914 sC := ((f_2001.keep K_2024).keep K_2039)
                    have f_2044 : Fld Z h_2035 o_1914 sC "last" dL (.ref lk_1988) := ((f_1999.keep K_2024 nin0).keep K_2039 nin0)
                    have f_2045 : Fld Z h_2035 o_1914 sC "first" dL (.ref lk_1954) := ((f_1998.keep K_2024 nin0).keep K_2039 nin0)
                    have f_2046 : Fld Z h_2035 o_1914 sC "size" "I" (.int n1_1989) := ((f_2000.keep K_2024 nin0).keep K_2039 nin0)
                    have f_2047 : Fld Z h_2035 lk_1988 sL "element" "Ljava/lang/Object;" (.ref w_1970) := ((f_1994.keep K_2024 nin0).keep K_2039 nin0)
                    have sz_2048 : n0 ≤ h_2035.size := Nat.le_trans sz_2033 K_2039.1
                    have f_2049 : Exa Z h_2035 lk_1988 sL := ((f_1993.keep K_2024).keep K_2039)
                    have ne_2050 : lk_1988 ≠ o_1914 := (Ne.symm (Nat.ne_of_lt (Nat.lt_of_lt_of_le x_o_1914.lt (Nat.le_trans (Nat.le_trans E_1926.1 (Nat.le_trans K_1941.1 (Nat.le_trans K_1956.1 K_1971.1))) f_1991))))
                    have f_2051 : Fld Z h_2035 lk_1988 sL "next" dL .null := ((f_1995.keep K_2024 nin0).keep K_2039 nin0)
                    refine K.callv (z := (⟨sC, "add", "(Ljava/lang/Object;)Z"⟩ : MethodName)) (argsL := [(.ref w_2038)]) (rest := []) at_158 (pc' := 161) rfl (c_add1 l Z a0 hw n0 h_2035 (a := o_1914) (e := w_2038) (n := n1_1989) (f0 := lk_1954) (t := lk_1988) (te := w_1970) sz_2048 f_2043 ge_o_1914 f_2049 f_1992 ne_2050 f_2051 f_2047 f_2045 f_2044 f_2046 (by omega)) f_2043 hw62 hw63 (nf_sel hw65 rfl) hw65 hw64 hw3 hw66 (by decide) pd_9 rfl rfl (W := 0) (by simp [Value.category]) (by decide) (by decide) (by decide) (by decide) (fun v_2054 h_2052 q_2053 => ?_)
                    obtain ⟨lk_2056, n1_2057, rfl, K_2058, hn1_w_2055, f_2059, f_2060, f_2061, f_2062, f_2063, f_2064, f_2065, f_2066, f_2067, f_2068⟩ := q_2053
                    show G h_2052 9 17 (mkF m 161 #[vi p, vi x1, vi x2, vi y1, vi y2, vi zz, vi 2, vi 0, vi w, vr o_1914, vr o_1924, vi 1, .unset, .unset, .unset, .unset, .unset] [(.int (b2 (True)))])
                    refine K.pop at_161 (pc' := 162) rfl rfl ?_
                    refine K.aload at_162 (pc' := 164) rfl rfl rfl ?_
                    refine K.iload at_164 (pc' := 166) rfl rfl ?_
                    have sz_2069 : n0 ≤ h_2052.size := Nat.le_trans sz_2048 K_2058.1
                    have f_2070 : Old Z n0 h_2052 := ((f_2034.keep K_2039 all0).keep K_2058 (allS ge_o_1914 (allS f_1992 all0)))
                    refine K.calls (argsL := [(.int w)]) (rest := [(.ref o_1924)]) at_166 (pc' := 169) rfl (c_val l Z a0 hw n0 h_2052 (p := w) (ca := ca) (cc := cc) sz_2069 f_2070 P3 P4 hbx) hw55 hw56 hw57 hw58 (by decide) pd_8 rfl rfl (W := 1) (by simp [Value.category]) (by decide) (by decide) (by decide) (by decide) (fun v_2073 h_2071 q_2072 => ?_)
                    obtain ⟨w_2074, rfl, K_2075, f_2076, f_2077, f_2078⟩ := q_2072
                    show G h_2071 10 18 (mkF m 169 #[vi p, vi x1, vi x2, vi y1, vi y2, vi zz, vi 2, vi 0, vi w, vr o_1914, vr o_1924, vi 1, .unset, .unset, .unset, .unset, .unset] [(.ref w_2074), (.ref o_1924)])
                    have f_2079 : Exa Z h_2071 o_1924 sC := ((((f_2005.keep K_2024).keep K_2039).keep K_2058).keep K_2075)
                    have ne_2080 : o_1924 ≠ lk_1988 := (Nat.ne_of_lt (Nat.lt_of_lt_of_le x_o_1924.lt (Nat.le_trans (Nat.le_trans K_1941.1 (Nat.le_trans K_1956.1 K_1971.1)) f_1991)))
                    have f_2081 : Fld Z h_2071 o_1924 sC "last" dL .null := ((((((((f_1930.keep K_1941 nin0).keep K_1956 (ninS ne_2002 nin0)).keep K_1971 nin0).keep K_1990 (ninS ne_2002 (ninS ne_2003 nin0))).keep K_2024 nin0).keep K_2039 nin0).keep K_2058 (ninS ne_2002 (ninS ne_2080 nin0))).keep K_2075 nin0)
                    have f_2082 : Fld Z h_2071 o_1924 sC "size" "I" (.int (0 : Int32)) := ((((f_2014.keep K_2024 nin0).keep K_2039 nin0).keep K_2058 (ninS ne_2002 (ninS ne_2080 nin0))).keep K_2075 nin0)
                    have sz_2083 : n0 ≤ h_2071.size := Nat.le_trans sz_2069 K_2075.1
                    have f_2084 : Fld Z h_2071 o_1924 sC "first" dL .null := ((((f_2004.keep K_2024 nin0).keep K_2039 nin0).keep K_2058 (ninS ne_2002 (ninS ne_2080 nin0))).keep K_2075 nin0)
                    refine K.callv (z := (⟨sC, "add", "(Ljava/lang/Object;)Z"⟩ : MethodName)) (argsL := [(.ref w_2074)]) (rest := []) at_169 (pc' := 172) rfl (c_add0 l Z a0 hw n0 h_2071 (a := o_1924) (e := w_2074) (n := (0 : Int32)) sz_2083 f_2079 ge_o_1924 f_2084 f_2081 f_2082 (by first | decide | omega)) f_2079 hw62 hw63 (nf_sel hw65 rfl) hw65 hw64 hw3 hw66 (by decide) pd_9 rfl rfl (W := 0) (by simp [Value.category]) (by decide) (by decide) (by decide) (by decide) (fun v_2087 h_2085 q_2086 => ?_)
                    obtain ⟨lk_2089, n1_2090, rfl, K_2091, hn1_w_2088, f_2092, f_2093, f_2094, f_2095, f_2096, f_2097, f_2098, f_2099⟩ := q_2086
                    show G h_2085 11 20 (mkF m 172 #[vi p, vi x1, vi x2, vi y1, vi y2, vi zz, vi 2, vi 0, vi w, vr o_1914, vr o_1924, vi 1, .unset, .unset, .unset, .unset, .unset] [(.int (b2 (True)))])
                    refine K.pop at_172 (pc' := 173) rfl rfl ?_
                    refine K.iload at_173 (pc' := 175) rfl rfl ?_
                    refine K.if_eq at_175 (pc1 := 178) rfl (by decide) (pc2 := 206) (by decide) (a := 1) rfl (fun c175 => ?_) (fun c175 => ?_)
                    · exfalso; omega
                    · refine K.aload at_178 (pc' := 180) rfl rfl rfl ?_
                      have f_2100 : Exa Z h_2085 o_1914 sC := (((f_2043.keep K_2058).keep K_2075).keep K_2091)
                      have f_2101 : Fld Z h_2085 o_1914 sC "size" "I" (.int n1_2057) := ((f_2068.keep K_2075 nin0).keep K_2091 (ninS (Ne.symm ne_2002) nin0))
                      refine K.callv (z := (⟨sC, "size", "()I"⟩ : MethodName)) (argsL := []) (rest := []) at_180 (pc' := 183) rfl (c_size l Z a0 hw n0 h_2085 (a := o_1914) (n := n1_2057) f_2100 f_2101) f_2100 hw22 hw23 (nf_sel hw25 rfl) hw25 hw24 hw3 hw26 (by decide) pd_6 rfl rfl (W := 0) (by simp [Value.category]) (by decide) (by decide) (by decide) (by decide) (fun v_2104 h_2102 q_2103 => ?_)
                      obtain ⟨rfl, rfl⟩ := q_2103
                      show G h_2085 11 20 (mkF m 183 #[vi p, vi x1, vi x2, vi y1, vi y2, vi zz, vi 2, vi 0, vi w, vr o_1914, vr o_1924, vi 1, .unset, .unset, .unset, .unset, .unset] [(.int n1_2057)])
                      refine K.iload at_183 (pc' := 185) rfl rfl ?_
                      refine K.iload at_185 (pc' := 187) rfl rfl ?_
                      refine K.iadd at_187 (pc' := 188) rfl (z := (2 : Int32)) (by decide) ?_
                      refine K.iconst at_188 (pc' := 189) rfl (z := 1) rfl ?_
                      refine K.iadd at_189 (pc' := 190) rfl (z := (3 : Int32)) (by decide) ?_
                      refine K.icmp_ne at_190 (pc1 := 193) rfl (by decide) (pc2 := 206) (by decide) (a := n1_2057.toInt) (b := 3) rfl rfl (fun c190 => ?_) (fun c190 => ?_)
                      · exfalso; have o0 : (0 : Int32).toInt = 0 := rfl; have o1 : (1 : Int32).toInt = 1 := rfl; have o2 : (2 : Int32).toInt = 2 := rfl; omega
                      · refine K.aload at_193 (pc' := 195) rfl rfl rfl ?_
                        have f_2106 : Exa Z h_2085 o_1924 sC := (f_2079.keep K_2091)
                        refine K.callv (z := (⟨sC, "size", "()I"⟩ : MethodName)) (argsL := []) (rest := []) at_195 (pc' := 198) rfl (c_size l Z a0 hw n0 h_2085 (a := o_1924) (n := n1_2090) f_2106 f_2099) f_2106 hw22 hw23 (nf_sel hw25 rfl) hw25 hw24 hw3 hw26 (by decide) pd_6 rfl rfl (W := 0) (by simp [Value.category]) (by decide) (by decide) (by decide) (by decide) (fun v_2109 h_2107 q_2108 => ?_)
                        obtain ⟨rfl, rfl⟩ := q_2108
                        show G h_2085 11 20 (mkF m 198 #[vi p, vi x1, vi x2, vi y1, vi y2, vi zz, vi 2, vi 0, vi w, vr o_1914, vr o_1924, vi 1, .unset, .unset, .unset, .unset, .unset] [(.int n1_2090)])
                        refine K.iconst at_198 (pc' := 199) rfl (z := 1) rfl ?_
                        refine K.icmp_ne at_199 (pc1 := 202) rfl (by decide) (pc2 := 206) (by decide) (a := n1_2090.toInt) (b := 1) rfl rfl (fun c199 => ?_) (fun c199 => ?_)
                        · exfalso; have o0 : (0 : Int32).toInt = 0 := rfl; have o1 : (1 : Int32).toInt = 1 := rfl; have o2 : (2 : Int32).toInt = 2 := rfl; omega
                        · refine K.iconst at_202 (pc' := 203) rfl (z := 1) rfl ?_
                          refine K.goto at_203 (by decide) (pc' := 207) (by decide) ?_
                          refine K.istore at_207 (pc' := 209) rfl (L' := #[vi p, vi x1, vi x2, vi y1, vi y2, vi zz, vi 2, vi 0, vi w, vr o_1914, vr o_1924, vi 1, .unset, .unset, .unset, .unset, .unset]) rfl ?_
                          refine K.aload at_209 (pc' := 211) rfl rfl rfl ?_
                          have sz_2111 : n0 ≤ h_2085.size := Nat.le_trans sz_2083 K_2091.1
                          refine K.callv (z := (⟨sC, "iterator", "()Ljava/util/Iterator;"⟩ : MethodName)) (argsL := []) (rest := []) at_211 (pc' := 214) rfl (c_it1 l Z a0 hw n0 h_2085 (b := o_1924) (x := lk_2089) sz_2111 f_2106 f_2097) f_2106 hw29 hw30 (nf_sel hw32 rfl) hw32 hw31 hw3 hw33 (by decide) pd_7 rfl rfl (W := 0) (by simp [Value.category]) (by decide) (by decide) (by decide) (by decide) (fun v_2114 h_2112 q_2113 => ?_)
                          obtain ⟨w_2115, rfl, K_2116, f_2117, f_2118, f_2119, f_2120⟩ := q_2113
                          show G h_2112 12 22 (mkF m 214 #[vi p, vi x1, vi x2, vi y1, vi y2, vi zz, vi 2, vi 0, vi w, vr o_1914, vr o_1924, vi 1, .unset, .unset, .unset, .unset, .unset] [(.ref w_2115)])
                          refine K.astore at_214 (pc' := 216) rfl rfl (L' := #[vi p, vi x1, vi x2, vi y1, vi y2, vi zz, vi 2, vi 0, vi w, vr o_1914, vr o_1924, vi 1, vr w_2115, .unset, .unset, .unset, .unset]) rfl ?_
                          refine K.iload at_216 (pc' := 218) rfl rfl ?_
                          refine K.if_eq at_218 (pc1 := 221) rfl (by decide) (pc2 := 246) (by decide) (a := 1) rfl (fun c218 => ?_) (fun c218 => ?_)
                          · exfalso; omega
                          · refine K.aload at_221 (pc' := 223) rfl rfl rfl ?_
                            refine K.iconst at_223 (pc' := 224) rfl (z := 1) rfl ?_
                            refine K.iload at_224 (pc' := 226) rfl rfl ?_
                            have f_2121 : Fld Z h_2112 lk_2089 sL "next" dL .null := (f_2096.keep K_2116 nin0)
                            have f_2122 : Fld Z h_2112 lk_2089 sL "element" "Ljava/lang/Object;" (.ref w_2074) := (f_2095.keep K_2116 nin0)
                            have ne_2123 : w_2074 ≠ o_1924 := (f_2078.elim (fun q => Nat.ne_of_lt (Nat.lt_of_lt_of_le q ge_o_1924)) (fun q => Nat.ne_of_gt (Nat.lt_of_lt_of_le x_o_1924.lt (Nat.le_trans (Nat.le_trans K_1941.1 (Nat.le_trans K_1956.1 (Nat.le_trans K_1971.1 (Nat.le_trans K_1990.1 (Nat.le_trans K_2024.1 (Nat.le_trans K_2039.1 K_2058.1)))))) q))))
                            have f_2124 : Fld Z h_2112 w_2074 sN "value" "I" (.int w) := ((f_2077.keep K_2091 (ninS ne_2123 nin0)).keep K_2116 nin0)
                            have f_2125 : Exa Z h_2112 lk_2089 sL := (f_2094.keep K_2116)
                            have ne_2126 : lk_2089 ≠ w_2115 := (Nat.ne_of_lt (Nat.lt_of_lt_of_le f_2094.lt (Nat.le_trans (Nat.le_refl _) f_2117)))
                            have ne_2127 : w_2074 ≠ w_2115 := (Nat.ne_of_lt (Nat.lt_of_lt_of_le f_2076.lt (Nat.le_trans K_2091.1 f_2117)))
                            have f_2128 : Exa Z h_2112 w_2074 sN := ((f_2076.keep K_2091).keep K_2116)
                            refine K.calls (argsL := [(.ref w_2115), (.int (1 : Int32)), (.int w)]) (rest := []) at_226 (pc' := 229) rfl (c_st10 l Z a0 hw n0 h_2112 (a := w_2115) (e := w) (lk := lk_2089) (b := w_2074) (v0 := w) f_2119 f_2118 f_2120 f_2125 ne_2126 f_2122 f_2121 ne_2127 f_2128 f_2124) hw78 hw79 hw80 hw81 (by decide) pd_10 rfl rfl (W := 0) (by simp [Value.category]) (by decide) (by decide) (by decide) (by decide) (fun v_2131 h_2129 q_2130 => ?_)
                            obtain ⟨rfl, K_2133, f_2134⟩ := q_2130
                            show G h_2129 12 22 (mkF m 229 #[vi p, vi x1, vi x2, vi y1, vi y2, vi zz, vi 2, vi 0, vi w, vr o_1914, vr o_1924, vi 1, vr w_2115, .unset, .unset, .unset, .unset] [(.int (b2 (w.toInt = w.toInt)))])
                            refine K.ifeqB at_229 (pc1 := 232) rfl (by decide) (pc2 := 246) (by decide) (fun c229 => ?_) (fun c229 => ?_)
                            · exfalso; first | exact c229 rfl | exact c229 trivial
                            · refine K.aload at_232 (pc' := 234) rfl rfl rfl ?_
                              have f_2135 : Exa Z h_2129 w_2115 sI := (f_2119.keep K_2133)
                              refine K.calli (z := (⟨sI, "hasNext", "()Z"⟩ : MethodName)) (argsL := []) (rest := []) at_234 (pc' := 239) rfl (c_has0 l Z a0 hw n0 h_2129 (a := w_2115) f_2135 f_2134) f_2135 hw46 hw47 hw48 rfl hw49 hw50 hw51 hw52 hw53 hw36 hw54 (by decide) pd_4 rfl rfl (W := 0) (by simp [Value.category]) (by decide) (by decide) (by decide) (by decide) (fun v_2138 h_2136 q_2137 => ?_)
                              obtain ⟨rfl, rfl⟩ := q_2137
                              show G h_2129 12 22 (mkF m 239 #[vi p, vi x1, vi x2, vi y1, vi y2, vi zz, vi 2, vi 0, vi w, vr o_1914, vr o_1924, vi 1, vr w_2115, .unset, .unset, .unset, .unset] [(.int (b2 (False)))])
                              refine K.ifneB at_239 (pc1 := 242) rfl (by decide) (pc2 := 246) (by decide) (fun c239 => ?_) (fun c239 => ?_)
                              · exfalso; exact c239
                              · refine K.iconst at_242 (pc' := 243) rfl (z := 1) rfl ?_
                                refine K.goto at_243 (by decide) (pc' := 247) (by decide) ?_
                                refine K.istore at_247 (pc' := 249) rfl (L' := #[vi p, vi x1, vi x2, vi y1, vi y2, vi zz, vi 2, vi 0, vi w, vr o_1914, vr o_1924, vi 1, vr w_2115, .unset, .unset, .unset, .unset]) rfl ?_
                                refine K.iconst at_249 (pc' := 250) rfl (z := 5) rfl ?_
                                refine K.newa at_250 (pc' := 252) rfl hw102 (k := 5) (cap := 5) rfl (by decide) (by decide) (by decide) (by decide) (ad := "[I") (by decide) (fun h_2141 a_2140 g_a_2140 E_2142 A_2143 x_a_2140 => ?_)
                                have sz_2144 : n0 ≤ h_2129.size := Nat.le_trans sz_2111 (Nat.le_trans K_2116.1 K_2133.1)
                                have ge_a_2140 : n0 ≤ a_2140 := g_a_2140 ▸ sz_2144
                                have A_2145 : Ary Z h_2141 a_2140 .int [(.int (0 : Int32)), (.int (0 : Int32)), (.int (0 : Int32)), (.int (0 : Int32)), (.int (0 : Int32))] := A_2143
                                refine K.astore at_252 (pc' := 254) rfl rfl (L' := #[vi p, vi x1, vi x2, vi y1, vi y2, vi zz, vi 2, vi 0, vi w, vr o_1914, vr o_1924, vi 1, vr w_2115, vr a_2140, .unset, .unset, .unset]) rfl ?_
                                refine K.iconst at_254 (pc' := 255) rfl (z := 0) rfl ?_
                                refine K.istore at_255 (pc' := 257) rfl (L' := #[vi p, vi x1, vi x2, vi y1, vi y2, vi zz, vi 2, vi 0, vi w, vr o_1914, vr o_1924, vi 1, vr w_2115, vr a_2140, vi 0, .unset, .unset]) rfl ?_
                                refine K.iload at_257 (pc' := 259) rfl rfl ?_
                                refine K.if_le at_259 (pc1 := 262) rfl (by decide) (pc2 := 271) (by decide) (a := 2) rfl (fun c259 => ?_) (fun c259 => ?_)
                                · exfalso; omega
                                · refine K.aload at_262 (pc' := 264) rfl rfl rfl ?_
                                  refine K.iload at_264 (pc' := 266) rfl rfl ?_
                                  refine K.iloadN at_266 (pc' := 267) rfl rfl ?_
                                  refine K.iast at_267 (pc' := 268) rfl A_2145 (i := 0) rfl (show 0 < 5 by decide) ge_a_2140 (fun h_2146 W_2147 A_2148 => ?_)
                                  have A_2149 : Ary Z h_2146 a_2140 .int [(.int x1), (.int (0 : Int32)), (.int (0 : Int32)), (.int (0 : Int32)), (.int (0 : Int32))] := A_2148
                                  refine K.iinc at_268 (pc' := 271) rfl rfl (z := (1 : Int32)) rfl (L' := #[vi p, vi x1, vi x2, vi y1, vi y2, vi zz, vi 2, vi 0, vi w, vr o_1914, vr o_1924, vi 1, vr w_2115, vr a_2140, vi 1, .unset, .unset]) rfl ?_
                                  refine K.iload at_271 (pc' := 273) rfl rfl ?_
                                  refine K.iconst at_273 (pc' := 274) rfl (z := 1) rfl ?_
                                  refine K.icmp_le at_274 (pc1 := 277) rfl (by decide) (pc2 := 286) (by decide) (a := 2) (b := 1) rfl rfl (fun c274 => ?_) (fun c274 => ?_)
                                  · exfalso; omega
                                  · refine K.aload at_277 (pc' := 279) rfl rfl rfl ?_
                                    refine K.iload at_279 (pc' := 281) rfl rfl ?_
                                    refine K.iloadN at_281 (pc' := 282) rfl rfl ?_
                                    refine K.iast at_282 (pc' := 283) rfl A_2149 (i := 1) rfl (show 1 < 5 by decide) ge_a_2140 (fun h_2150 W_2151 A_2152 => ?_)
                                    have A_2153 : Ary Z h_2150 a_2140 .int [(.int x1), (.int x2), (.int (0 : Int32)), (.int (0 : Int32)), (.int (0 : Int32))] := A_2152
                                    refine K.iinc at_283 (pc' := 286) rfl rfl (z := (2 : Int32)) rfl (L' := #[vi p, vi x1, vi x2, vi y1, vi y2, vi zz, vi 2, vi 0, vi w, vr o_1914, vr o_1924, vi 1, vr w_2115, vr a_2140, vi 2, .unset, .unset]) rfl ?_
                                    refine K.iload at_286 (pc' := 288) rfl rfl ?_
                                    refine K.if_le at_288 (pc1 := 291) rfl (by decide) (pc2 := 300) (by decide) (a := 0) rfl (fun c288 => ?_) (fun c288 => ?_)
                                    · refine K.iload at_300 (pc' := 302) rfl rfl ?_
                                      refine K.iconst at_302 (pc' := 303) rfl (z := 1) rfl ?_
                                      refine K.icmp_le at_303 (pc1 := 306) rfl (by decide) (pc2 := 316) (by decide) (a := 0) (b := 1) rfl rfl (fun c303 => ?_) (fun c303 => ?_)
                                      · refine K.aload at_316 (pc' := 318) rfl rfl rfl ?_
                                        refine K.iload at_318 (pc' := 320) rfl rfl ?_
                                        refine K.iload at_320 (pc' := 322) rfl rfl ?_
                                        refine K.iast at_322 (pc' := 323) rfl A_2153 (i := 2) rfl (show 2 < 5 by decide) ge_a_2140 (fun h_2154 W_2155 A_2156 => ?_)
                                        have A_2157 : Ary Z h_2154 a_2140 .int [(.int x1), (.int x2), (.int zz), (.int (0 : Int32)), (.int (0 : Int32))] := A_2156
                                        refine K.iinc at_323 (pc' := 326) rfl rfl (z := (3 : Int32)) rfl (L' := #[vi p, vi x1, vi x2, vi y1, vi y2, vi zz, vi 2, vi 0, vi w, vr o_1914, vr o_1924, vi 1, vr w_2115, vr a_2140, vi 3, .unset, .unset]) rfl ?_
                                        refine K.iload at_326 (pc' := 328) rfl rfl ?_
                                        refine K.istore at_328 (pc' := 330) rfl (L' := #[vi p, vi x1, vi x2, vi y1, vi y2, vi zz, vi 2, vi 0, vi w, vr o_1914, vr o_1924, vi 1, vr w_2115, vr a_2140, vi 3, vi 3, .unset]) rfl ?_
                                        refine K.aload at_330 (pc' := 332) rfl rfl rfl ?_
                                        have f_2158 : Exa Z h_2154 o_1914 sC := ((((((f_2100.keep K_2116).keep K_2133).ext E_2142).wr W_2147).wr W_2151).wr W_2155)
                                        have ne_2159 : o_1914 ≠ w_2115 := (Nat.ne_of_lt (Nat.lt_of_lt_of_le x_o_1914.lt (Nat.le_trans (Nat.le_trans E_1926.1 (Nat.le_trans K_1941.1 (Nat.le_trans K_1956.1 (Nat.le_trans K_1971.1 (Nat.le_trans K_1990.1 (Nat.le_trans K_2024.1 (Nat.le_trans K_2039.1 (Nat.le_trans K_2058.1 (Nat.le_trans K_2075.1 K_2091.1))))))))) f_2117)))
                                        have ne_2160 : o_1914 ≠ a_2140 := (Nat.ne_of_lt (Nat.lt_of_lt_of_le x_o_1914.lt (Nat.le_trans (Nat.le_trans E_1926.1 (Nat.le_trans K_1941.1 (Nat.le_trans K_1956.1 (Nat.le_trans K_1971.1 (Nat.le_trans K_1990.1 (Nat.le_trans K_2024.1 (Nat.le_trans K_2039.1 (Nat.le_trans K_2058.1 (Nat.le_trans K_2075.1 (Nat.le_trans K_2091.1 (Nat.le_trans K_2116.1 K_2133.1))))))))))) (Nat.le_of_eq g_a_2140.symm))))
                                        have f_2161 : Fld Z h_2154 o_1914 sC "first" dL (.ref lk_1954) := ((((((((f_2066.keep K_2075 nin0).keep K_2091 (ninS (Ne.symm ne_2002) nin0)).keep K_2116 nin0).keep K_2133 (ninS ne_2159 nin0)).ext E_2142).other W_2147 (Or.inl ne_2160)).other W_2151 (Or.inl ne_2160)).other W_2155 (Or.inl ne_2160))
                                        have sz_2162 : n0 ≤ h_2154.size := Nat.le_trans sz_2144 (Nat.le_trans E_2142.1 (Nat.le_trans (Keep.of_wr W_2147).1 (Nat.le_trans (Keep.of_wr W_2151).1 (Keep.of_wr W_2155).1)))
                                        refine K.callv (z := (⟨sC, "iterator", "()Ljava/util/Iterator;"⟩ : MethodName)) (argsL := []) (rest := []) at_332 (pc' := 335) rfl (c_it1 l Z a0 hw n0 h_2154 (b := o_1914) (x := lk_1954) sz_2162 f_2158 f_2161) f_2158 hw29 hw30 (nf_sel hw32 rfl) hw32 hw31 hw3 hw33 (by decide) pd_7 rfl rfl (W := 0) (by simp [Value.category]) (by decide) (by decide) (by decide) (by decide) (fun v_2165 h_2163 q_2164 => ?_)
                                        obtain ⟨w_2166, rfl, K_2167, f_2168, f_2169, f_2170, f_2171⟩ := q_2164
                                        show G h_2163 14 29 (mkF m 335 #[vi p, vi x1, vi x2, vi y1, vi y2, vi zz, vi 2, vi 0, vi w, vr o_1914, vr o_1924, vi 1, vr w_2115, vr a_2140, vi 3, vi 3, .unset] [(.ref w_2166)])
                                        refine K.astore at_335 (pc' := 337) rfl rfl (L' := #[vi p, vi x1, vi x2, vi y1, vi y2, vi zz, vi 2, vi 0, vi w, vr o_1914, vr o_1924, vi 1, vr w_2115, vr a_2140, vi 3, vi 3, vr w_2166]) rfl ?_
                                        refine K.iload at_337 (pc' := 339) rfl rfl ?_
                                        refine K.if_eq at_339 (pc1 := 342) rfl (by decide) (pc2 := 369) (by decide) (a := 1) rfl (fun c339 => ?_) (fun c339 => ?_)
                                        · exfalso; omega
                                        · refine K.aload at_342 (pc' := 344) rfl rfl rfl ?_
                                          refine K.iconst at_344 (pc' := 345) rfl (z := 0) rfl ?_
                                          refine K.iload at_345 (pc' := 347) rfl rfl ?_
                                          refine K.icmp_ge at_347 (pc1 := 350) rfl (by decide) (pc2 := 354) (by decide) (a := 0) (b := 3) rfl rfl (fun c347 => ?_) (fun c347 => ?_)
                                          · exfalso; omega
                                          · refine K.iconst at_350 (pc' := 351) rfl (z := 1) rfl ?_
                                            refine K.goto at_351 (by decide) (pc' := 355) (by decide) ?_
                                            refine K.aload at_355 (pc' := 357) rfl rfl rfl ?_
                                            refine K.iconst at_357 (pc' := 358) rfl (z := 0) rfl ?_
                                            have f_2172 : Ary Z h_2163 a_2140 .int [(.int x1), (.int x2), (.int zz), (.int (0 : Int32)), (.int (0 : Int32))] := (A_2157.keep K_2167 nin0)
                                            refine K.iald at_358 (pc' := 359) rfl f_2172 (i := 0) rfl rfl ?_
                                            have ne_2173 : lk_1954 ≠ lk_1988 := (Nat.ne_of_lt (Nat.lt_of_lt_of_le f_1959.lt (Nat.le_trans K_1971.1 f_1991)))
                                            have ne_2174 : lk_1954 ≠ w_2115 := (Nat.ne_of_lt (Nat.lt_of_lt_of_le f_1959.lt (Nat.le_trans (Nat.le_trans K_1971.1 (Nat.le_trans K_1990.1 (Nat.le_trans K_2024.1 (Nat.le_trans K_2039.1 (Nat.le_trans K_2058.1 (Nat.le_trans K_2075.1 K_2091.1)))))) f_2117)))
                                            have ne_2175 : lk_1954 ≠ a_2140 := (Nat.ne_of_lt (Nat.lt_of_lt_of_le f_1959.lt (Nat.le_trans (Nat.le_trans K_1971.1 (Nat.le_trans K_1990.1 (Nat.le_trans K_2024.1 (Nat.le_trans K_2039.1 (Nat.le_trans K_2058.1 (Nat.le_trans K_2075.1 (Nat.le_trans K_2091.1 (Nat.le_trans K_2116.1 K_2133.1)))))))) (Nat.le_of_eq g_a_2140.symm))))
                                            have f_2176 : Fld Z h_2163 lk_1954 sL "next" dL (.ref lk_1988) := ((((((((((((f_1996.keep K_2024 nin0).keep K_2039 nin0).keep K_2058 (ninS ne_1982 (ninS ne_2173 nin0))).keep K_2075 nin0).keep K_2091 (ninS (Ne.symm ne_2003) nin0)).keep K_2116 nin0).keep K_2133 (ninS ne_2174 nin0)).ext E_2142).other W_2147 (Or.inl ne_2175)).other W_2151 (Or.inl ne_2175)).other W_2155 (Or.inl ne_2175)).keep K_2167 nin0)
                                            have f_2177 : Fld Z h_2163 lk_1954 sL "element" "Ljava/lang/Object;" (.ref w_1940) := ((((((((((((f_1997.keep K_2024 nin0).keep K_2039 nin0).keep K_2058 (ninS ne_1982 (ninS ne_2173 nin0))).keep K_2075 nin0).keep K_2091 (ninS (Ne.symm ne_2003) nin0)).keep K_2116 nin0).keep K_2133 (ninS ne_2174 nin0)).ext E_2142).other W_2147 (Or.inl ne_2175)).other W_2151 (Or.inl ne_2175)).other W_2155 (Or.inl ne_2175)).keep K_2167 nin0)
                                            have ne_2178 : w_1940 ≠ o_1914 := (f_1944.elim (fun q => Nat.ne_of_lt (Nat.lt_of_lt_of_le q ge_o_1914)) (fun q => Nat.ne_of_gt (Nat.lt_of_lt_of_le x_o_1914.lt (Nat.le_trans E_1926.1 q))))
                                            have ne_2179 : w_1940 ≠ lk_1954 := (Nat.ne_of_lt (Nat.lt_of_lt_of_le f_1942.lt (Nat.le_trans (Nat.le_refl _) f_1957)))
                                            have ne_2180 : w_1940 ≠ lk_1988 := (Nat.ne_of_lt (Nat.lt_of_lt_of_le f_1942.lt (Nat.le_trans (Nat.le_trans K_1956.1 K_1971.1) f_1991)))
                                            have ne_2181 : w_1940 ≠ o_1924 := (f_1944.elim (fun q => Nat.ne_of_lt (Nat.lt_of_lt_of_le q ge_o_1924)) (fun q => Nat.ne_of_gt (Nat.lt_of_lt_of_le x_o_1924.lt (Nat.le_trans (Nat.le_refl _) q))))
                                            have ne_2182 : w_1940 ≠ w_2115 := (Nat.ne_of_lt (Nat.lt_of_lt_of_le f_1942.lt (Nat.le_trans (Nat.le_trans K_1956.1 (Nat.le_trans K_1971.1 (Nat.le_trans K_1990.1 (Nat.le_trans K_2024.1 (Nat.le_trans K_2039.1 (Nat.le_trans K_2058.1 (Nat.le_trans K_2075.1 K_2091.1))))))) f_2117)))
                                            have ne_2183 : w_1940 ≠ a_2140 := (Nat.ne_of_lt (Nat.lt_of_lt_of_le f_1942.lt (Nat.le_trans (Nat.le_trans K_1956.1 (Nat.le_trans K_1971.1 (Nat.le_trans K_1990.1 (Nat.le_trans K_2024.1 (Nat.le_trans K_2039.1 (Nat.le_trans K_2058.1 (Nat.le_trans K_2075.1 (Nat.le_trans K_2091.1 (Nat.le_trans K_2116.1 K_2133.1))))))))) (Nat.le_of_eq g_a_2140.symm))))
                                            have f_2184 : Fld Z h_2163 w_1940 sN "value" "I" (.int x1) := (((((((((((((((f_1943.keep K_1956 (ninS ne_2178 nin0)).keep K_1971 nin0).keep K_1990 (ninS ne_2178 (ninS ne_2179 nin0))).keep K_2024 nin0).keep K_2039 nin0).keep K_2058 (ninS ne_2178 (ninS ne_2180 nin0))).keep K_2075 nin0).keep K_2091 (ninS ne_2181 nin0)).keep K_2116 nin0).keep K_2133 (ninS ne_2182 nin0)).ext E_2142).other W_2147 (Or.inl ne_2183)).other W_2151 (Or.inl ne_2183)).other W_2155 (Or.inl ne_2183)).keep K_2167 nin0)
                                            have f_2185 : Exa Z h_2163 lk_1954 sL := (((((((((((((f_1981.keep K_1990).keep K_2024).keep K_2039).keep K_2058).keep K_2075).keep K_2091).keep K_2116).keep K_2133).ext E_2142).wr W_2147).wr W_2151).wr W_2155).keep K_2167)
                                            have ne_2186 : lk_1954 ≠ w_2166 := (Nat.ne_of_lt (Nat.lt_of_lt_of_le f_1959.lt (Nat.le_trans (Nat.le_trans K_1971.1 (Nat.le_trans K_1990.1 (Nat.le_trans K_2024.1 (Nat.le_trans K_2039.1 (Nat.le_trans K_2058.1 (Nat.le_trans K_2075.1 (Nat.le_trans K_2091.1 (Nat.le_trans K_2116.1 (Nat.le_trans K_2133.1 (Nat.le_trans E_2142.1 (Nat.le_trans (Keep.of_wr W_2147).1 (Nat.le_trans (Keep.of_wr W_2151).1 (Keep.of_wr W_2155).1)))))))))))) f_2168)))
                                            have ne_2187 : w_1940 ≠ w_2166 := (Nat.ne_of_lt (Nat.lt_of_lt_of_le f_1942.lt (Nat.le_trans (Nat.le_trans K_1956.1 (Nat.le_trans K_1971.1 (Nat.le_trans K_1990.1 (Nat.le_trans K_2024.1 (Nat.le_trans K_2039.1 (Nat.le_trans K_2058.1 (Nat.le_trans K_2075.1 (Nat.le_trans K_2091.1 (Nat.le_trans K_2116.1 (Nat.le_trans K_2133.1 (Nat.le_trans E_2142.1 (Nat.le_trans (Keep.of_wr W_2147).1 (Nat.le_trans (Keep.of_wr W_2151).1 (Keep.of_wr W_2155).1))))))))))))) f_2168)))
                                            have f_2188 : Exa Z h_2163 w_1940 sN := (((((((((((((((f_1942.keep K_1956).keep K_1971).keep K_1990).keep K_2024).keep K_2039).keep K_2058).keep K_2075).keep K_2091).keep K_2116).keep K_2133).ext E_2142).wr W_2147).wr W_2151).wr W_2155).keep K_2167)
                                            refine K.calls (argsL := [(.ref w_2166), (.int (1 : Int32)), (.int x1)]) (rest := []) at_359 (pc' := 362) rfl (c_st11 l Z a0 hw n0 h_2163 (a := w_2166) (e := x1) (lk := lk_1954) (b := w_1940) (v0 := x1) (x := lk_1988) f_2170 f_2169 f_2171 f_2185 ne_2186 f_2177 f_2176 ne_2187 f_2188 f_2184) hw78 hw79 hw80 hw81 (by decide) pd_10 rfl rfl (W := 0) (by simp [Value.category]) (by decide) (by decide) (by decide) (by decide) (fun v_2191 h_2189 q_2190 => ?_)
                                            obtain ⟨rfl, K_2193, f_2194⟩ := q_2190
                                            show G h_2189 14 29 (mkF m 362 #[vi p, vi x1, vi x2, vi y1, vi y2, vi zz, vi 2, vi 0, vi w, vr o_1914, vr o_1924, vi 1, vr w_2115, vr a_2140, vi 3, vi 3, vr w_2166] [(.int (b2 (x1.toInt = x1.toInt)))])
                                            refine K.ifeqB at_362 (pc1 := 365) rfl (by decide) (pc2 := 369) (by decide) (fun c362 => ?_) (fun c362 => ?_)
                                            · exfalso; first | exact c362 rfl | exact c362 trivial
                                            · refine K.iconst at_365 (pc' := 366) rfl (z := 1) rfl ?_
                                              refine K.goto at_366 (by decide) (pc' := 370) (by decide) ?_
                                              refine K.istore at_370 (pc' := 372) rfl (L' := #[vi p, vi x1, vi x2, vi y1, vi y2, vi zz, vi 2, vi 0, vi w, vr o_1914, vr o_1924, vi 1, vr w_2115, vr a_2140, vi 3, vi 3, vr w_2166]) rfl ?_
                                              refine K.iload at_372 (pc' := 374) rfl rfl ?_
                                              refine K.if_eq at_374 (pc1 := 377) rfl (by decide) (pc2 := 404) (by decide) (a := 1) rfl (fun c374 => ?_) (fun c374 => ?_)
                                              · exfalso; omega
                                              · refine K.aload at_377 (pc' := 379) rfl rfl rfl ?_
                                                refine K.iconst at_379 (pc' := 380) rfl (z := 1) rfl ?_
                                                refine K.iload at_380 (pc' := 382) rfl rfl ?_
                                                refine K.icmp_ge at_382 (pc1 := 385) rfl (by decide) (pc2 := 389) (by decide) (a := 1) (b := 3) rfl rfl (fun c382 => ?_) (fun c382 => ?_)
                                                · exfalso; omega
                                                · refine K.iconst at_385 (pc' := 386) rfl (z := 1) rfl ?_
                                                  refine K.goto at_386 (by decide) (pc' := 390) (by decide) ?_
                                                  refine K.aload at_390 (pc' := 392) rfl rfl rfl ?_
                                                  refine K.iconst at_392 (pc' := 393) rfl (z := 1) rfl ?_
                                                  have ne_2195 : a_2140 ≠ w_2166 := (Nat.ne_of_lt (Nat.lt_of_lt_of_le A_2145.lt (Nat.le_trans (Nat.le_trans (Keep.of_wr W_2147).1 (Nat.le_trans (Keep.of_wr W_2151).1 (Keep.of_wr W_2155).1)) f_2168)))
                                                  have f_2196 : Ary Z h_2189 a_2140 .int [(.int x1), (.int x2), (.int zz), (.int (0 : Int32)), (.int (0 : Int32))] := (f_2172.keep K_2193 (ninS ne_2195 nin0))
                                                  refine K.iald at_393 (pc' := 394) rfl f_2196 (i := 1) rfl rfl ?_
                                                  have ne_2197 : lk_1988 ≠ w_2115 := (Nat.ne_of_lt (Nat.lt_of_lt_of_le f_1993.lt (Nat.le_trans (Nat.le_trans K_2024.1 (Nat.le_trans K_2039.1 (Nat.le_trans K_2058.1 (Nat.le_trans K_2075.1 K_2091.1)))) f_2117)))
                                                  have ne_2198 : lk_1988 ≠ a_2140 := (Nat.ne_of_lt (Nat.lt_of_lt_of_le f_1993.lt (Nat.le_trans (Nat.le_trans K_2024.1 (Nat.le_trans K_2039.1 (Nat.le_trans K_2058.1 (Nat.le_trans K_2075.1 (Nat.le_trans K_2091.1 (Nat.le_trans K_2116.1 K_2133.1)))))) (Nat.le_of_eq g_a_2140.symm))))
                                                  have ne_2199 : lk_1988 ≠ w_2166 := (Nat.ne_of_lt (Nat.lt_of_lt_of_le f_1993.lt (Nat.le_trans (Nat.le_trans K_2024.1 (Nat.le_trans K_2039.1 (Nat.le_trans K_2058.1 (Nat.le_trans K_2075.1 (Nat.le_trans K_2091.1 (Nat.le_trans K_2116.1 (Nat.le_trans K_2133.1 (Nat.le_trans E_2142.1 (Nat.le_trans (Keep.of_wr W_2147).1 (Nat.le_trans (Keep.of_wr W_2151).1 (Keep.of_wr W_2155).1)))))))))) f_2168)))
                                                  have f_2200 : Fld Z h_2189 lk_1988 sL "next" dL (.ref lk_2056) := ((((((((((f_2064.keep K_2075 nin0).keep K_2091 (ninS (Ne.symm ne_2080) nin0)).keep K_2116 nin0).keep K_2133 (ninS ne_2197 nin0)).ext E_2142).other W_2147 (Or.inl ne_2198)).other W_2151 (Or.inl ne_2198)).other W_2155 (Or.inl ne_2198)).keep K_2167 nin0).keep K_2193 (ninS ne_2199 nin0))
                                                  have f_2201 : Fld Z h_2189 lk_1988 sL "element" "Ljava/lang/Object;" (.ref w_1970) := ((((((((((f_2065.keep K_2075 nin0).keep K_2091 (ninS (Ne.symm ne_2080) nin0)).keep K_2116 nin0).keep K_2133 (ninS ne_2197 nin0)).ext E_2142).other W_2147 (Or.inl ne_2198)).other W_2151 (Or.inl ne_2198)).other W_2155 (Or.inl ne_2198)).keep K_2167 nin0).keep K_2193 (ninS ne_2199 nin0))
                                                  have ne_2202 : w_1970 ≠ lk_1954 := (f_1974.elim (fun q => Nat.ne_of_lt (Nat.lt_of_lt_of_le q f_1958)) (fun q => Nat.ne_of_gt (Nat.lt_of_lt_of_le f_1959.lt (Nat.le_trans (Nat.le_refl _) q))))
                                                  have ne_2203 : w_1970 ≠ o_1914 := (f_1974.elim (fun q => Nat.ne_of_lt (Nat.lt_of_lt_of_le q ge_o_1914)) (fun q => Nat.ne_of_gt (Nat.lt_of_lt_of_le x_o_1914.lt (Nat.le_trans (Nat.le_trans E_1926.1 (Nat.le_trans K_1941.1 K_1956.1)) q))))
                                                  have ne_2204 : w_1970 ≠ lk_1988 := (Nat.ne_of_lt (Nat.lt_of_lt_of_le f_1972.lt (Nat.le_trans (Nat.le_refl _) f_1991)))
                                                  have ne_2205 : w_1970 ≠ o_1924 := (f_1974.elim (fun q => Nat.ne_of_lt (Nat.lt_of_lt_of_le q ge_o_1924)) (fun q => Nat.ne_of_gt (Nat.lt_of_lt_of_le x_o_1924.lt (Nat.le_trans (Nat.le_trans K_1941.1 K_1956.1) q))))
                                                  have ne_2206 : w_1970 ≠ w_2115 := (Nat.ne_of_lt (Nat.lt_of_lt_of_le f_1972.lt (Nat.le_trans (Nat.le_trans K_1990.1 (Nat.le_trans K_2024.1 (Nat.le_trans K_2039.1 (Nat.le_trans K_2058.1 (Nat.le_trans K_2075.1 K_2091.1))))) f_2117)))
                                                  have ne_2207 : w_1970 ≠ a_2140 := (Nat.ne_of_lt (Nat.lt_of_lt_of_le f_1972.lt (Nat.le_trans (Nat.le_trans K_1990.1 (Nat.le_trans K_2024.1 (Nat.le_trans K_2039.1 (Nat.le_trans K_2058.1 (Nat.le_trans K_2075.1 (Nat.le_trans K_2091.1 (Nat.le_trans K_2116.1 K_2133.1))))))) (Nat.le_of_eq g_a_2140.symm))))
                                                  have ne_2208 : w_1970 ≠ w_2166 := (Nat.ne_of_lt (Nat.lt_of_lt_of_le f_1972.lt (Nat.le_trans (Nat.le_trans K_1990.1 (Nat.le_trans K_2024.1 (Nat.le_trans K_2039.1 (Nat.le_trans K_2058.1 (Nat.le_trans K_2075.1 (Nat.le_trans K_2091.1 (Nat.le_trans K_2116.1 (Nat.le_trans K_2133.1 (Nat.le_trans E_2142.1 (Nat.le_trans (Keep.of_wr W_2147).1 (Nat.le_trans (Keep.of_wr W_2151).1 (Keep.of_wr W_2155).1))))))))))) f_2168)))
                                                  have f_2209 : Fld Z h_2189 w_1970 sN "value" "I" (.int x2) := ((((((((((((((f_1973.keep K_1990 (ninS ne_2203 (ninS ne_2202 nin0))).keep K_2024 nin0).keep K_2039 nin0).keep K_2058 (ninS ne_2203 (ninS ne_2204 nin0))).keep K_2075 nin0).keep K_2091 (ninS ne_2205 nin0)).keep K_2116 nin0).keep K_2133 (ninS ne_2206 nin0)).ext E_2142).other W_2147 (Or.inl ne_2207)).other W_2151 (Or.inl ne_2207)).other W_2155 (Or.inl ne_2207)).keep K_2167 nin0).keep K_2193 (ninS ne_2208 nin0))
                                                  have f_2210 : Exa Z h_2189 w_2166 sI := (f_2170.keep K_2193)
                                                  have f_2211 : Exa Z h_2189 lk_1988 sL := (((((((((((f_2049.keep K_2058).keep K_2075).keep K_2091).keep K_2116).keep K_2133).ext E_2142).wr W_2147).wr W_2151).wr W_2155).keep K_2167).keep K_2193)
                                                  have f_2212 : Exa Z h_2189 w_1970 sN := ((((((((((((((f_1972.keep K_1990).keep K_2024).keep K_2039).keep K_2058).keep K_2075).keep K_2091).keep K_2116).keep K_2133).ext E_2142).wr W_2147).wr W_2151).wr W_2155).keep K_2167).keep K_2193)
                                                  refine K.calls (argsL := [(.ref w_2166), (.int (1 : Int32)), (.int x2)]) (rest := []) at_394 (pc' := 397) rfl (c_st11 l Z a0 hw n0 h_2189 (a := w_2166) (e := x2) (lk := lk_1988) (b := w_1970) (v0 := x2) (x := lk_2056) f_2210 f_2169 f_2194 f_2211 ne_2199 f_2201 f_2200 ne_2208 f_2212 f_2209) hw78 hw79 hw80 hw81 (by decide) pd_10 rfl rfl (W := 0) (by simp [Value.category]) (by decide) (by decide) (by decide) (by decide) (fun v_2215 h_2213 q_2214 => ?_)
                                                  obtain ⟨rfl, K_2217, f_2218⟩ := q_2214
                                                  show G h_2213 14 29 (mkF m 397 #[vi p, vi x1, vi x2, vi y1, vi y2, vi zz, vi 2, vi 0, vi w, vr o_1914, vr o_1924, vi 1, vr w_2115, vr a_2140, vi 3, vi 3, vr w_2166] [(.int (b2 (x2.toInt = x2.toInt)))])
                                                  refine K.ifeqB at_397 (pc1 := 400) rfl (by decide) (pc2 := 404) (by decide) (fun c397 => ?_) (fun c397 => ?_)
                                                  · exfalso; first | exact c397 rfl | exact c397 trivial
                                                  · refine K.iconst at_400 (pc' := 401) rfl (z := 1) rfl ?_
                                                    refine K.goto at_401 (by decide) (pc' := 405) (by decide) ?_
                                                    refine K.istore at_405 (pc' := 407) rfl (L' := #[vi p, vi x1, vi x2, vi y1, vi y2, vi zz, vi 2, vi 0, vi w, vr o_1914, vr o_1924, vi 1, vr w_2115, vr a_2140, vi 3, vi 3, vr w_2166]) rfl ?_
                                                    refine K.iload at_407 (pc' := 409) rfl rfl ?_
                                                    refine K.if_eq at_409 (pc1 := 412) rfl (by decide) (pc2 := 439) (by decide) (a := 1) rfl (fun c409 => ?_) (fun c409 => ?_)
                                                    · exfalso; omega
                                                    · refine K.aload at_412 (pc' := 414) rfl rfl rfl ?_
                                                      refine K.iconst at_414 (pc' := 415) rfl (z := 2) rfl ?_
                                                      refine K.iload at_415 (pc' := 417) rfl rfl ?_
                                                      refine K.icmp_ge at_417 (pc1 := 420) rfl (by decide) (pc2 := 424) (by decide) (a := 2) (b := 3) rfl rfl (fun c417 => ?_) (fun c417 => ?_)
                                                      · exfalso; omega
                                                      · refine K.iconst at_420 (pc' := 421) rfl (z := 1) rfl ?_
                                                        refine K.goto at_421 (by decide) (pc' := 425) (by decide) ?_
                                                        refine K.aload at_425 (pc' := 427) rfl rfl rfl ?_
                                                        refine K.iconst at_427 (pc' := 428) rfl (z := 2) rfl ?_
                                                        have f_2219 : Ary Z h_2213 a_2140 .int [(.int x1), (.int x2), (.int zz), (.int (0 : Int32)), (.int (0 : Int32))] := (f_2196.keep K_2217 (ninS ne_2195 nin0))
                                                        refine K.iald at_428 (pc' := 429) rfl f_2219 (i := 2) rfl rfl ?_
                                                        have ne_2220 : lk_2056 ≠ o_1924 := (Ne.symm (Nat.ne_of_lt (Nat.lt_of_lt_of_le x_o_1924.lt (Nat.le_trans (Nat.le_trans K_1941.1 (Nat.le_trans K_1956.1 (Nat.le_trans K_1971.1 (Nat.le_trans K_1990.1 (Nat.le_trans K_2024.1 K_2039.1))))) f_2059))))
                                                        have ne_2221 : lk_2056 ≠ w_2115 := (Nat.ne_of_lt (Nat.lt_of_lt_of_le f_2061.lt (Nat.le_trans (Nat.le_trans K_2075.1 K_2091.1) f_2117)))
                                                        have ne_2222 : lk_2056 ≠ a_2140 := (Nat.ne_of_lt (Nat.lt_of_lt_of_le f_2061.lt (Nat.le_trans (Nat.le_trans K_2075.1 (Nat.le_trans K_2091.1 (Nat.le_trans K_2116.1 K_2133.1))) (Nat.le_of_eq g_a_2140.symm))))
                                                        have ne_2223 : lk_2056 ≠ w_2166 := (Nat.ne_of_lt (Nat.lt_of_lt_of_le f_2061.lt (Nat.le_trans (Nat.le_trans K_2075.1 (Nat.le_trans K_2091.1 (Nat.le_trans K_2116.1 (Nat.le_trans K_2133.1 (Nat.le_trans E_2142.1 (Nat.le_trans (Keep.of_wr W_2147).1 (Nat.le_trans (Keep.of_wr W_2151).1 (Keep.of_wr W_2155).1))))))) f_2168)))
                                                        have f_2224 : Fld Z h_2213 lk_2056 sL "next" dL .null := (((((((((((f_2063.keep K_2075 nin0).keep K_2091 (ninS ne_2220 nin0)).keep K_2116 nin0).keep K_2133 (ninS ne_2221 nin0)).ext E_2142).other W_2147 (Or.inl ne_2222)).other W_2151 (Or.inl ne_2222)).other W_2155 (Or.inl ne_2222)).keep K_2167 nin0).keep K_2193 (ninS ne_2223 nin0)).keep K_2217 (ninS ne_2223 nin0))
                                                        have f_2225 : Fld Z h_2213 lk_2056 sL "element" "Ljava/lang/Object;" (.ref w_2038) := (((((((((((f_2062.keep K_2075 nin0).keep K_2091 (ninS ne_2220 nin0)).keep K_2116 nin0).keep K_2133 (ninS ne_2221 nin0)).ext E_2142).other W_2147 (Or.inl ne_2222)).other W_2151 (Or.inl ne_2222)).other W_2155 (Or.inl ne_2222)).keep K_2167 nin0).keep K_2193 (ninS ne_2223 nin0)).keep K_2217 (ninS ne_2223 nin0))
                                                        have ne_2226 : w_2038 ≠ lk_1988 := (f_2042.elim (fun q => Nat.ne_of_lt (Nat.lt_of_lt_of_le q f_1992)) (fun q => Nat.ne_of_gt (Nat.lt_of_lt_of_le f_1993.lt (Nat.le_trans K_2024.1 q))))
                                                        have ne_2227 : w_2038 ≠ o_1914 := (f_2042.elim (fun q => Nat.ne_of_lt (Nat.lt_of_lt_of_le q ge_o_1914)) (fun q => Nat.ne_of_gt (Nat.lt_of_lt_of_le x_o_1914.lt (Nat.le_trans (Nat.le_trans E_1926.1 (Nat.le_trans K_1941.1 (Nat.le_trans K_1956.1 (Nat.le_trans K_1971.1 (Nat.le_trans K_1990.1 K_2024.1))))) q))))
                                                        have ne_2228 : w_2038 ≠ o_1924 := (f_2042.elim (fun q => Nat.ne_of_lt (Nat.lt_of_lt_of_le q ge_o_1924)) (fun q => Nat.ne_of_gt (Nat.lt_of_lt_of_le x_o_1924.lt (Nat.le_trans (Nat.le_trans K_1941.1 (Nat.le_trans K_1956.1 (Nat.le_trans K_1971.1 (Nat.le_trans K_1990.1 K_2024.1)))) q))))
                                                        have ne_2229 : w_2038 ≠ w_2115 := (Nat.ne_of_lt (Nat.lt_of_lt_of_le f_2040.lt (Nat.le_trans (Nat.le_trans K_2058.1 (Nat.le_trans K_2075.1 K_2091.1)) f_2117)))
                                                        have ne_2230 : w_2038 ≠ a_2140 := (Nat.ne_of_lt (Nat.lt_of_lt_of_le f_2040.lt (Nat.le_trans (Nat.le_trans K_2058.1 (Nat.le_trans K_2075.1 (Nat.le_trans K_2091.1 (Nat.le_trans K_2116.1 K_2133.1)))) (Nat.le_of_eq g_a_2140.symm))))
                                                        have ne_2231 : w_2038 ≠ w_2166 := (Nat.ne_of_lt (Nat.lt_of_lt_of_le f_2040.lt (Nat.le_trans (Nat.le_trans K_2058.1 (Nat.le_trans K_2075.1 (Nat.le_trans K_2091.1 (Nat.le_trans K_2116.1 (Nat.le_trans K_2133.1 (Nat.le_trans E_2142.1 (Nat.le_trans (Keep.of_wr W_2147).1 (Nat.le_trans (Keep.of_wr W_2151).1 (Keep.of_wr W_2155).1)))))))) f_2168)))
                                                        have f_2232 : Fld Z h_2213 w_2038 sN "value" "I" (.int zz) := ((((((((((((f_2041.keep K_2058 (ninS ne_2227 (ninS ne_2226 nin0))).keep K_2075 nin0).keep K_2091 (ninS ne_2228 nin0)).keep K_2116 nin0).keep K_2133 (ninS ne_2229 nin0)).ext E_2142).other W_2147 (Or.inl ne_2230)).other W_2151 (Or.inl ne_2230)).other W_2155 (Or.inl ne_2230)).keep K_2167 nin0).keep K_2193 (ninS ne_2231 nin0)).keep K_2217 (ninS ne_2231 nin0))
                                                        have f_2233 : Exa Z h_2213 w_2166 sI := (f_2210.keep K_2217)
                                                        have f_2234 : Exa Z h_2213 lk_2056 sL := (((((((((((f_2061.keep K_2075).keep K_2091).keep K_2116).keep K_2133).ext E_2142).wr W_2147).wr W_2151).wr W_2155).keep K_2167).keep K_2193).keep K_2217)
                                                        have f_2235 : Exa Z h_2213 w_2038 sN := ((((((((((((f_2040.keep K_2058).keep K_2075).keep K_2091).keep K_2116).keep K_2133).ext E_2142).wr W_2147).wr W_2151).wr W_2155).keep K_2167).keep K_2193).keep K_2217)
                                                        refine K.calls (argsL := [(.ref w_2166), (.int (1 : Int32)), (.int zz)]) (rest := []) at_429 (pc' := 432) rfl (c_st10 l Z a0 hw n0 h_2213 (a := w_2166) (e := zz) (lk := lk_2056) (b := w_2038) (v0 := zz) f_2233 f_2169 f_2218 f_2234 ne_2223 f_2225 f_2224 ne_2231 f_2235 f_2232) hw78 hw79 hw80 hw81 (by decide) pd_10 rfl rfl (W := 0) (by simp [Value.category]) (by decide) (by decide) (by decide) (by decide) (fun v_2238 h_2236 q_2237 => ?_)
                                                        obtain ⟨rfl, K_2240, f_2241⟩ := q_2237
                                                        show G h_2236 14 29 (mkF m 432 #[vi p, vi x1, vi x2, vi y1, vi y2, vi zz, vi 2, vi 0, vi w, vr o_1914, vr o_1924, vi 1, vr w_2115, vr a_2140, vi 3, vi 3, vr w_2166] [(.int (b2 (zz.toInt = zz.toInt)))])
                                                        refine K.ifeqB at_432 (pc1 := 435) rfl (by decide) (pc2 := 439) (by decide) (fun c432 => ?_) (fun c432 => ?_)
                                                        · exfalso; first | exact c432 rfl | exact c432 trivial
                                                        · refine K.iconst at_435 (pc' := 436) rfl (z := 1) rfl ?_
                                                          refine K.goto at_436 (by decide) (pc' := 440) (by decide) ?_
                                                          refine K.istore at_440 (pc' := 442) rfl (L' := #[vi p, vi x1, vi x2, vi y1, vi y2, vi zz, vi 2, vi 0, vi w, vr o_1914, vr o_1924, vi 1, vr w_2115, vr a_2140, vi 3, vi 3, vr w_2166]) rfl ?_
                                                          refine K.iload at_442 (pc' := 444) rfl rfl ?_
                                                          refine K.if_eq at_444 (pc1 := 447) rfl (by decide) (pc2 := 474) (by decide) (a := 1) rfl (fun c444 => ?_) (fun c444 => ?_)
                                                          · exfalso; omega
                                                          · refine K.aload at_447 (pc' := 449) rfl rfl rfl ?_
                                                            refine K.iconst at_449 (pc' := 450) rfl (z := 3) rfl ?_
                                                            refine K.iload at_450 (pc' := 452) rfl rfl ?_
                                                            refine K.icmp_ge at_452 (pc1 := 455) rfl (by decide) (pc2 := 459) (by decide) (a := 3) (b := 3) rfl rfl (fun c452 => ?_) (fun c452 => ?_)
                                                            · refine K.iconst at_459 (pc' := 460) rfl (z := 0) rfl ?_
                                                              refine K.aload at_460 (pc' := 462) rfl rfl rfl ?_
                                                              refine K.iconst at_462 (pc' := 463) rfl (z := 3) rfl ?_
                                                              have f_2242 : Ary Z h_2236 a_2140 .int [(.int x1), (.int x2), (.int zz), (.int (0 : Int32)), (.int (0 : Int32))] := (f_2219.keep K_2240 (ninS ne_2195 nin0))
                                                              refine K.iald at_463 (pc' := 464) rfl f_2242 (i := 3) rfl rfl ?_
                                                              refine K.calls (argsL := [(.ref w_2166), (.int (0 : Int32)), (.int (0 : Int32))]) (rest := []) at_464 (pc' := 467) rfl (c_st0 l Z a0 hw n0 h_2236 (a := w_2166) (e := (0 : Int32)) ) hw78 hw79 hw80 hw81 (by decide) pd_10 rfl rfl (W := 0) (by simp [Value.category]) (by decide) (by decide) (by decide) (by decide) (fun v_2245 h_2243 q_2244 => ?_)
                                                              obtain ⟨rfl, rfl⟩ := q_2244
                                                              show G h_2236 14 29 (mkF m 467 #[vi p, vi x1, vi x2, vi y1, vi y2, vi zz, vi 2, vi 0, vi w, vr o_1914, vr o_1924, vi 1, vr w_2115, vr a_2140, vi 3, vi 3, vr w_2166] [(.int (b2 (True)))])
                                                              refine K.ifeqB at_467 (pc1 := 470) rfl (by decide) (pc2 := 474) (by decide) (fun c467 => ?_) (fun c467 => ?_)
                                                              · exfalso; first | exact c467 rfl | exact c467 trivial
                                                              · refine K.iconst at_470 (pc' := 471) rfl (z := 1) rfl ?_
                                                                refine K.goto at_471 (by decide) (pc' := 475) (by decide) ?_
                                                                refine K.istore at_475 (pc' := 477) rfl (L' := #[vi p, vi x1, vi x2, vi y1, vi y2, vi zz, vi 2, vi 0, vi w, vr o_1914, vr o_1924, vi 1, vr w_2115, vr a_2140, vi 3, vi 3, vr w_2166]) rfl ?_
                                                                refine K.iload at_477 (pc' := 479) rfl rfl ?_
                                                                refine K.if_eq at_479 (pc1 := 482) rfl (by decide) (pc2 := 509) (by decide) (a := 1) rfl (fun c479 => ?_) (fun c479 => ?_)
                                                                · exfalso; omega
                                                                · refine K.aload at_482 (pc' := 484) rfl rfl rfl ?_
                                                                  refine K.iconst at_484 (pc' := 485) rfl (z := 4) rfl ?_
                                                                  refine K.iload at_485 (pc' := 487) rfl rfl ?_
                                                                  refine K.icmp_ge at_487 (pc1 := 490) rfl (by decide) (pc2 := 494) (by decide) (a := 4) (b := 3) rfl rfl (fun c487 => ?_) (fun c487 => ?_)
                                                                  · refine K.iconst at_494 (pc' := 495) rfl (z := 0) rfl ?_
                                                                    refine K.aload at_495 (pc' := 497) rfl rfl rfl ?_
                                                                    refine K.iconst at_497 (pc' := 498) rfl (z := 4) rfl ?_
                                                                    refine K.iald at_498 (pc' := 499) rfl f_2242 (i := 4) rfl rfl ?_
                                                                    refine K.calls (argsL := [(.ref w_2166), (.int (0 : Int32)), (.int (0 : Int32))]) (rest := []) at_499 (pc' := 502) rfl (c_st0 l Z a0 hw n0 h_2236 (a := w_2166) (e := (0 : Int32)) ) hw78 hw79 hw80 hw81 (by decide) pd_10 rfl rfl (W := 0) (by simp [Value.category]) (by decide) (by decide) (by decide) (by decide) (fun v_2249 h_2247 q_2248 => ?_)
                                                                    obtain ⟨rfl, rfl⟩ := q_2248
                                                                    show G h_2236 14 29 (mkF m 502 #[vi p, vi x1, vi x2, vi y1, vi y2, vi zz, vi 2, vi 0, vi w, vr o_1914, vr o_1924, vi 1, vr w_2115, vr a_2140, vi 3, vi 3, vr w_2166] [(.int (b2 (True)))])
                                                                    refine K.ifeqB at_502 (pc1 := 505) rfl (by decide) (pc2 := 509) (by decide) (fun c502 => ?_) (fun c502 => ?_)
                                                                    · exfalso; first | exact c502 rfl | exact c502 trivial
                                                                    · refine K.iconst at_505 (pc' := 506) rfl (z := 1) rfl ?_
                                                                      refine K.goto at_506 (by decide) (pc' := 510) (by decide) ?_
                                                                      refine K.istore at_510 (pc' := 512) rfl (L' := #[vi p, vi x1, vi x2, vi y1, vi y2, vi zz, vi 2, vi 0, vi w, vr o_1914, vr o_1924, vi 1, vr w_2115, vr a_2140, vi 3, vi 3, vr w_2166]) rfl ?_
                                                                      refine K.iload at_512 (pc' := 514) rfl rfl ?_
                                                                      refine K.if_eq at_514 (pc1 := 517) rfl (by decide) (pc2 := 531) (by decide) (a := 1) rfl (fun c514 => ?_) (fun c514 => ?_)
                                                                      · exfalso; omega
                                                                      · refine K.aload at_517 (pc' := 519) rfl rfl rfl ?_
                                                                        have f_2251 : Exa Z h_2236 w_2166 sI := (f_2233.keep K_2240)
                                                                        refine K.calli (z := (⟨sI, "hasNext", "()Z"⟩ : MethodName)) (argsL := []) (rest := []) at_519 (pc' := 524) rfl (c_has0 l Z a0 hw n0 h_2236 (a := w_2166) f_2251 f_2241) f_2251 hw46 hw47 hw48 rfl hw49 hw50 hw51 hw52 hw53 hw36 hw54 (by decide) pd_4 rfl rfl (W := 0) (by simp [Value.category]) (by decide) (by decide) (by decide) (by decide) (fun v_2254 h_2252 q_2253 => ?_)
                                                                        obtain ⟨rfl, rfl⟩ := q_2253
                                                                        show G h_2236 14 29 (mkF m 524 #[vi p, vi x1, vi x2, vi y1, vi y2, vi zz, vi 2, vi 0, vi w, vr o_1914, vr o_1924, vi 1, vr w_2115, vr a_2140, vi 3, vi 3, vr w_2166] [(.int (b2 (False)))])
                                                                        refine K.ifneB at_524 (pc1 := 527) rfl (by decide) (pc2 := 531) (by decide) (fun c524 => ?_) (fun c524 => ?_)
                                                                        · exfalso; exact c524
                                                                        · refine K.iconst at_527 (pc' := 528) rfl (z := 1) rfl ?_
                                                                          refine K.goto at_528 (by decide) (pc' := 532) (by decide) ?_
                                                                          exact K.retz at_532 (Or.inr rfl) (by decide) (by decide) rfl
                                                                  · exfalso; omega
                                                            · exfalso; omega
                                      · exfalso; omega
                                    · exfalso; omega
            · exfalso; omega
          · exfalso; omega
    · refine K.iload at_16 (pc' := 18) rfl rfl ?_
      refine K.iconst at_18 (pc' := 19) rfl (z := -1) rfl ?_
      obtain ⟨w, e_w⟩ : ∃ z, zz ^^^ (-1 : Int32) = z := ⟨_, rfl⟩
      refine K.ixor at_19 (pc' := 20) rfl e_w ?_
      refine K.istore at_20 (pc' := 22) rfl (L' := #[vi p, vi x1, vi x2, vi y1, vi y2, vi zz, vi 2, vi 1, vi w, .unset, .unset, .unset, .unset, .unset, .unset, .unset, .unset]) rfl ?_
      refine K.newo at_22 (pc' := 25) rfl hw1 hw2 hw3 (by decide) (by decide) (fun h_2257 o_2256 g_o_2256 E_2258 x_o_2256 D_o_2256 => ?_)
      have ge_o_2256 : n0 ≤ o_2256 := g_o_2256 ▸ Z0
      have f_2259 : Fld Z h_2257 o_2256 sC "first" dL .null := D_o_2256 (Or.inl hw21) (ty := (.object sL)) (by decide)
      have f_2260 : Fld Z h_2257 o_2256 sC "size" "I" (.int (0 : Int32)) := D_o_2256 (Or.inl hw28) (ty := .int) (by decide)
      have f_2261 : Fld Z h_2257 o_2256 sC "last" dL .null := D_o_2256 (Or.inl hw77) (ty := (.object sL)) (by decide)
      refine K.dup at_25 (pc' := 26) rfl rfl ?_
      refine K.callc (argsL := []) (rest := [(.ref o_2256)]) at_26 (pc' := 29) rfl rfl (c_chn l Z a0 hw n0 h_2257 (a := o_2256) ) hw4 hw5 hw3 hw6 (by decide) pd_0 rfl rfl (W := 1) (by simp [Value.category]) (by decide) (by decide) (by decide) (by decide) (fun v_2264 h_2262 q_2263 => ?_)
      obtain ⟨rfl, rfl⟩ := q_2263
      show G h_2257 1 3 (mkF m 29 #[vi p, vi x1, vi x2, vi y1, vi y2, vi zz, vi 2, vi 1, vi w, .unset, .unset, .unset, .unset, .unset, .unset, .unset, .unset] [(.ref o_2256)])
      refine K.astore at_29 (pc' := 31) rfl rfl (L' := #[vi p, vi x1, vi x2, vi y1, vi y2, vi zz, vi 2, vi 1, vi w, vr o_2256, .unset, .unset, .unset, .unset, .unset, .unset, .unset]) rfl ?_
      refine K.newo at_31 (pc' := 34) rfl hw1 hw2 hw3 (by decide) (by decide) (fun h_2267 o_2266 g_o_2266 E_2268 x_o_2266 D_o_2266 => ?_)
      have sz_2269 : n0 ≤ h_2257.size := Nat.le_trans Z0 E_2258.1
      have ge_o_2266 : n0 ≤ o_2266 := g_o_2266 ▸ sz_2269
      have f_2270 : Fld Z h_2267 o_2266 sC "first" dL .null := D_o_2266 (Or.inl hw21) (ty := (.object sL)) (by decide)
      have f_2271 : Fld Z h_2267 o_2266 sC "size" "I" (.int (0 : Int32)) := D_o_2266 (Or.inl hw28) (ty := .int) (by decide)
      have f_2272 : Fld Z h_2267 o_2266 sC "last" dL .null := D_o_2266 (Or.inl hw77) (ty := (.object sL)) (by decide)
      refine K.dup at_34 (pc' := 35) rfl rfl ?_
      refine K.callc (argsL := []) (rest := [(.ref o_2266)]) at_35 (pc' := 38) rfl rfl (c_chn l Z a0 hw n0 h_2267 (a := o_2266) ) hw4 hw5 hw3 hw6 (by decide) pd_0 rfl rfl (W := 1) (by simp [Value.category]) (by decide) (by decide) (by decide) (by decide) (fun v_2275 h_2273 q_2274 => ?_)
      obtain ⟨rfl, rfl⟩ := q_2274
      show G h_2267 2 6 (mkF m 38 #[vi p, vi x1, vi x2, vi y1, vi y2, vi zz, vi 2, vi 1, vi w, vr o_2256, .unset, .unset, .unset, .unset, .unset, .unset, .unset] [(.ref o_2266)])
      refine K.astore at_38 (pc' := 40) rfl rfl (L' := #[vi p, vi x1, vi x2, vi y1, vi y2, vi zz, vi 2, vi 1, vi w, vr o_2256, vr o_2266, .unset, .unset, .unset, .unset, .unset, .unset]) rfl ?_
      refine K.iload at_40 (pc' := 42) rfl rfl ?_
      refine K.if_le at_42 (pc1 := 45) rfl (by decide) (pc2 := 55) (by decide) (a := 2) rfl (fun c42 => ?_) (fun c42 => ?_)
      · exfalso; omega
      · refine K.aload at_45 (pc' := 47) rfl rfl rfl ?_
        refine K.iloadN at_47 (pc' := 48) rfl rfl ?_
        have sz_2277 : n0 ≤ h_2267.size := Nat.le_trans sz_2269 E_2268.1
        have f_2278 : Old Z n0 h_2267 := ((P2.ext E_2258).ext E_2268)
        refine K.calls (argsL := [(.int x1)]) (rest := [(.ref o_2256)]) at_48 (pc' := 51) rfl (c_val l Z a0 hw n0 h_2267 (p := x1) (ca := ca) (cc := cc) sz_2277 f_2278 P3 P4 hbx) hw55 hw56 hw57 hw58 (by decide) pd_8 rfl rfl (W := 1) (by simp [Value.category]) (by decide) (by decide) (by decide) (by decide) (fun v_2281 h_2279 q_2280 => ?_)
        obtain ⟨w_2282, rfl, K_2283, f_2284, f_2285, f_2286⟩ := q_2280
        show G h_2279 3 7 (mkF m 51 #[vi p, vi x1, vi x2, vi y1, vi y2, vi zz, vi 2, vi 1, vi w, vr o_2256, vr o_2266, .unset, .unset, .unset, .unset, .unset, .unset] [(.ref w_2282), (.ref o_2256)])
        have f_2287 : Exa Z h_2279 o_2256 sC := ((x_o_2256.ext E_2268).keep K_2283)
        have f_2288 : Fld Z h_2279 o_2256 sC "last" dL .null := ((f_2261.ext E_2268).keep K_2283 nin0)
        have f_2289 : Fld Z h_2279 o_2256 sC "size" "I" (.int (0 : Int32)) := ((f_2260.ext E_2268).keep K_2283 nin0)
        have sz_2290 : n0 ≤ h_2279.size := Nat.le_trans sz_2277 K_2283.1
        have f_2291 : Fld Z h_2279 o_2256 sC "first" dL .null := ((f_2259.ext E_2268).keep K_2283 nin0)
        refine K.callv (z := (⟨sC, "add", "(Ljava/lang/Object;)Z"⟩ : MethodName)) (argsL := [(.ref w_2282)]) (rest := []) at_51 (pc' := 54) rfl (c_add0 l Z a0 hw n0 h_2279 (a := o_2256) (e := w_2282) (n := (0 : Int32)) sz_2290 f_2287 ge_o_2256 f_2291 f_2288 f_2289 (by first | decide | omega)) f_2287 hw62 hw63 (nf_sel hw65 rfl) hw65 hw64 hw3 hw66 (by decide) pd_9 rfl rfl (W := 0) (by simp [Value.category]) (by decide) (by decide) (by decide) (by decide) (fun v_2294 h_2292 q_2293 => ?_)
        obtain ⟨lk_2296, n1_2297, rfl, K_2298, hn1_w_2295, f_2299, f_2300, f_2301, f_2302, f_2303, f_2304, f_2305, f_2306⟩ := q_2293
        show G h_2292 4 9 (mkF m 54 #[vi p, vi x1, vi x2, vi y1, vi y2, vi zz, vi 2, vi 1, vi w, vr o_2256, vr o_2266, .unset, .unset, .unset, .unset, .unset, .unset] [(.int (b2 (True)))])
        refine K.pop at_54 (pc' := 55) rfl rfl ?_
        refine K.iload at_55 (pc' := 57) rfl rfl ?_
        refine K.iconst at_57 (pc' := 58) rfl (z := 1) rfl ?_
        refine K.icmp_le at_58 (pc1 := 61) rfl (by decide) (pc2 := 71) (by decide) (a := 2) (b := 1) rfl rfl (fun c58 => ?_) (fun c58 => ?_)
        · exfalso; omega
        · refine K.aload at_61 (pc' := 63) rfl rfl rfl ?_
          refine K.iloadN at_63 (pc' := 64) rfl rfl ?_
          have sz_2307 : n0 ≤ h_2292.size := Nat.le_trans sz_2290 K_2298.1
          have f_2308 : Old Z n0 h_2292 := ((f_2278.keep K_2283 all0).keep K_2298 (allS ge_o_2256 all0))
          refine K.calls (argsL := [(.int x2)]) (rest := [(.ref o_2256)]) at_64 (pc' := 67) rfl (c_val l Z a0 hw n0 h_2292 (p := x2) (ca := ca) (cc := cc) sz_2307 f_2308 P3 P4 hbx) hw55 hw56 hw57 hw58 (by decide) pd_8 rfl rfl (W := 1) (by simp [Value.category]) (by decide) (by decide) (by decide) (by decide) (fun v_2311 h_2309 q_2310 => ?_)
          obtain ⟨w_2312, rfl, K_2313, f_2314, f_2315, f_2316⟩ := q_2310
          show G h_2309 5 10 (mkF m 67 #[vi p, vi x1, vi x2, vi y1, vi y2, vi zz, vi 2, vi 1, vi w, vr o_2256, vr o_2266, .unset, .unset, .unset, .unset, .unset, .unset] [(.ref w_2312), (.ref o_2256)])
          have f_2317 : Exa Z h_2309 o_2256 sC := ((f_2287.keep K_2298).keep K_2313)
          have f_2318 : Fld Z h_2309 o_2256 sC "last" dL (.ref lk_2296) := (f_2305.keep K_2313 nin0)
          have f_2319 : Fld Z h_2309 o_2256 sC "first" dL (.ref lk_2296) := (f_2304.keep K_2313 nin0)
          have f_2320 : Fld Z h_2309 o_2256 sC "size" "I" (.int n1_2297) := (f_2306.keep K_2313 nin0)
          have f_2321 : Fld Z h_2309 lk_2296 sL "element" "Ljava/lang/Object;" (.ref w_2282) := (f_2302.keep K_2313 nin0)
          have sz_2322 : n0 ≤ h_2309.size := Nat.le_trans sz_2307 K_2313.1
          have f_2323 : Exa Z h_2309 lk_2296 sL := (f_2301.keep K_2313)
          have ne_2324 : lk_2296 ≠ o_2256 := (Ne.symm (Nat.ne_of_lt (Nat.lt_of_lt_of_le x_o_2256.lt (Nat.le_trans (Nat.le_trans E_2268.1 K_2283.1) f_2299))))
          have f_2325 : Fld Z h_2309 lk_2296 sL "next" dL .null := (f_2303.keep K_2313 nin0)
          refine K.callv (z := (⟨sC, "add", "(Ljava/lang/Object;)Z"⟩ : MethodName)) (argsL := [(.ref w_2312)]) (rest := []) at_67 (pc' := 70) rfl (c_add1 l Z a0 hw n0 h_2309 (a := o_2256) (e := w_2312) (n := n1_2297) (f0 := lk_2296) (t := lk_2296) (te := w_2282) sz_2322 f_2317 ge_o_2256 f_2323 f_2300 ne_2324 f_2325 f_2321 f_2319 f_2318 f_2320 (by omega)) f_2317 hw62 hw63 (nf_sel hw65 rfl) hw65 hw64 hw3 hw66 (by decide) pd_9 rfl rfl (W := 0) (by simp [Value.category]) (by decide) (by decide) (by decide) (by decide) (fun v_2328 h_2326 q_2327 => ?_)
          obtain ⟨lk_2330, n1_2331, rfl, K_2332, hn1_w_2329, f_2333, f_2334, f_2335, f_2336, f_2337, f_2338, f_2339, f_2340, f_2341, f_2342⟩ := q_2327
          show G h_2326 6 12 (mkF m 70 #[vi p, vi x1, vi x2, vi y1, vi y2, vi zz, vi 2, vi 1, vi w, vr o_2256, vr o_2266, .unset, .unset, .unset, .unset, .unset, .unset] [(.int (b2 (True)))])
          refine K.pop at_70 (pc' := 71) rfl rfl ?_
          refine K.iload at_71 (pc' := 73) rfl rfl ?_
          refine K.if_le at_73 (pc1 := 76) rfl (by decide) (pc2 := 86) (by decide) (a := 1) rfl (fun c73 => ?_) (fun c73 => ?_)
          · exfalso; omega
          · refine K.aload at_76 (pc' := 78) rfl rfl rfl ?_
            refine K.iloadN at_78 (pc' := 79) rfl rfl ?_
            have sz_2343 : n0 ≤ h_2326.size := Nat.le_trans sz_2322 K_2332.1
            have f_2344 : Old Z n0 h_2326 := ((f_2308.keep K_2313 all0).keep K_2332 (allS ge_o_2256 (allS f_2300 all0)))
            refine K.calls (argsL := [(.int y1)]) (rest := [(.ref o_2266)]) at_79 (pc' := 82) rfl (c_val l Z a0 hw n0 h_2326 (p := y1) (ca := ca) (cc := cc) sz_2343 f_2344 P3 P4 hbx) hw55 hw56 hw57 hw58 (by decide) pd_8 rfl rfl (W := 1) (by simp [Value.category]) (by decide) (by decide) (by decide) (by decide) (fun v_2347 h_2345 q_2346 => ?_)
            obtain ⟨w_2348, rfl, K_2349, f_2350, f_2351, f_2352⟩ := q_2346
            show G h_2345 7 13 (mkF m 82 #[vi p, vi x1, vi x2, vi y1, vi y2, vi zz, vi 2, vi 1, vi w, vr o_2256, vr o_2266, .unset, .unset, .unset, .unset, .unset, .unset] [(.ref w_2348), (.ref o_2266)])
            have f_2353 : Exa Z h_2345 o_2266 sC := (((((x_o_2266.keep K_2283).keep K_2298).keep K_2313).keep K_2332).keep K_2349)
            have ne_2354 : o_2266 ≠ o_2256 := (Ne.symm (Nat.ne_of_lt (Nat.lt_of_lt_of_le x_o_2256.lt (Nat.le_trans (Nat.le_refl _) (Nat.le_of_eq g_o_2266.symm)))))
            have ne_2355 : o_2266 ≠ lk_2296 := (Nat.ne_of_lt (Nat.lt_of_lt_of_le x_o_2266.lt (Nat.le_trans K_2283.1 f_2299)))
            have f_2356 : Fld Z h_2345 o_2266 sC "last" dL .null := (((((f_2272.keep K_2283 nin0).keep K_2298 (ninS ne_2354 nin0)).keep K_2313 nin0).keep K_2332 (ninS ne_2354 (ninS ne_2355 nin0))).keep K_2349 nin0)
            have f_2357 : Fld Z h_2345 o_2266 sC "size" "I" (.int (0 : Int32)) := (((((f_2271.keep K_2283 nin0).keep K_2298 (ninS ne_2354 nin0)).keep K_2313 nin0).keep K_2332 (ninS ne_2354 (ninS ne_2355 nin0))).keep K_2349 nin0)
            have sz_2358 : n0 ≤ h_2345.size := Nat.le_trans sz_2343 K_2349.1
            have f_2359 : Fld Z h_2345 o_2266 sC "first" dL .null := (((((f_2270.keep K_2283 nin0).keep K_2298 (ninS ne_2354 nin0)).keep K_2313 nin0).keep K_2332 (ninS ne_2354 (ninS ne_2355 nin0))).keep K_2349 nin0)
            refine K.callv (z := (⟨sC, "add", "(Ljava/lang/Object;)Z"⟩ : MethodName)) (argsL := [(.ref w_2348)]) (rest := []) at_82 (pc' := 85) rfl (c_add0 l Z a0 hw n0 h_2345 (a := o_2266) (e := w_2348) (n := (0 : Int32)) sz_2358 f_2353 ge_o_2266 f_2359 f_2356 f_2357 (by first | decide | omega)) f_2353 hw62 hw63 (nf_sel hw65 rfl) hw65 hw64 hw3 hw66 (by decide) pd_9 rfl rfl (W := 0) (by simp [Value.category]) (by decide) (by decide) (by decide) (by decide) (fun v_2362 h_2360 q_2361 => ?_)
            obtain ⟨lk_2364, n1_2365, rfl, K_2366, hn1_w_2363, f_2367, f_2368, f_2369, f_2370, f_2371, f_2372, f_2373, f_2374⟩ := q_2361
            show G h_2360 8 15 (mkF m 85 #[vi p, vi x1, vi x2, vi y1, vi y2, vi zz, vi 2, vi 1, vi w, vr o_2256, vr o_2266, .unset, .unset, .unset, .unset, .unset, .unset] [(.int (b2 (True)))])
            refine K.pop at_85 (pc' := 86) rfl rfl ?_
            refine K.iload at_86 (pc' := 88) rfl rfl ?_
            refine K.iconst at_88 (pc' := 89) rfl (z := 1) rfl ?_
            refine K.icmp_le at_89 (pc1 := 92) rfl (by decide) (pc2 := 103) (by decide) (a := 1) (b := 1) rfl rfl (fun c89 => ?_) (fun c89 => ?_)
            · refine K.aload at_103 (pc' := 105) rfl rfl rfl ?_
              refine K.aload at_105 (pc' := 107) rfl rfl rfl ?_
              have f_2375 : Exa Z h_2360 o_2256 sC := (((f_2317.keep K_2332).keep K_2349).keep K_2366)
              have f_2376 : Fld Z h_2360 o_2256 sC "last" dL (.ref lk_2330) := ((f_2341.keep K_2349 nin0).keep K_2366 (ninS (Ne.symm ne_2354) nin0))
              have f_2377 : Fld Z h_2360 o_2256 sC "first" dL (.ref lk_2296) := ((f_2340.keep K_2349 nin0).keep K_2366 (ninS (Ne.symm ne_2354) nin0))
              have f_2378 : Fld Z h_2360 o_2256 sC "size" "I" (.int n1_2331) := ((f_2342.keep K_2349 nin0).keep K_2366 (ninS (Ne.symm ne_2354) nin0))
              have ne_2379 : lk_2330 ≠ o_2266 := (Ne.symm (Nat.ne_of_lt (Nat.lt_of_lt_of_le x_o_2266.lt (Nat.le_trans (Nat.le_trans K_2283.1 (Nat.le_trans K_2298.1 K_2313.1)) f_2333))))
              have f_2380 : Fld Z h_2360 lk_2330 sL "element" "Ljava/lang/Object;" (.ref w_2312) := ((f_2336.keep K_2349 nin0).keep K_2366 (ninS ne_2379 nin0))
              have f_2381 : Exa Z h_2360 o_2266 sC := (f_2353.keep K_2366)
              have f_2382 : Exa Z h_2360 lk_2330 sL := ((f_2335.keep K_2349).keep K_2366)
              have ne_2383 : lk_2330 ≠ o_2256 := (Ne.symm (Nat.ne_of_lt (Nat.lt_of_lt_of_le x_o_2256.lt (Nat.le_trans (Nat.le_trans E_2268.1 (Nat.le_trans K_2283.1 (Nat.le_trans K_2298.1 K_2313.1))) f_2333))))
              have f_2384 : Fld Z h_2360 lk_2330 sL "next" dL .null := ((f_2337.keep K_2349 nin0).keep K_2366 (ninS ne_2379 nin0))
              refine K.callv (z := (⟨sC, "moveAll", "(Lcom/example/quadrille/quadrille/formats/Chain;)V"⟩ : MethodName)) (argsL := [(.ref o_2266)]) (rest := []) at_107 (pc' := 110) rfl (c_mv1 l Z a0 hw n0 h_2360 (a := o_2256) (b := o_2266) (n := n1_2331) (k := n1_2365) (f0 := lk_2296) (t := lk_2330) (te := w_2312) (f1 := lk_2364) (l1 := lk_2364) f_2375 ge_o_2256 f_2381 ge_o_2266 (Ne.symm ne_2354) f_2382 f_2334 ne_2383 ne_2379 f_2384 f_2380 f_2377 f_2376 f_2378 f_2372 f_2373 f_2374 (by omega) (by omega)) f_2375 hw15 hw16 (nf_sel hw18 rfl) hw18 hw17 hw3 hw19 (by decide) pd_3 rfl rfl (W := 0) (by simp [Value.category]) (by decide) (by decide) (by decide) (by decide) (fun v_2387 h_2385 q_2386 => ?_)
              obtain ⟨n1_2389, rfl, K_2390, hn1_w_2388, f_2391, f_2392, f_2393, f_2394, f_2395, f_2396, f_2397, f_2398⟩ := q_2386
              show G h_2385 8 15 (mkF m 110 #[vi p, vi x1, vi x2, vi y1, vi y2, vi zz, vi 2, vi 1, vi w, vr o_2256, vr o_2266, .unset, .unset, .unset, .unset, .unset, .unset] [])
              refine K.aload at_110 (pc' := 112) rfl rfl rfl ?_
              have f_2399 : Exa Z h_2385 o_2256 sC := (f_2375.keep K_2390)
              refine K.callv (z := (⟨sC, "size", "()I"⟩ : MethodName)) (argsL := []) (rest := []) at_112 (pc' := 115) rfl (c_size l Z a0 hw n0 h_2385 (a := o_2256) (n := n1_2389) f_2399 f_2395) f_2399 hw22 hw23 (nf_sel hw25 rfl) hw25 hw24 hw3 hw26 (by decide) pd_6 rfl rfl (W := 0) (by simp [Value.category]) (by decide) (by decide) (by decide) (by decide) (fun v_2402 h_2400 q_2401 => ?_)
              obtain ⟨rfl, rfl⟩ := q_2401
              show G h_2385 8 15 (mkF m 115 #[vi p, vi x1, vi x2, vi y1, vi y2, vi zz, vi 2, vi 1, vi w, vr o_2256, vr o_2266, .unset, .unset, .unset, .unset, .unset, .unset] [(.int n1_2389)])
              refine K.iload at_115 (pc' := 117) rfl rfl ?_
              refine K.iload at_117 (pc' := 119) rfl rfl ?_
              refine K.iadd at_119 (pc' := 120) rfl (z := (3 : Int32)) (by decide) ?_
              refine K.icmp_ne at_120 (pc1 := 123) rfl (by decide) (pc2 := 148) (by decide) (a := n1_2389.toInt) (b := 3) rfl rfl (fun c120 => ?_) (fun c120 => ?_)
              · exfalso; have o0 : (0 : Int32).toInt = 0 := rfl; have o1 : (1 : Int32).toInt = 1 := rfl; have o2 : (2 : Int32).toInt = 2 := rfl; omega
              · refine K.aload at_123 (pc' := 125) rfl rfl rfl ?_
                have f_2404 : Exa Z h_2385 o_2266 sC := (f_2381.keep K_2390)
                refine K.callv (z := (⟨sC, "size", "()I"⟩ : MethodName)) (argsL := []) (rest := []) at_125 (pc' := 128) rfl (c_size l Z a0 hw n0 h_2385 (a := o_2266) (n := (0 : Int32)) f_2404 f_2398) f_2404 hw22 hw23 (nf_sel hw25 rfl) hw25 hw24 hw3 hw26 (by decide) pd_6 rfl rfl (W := 0) (by simp [Value.category]) (by decide) (by decide) (by decide) (by decide) (fun v_2407 h_2405 q_2406 => ?_)
                obtain ⟨rfl, rfl⟩ := q_2406
                show G h_2385 8 15 (mkF m 128 #[vi p, vi x1, vi x2, vi y1, vi y2, vi zz, vi 2, vi 1, vi w, vr o_2256, vr o_2266, .unset, .unset, .unset, .unset, .unset, .unset] [(.int (0 : Int32))])
                refine K.if_ne at_128 (pc1 := 131) rfl (by decide) (pc2 := 148) (by decide) (a := 0) rfl (fun c128 => ?_) (fun c128 => ?_)
                · exfalso; have o0 : (0 : Int32).toInt = 0 := rfl; have o1 : (1 : Int32).toInt = 1 := rfl; have o2 : (2 : Int32).toInt = 2 := rfl; omega
                · refine K.aload at_131 (pc' := 133) rfl rfl rfl ?_
                  have sz_2409 : n0 ≤ h_2385.size := Nat.le_trans sz_2358 (Nat.le_trans K_2366.1 K_2390.1)
                  refine K.callv (z := (⟨sC, "iterator", "()Ljava/util/Iterator;"⟩ : MethodName)) (argsL := []) (rest := []) at_133 (pc' := 136) rfl (c_it0 l Z a0 hw n0 h_2385 (b := o_2266) sz_2409 f_2404 f_2396) f_2404 hw29 hw30 (nf_sel hw32 rfl) hw32 hw31 hw3 hw33 (by decide) pd_7 rfl rfl (W := 0) (by simp [Value.category]) (by decide) (by decide) (by decide) (by decide) (fun v_2412 h_2410 q_2411 => ?_)
                  obtain ⟨w_2413, rfl, K_2414, f_2415, f_2416, f_2417, f_2418⟩ := q_2411
                  show G h_2410 9 17 (mkF m 136 #[vi p, vi x1, vi x2, vi y1, vi y2, vi zz, vi 2, vi 1, vi w, vr o_2256, vr o_2266, .unset, .unset, .unset, .unset, .unset, .unset] [(.ref w_2413)])
                  refine K.calli (z := (⟨sI, "hasNext", "()Z"⟩ : MethodName)) (argsL := []) (rest := []) at_136 (pc' := 141) rfl (c_has0 l Z a0 hw n0 h_2410 (a := w_2413) f_2417 f_2418) f_2417 hw46 hw47 hw48 rfl hw49 hw50 hw51 hw52 hw53 hw36 hw54 (by decide) pd_4 rfl rfl (W := 0) (by simp [Value.category]) (by decide) (by decide) (by decide) (by decide) (fun v_2421 h_2419 q_2420 => ?_)
                  obtain ⟨rfl, rfl⟩ := q_2420
                  show G h_2410 9 17 (mkF m 141 #[vi p, vi x1, vi x2, vi y1, vi y2, vi zz, vi 2, vi 1, vi w, vr o_2256, vr o_2266, .unset, .unset, .unset, .unset, .unset, .unset] [(.int (b2 (False)))])
                  refine K.ifneB at_141 (pc1 := 144) rfl (by decide) (pc2 := 148) (by decide) (fun c141 => ?_) (fun c141 => ?_)
                  · exfalso; exact c141
                  · refine K.iconst at_144 (pc' := 145) rfl (z := 1) rfl ?_
                    refine K.goto at_145 (by decide) (pc' := 149) (by decide) ?_
                    refine K.istore at_149 (pc' := 151) rfl (L' := #[vi p, vi x1, vi x2, vi y1, vi y2, vi zz, vi 2, vi 1, vi w, vr o_2256, vr o_2266, vi 1, .unset, .unset, .unset, .unset, .unset]) rfl ?_
                    refine K.aload at_151 (pc' := 153) rfl rfl rfl ?_
                    refine K.iload at_153 (pc' := 155) rfl rfl ?_
                    have sz_2423 : n0 ≤ h_2410.size := Nat.le_trans sz_2409 K_2414.1
                    have f_2424 : Old Z n0 h_2410 := ((((f_2344.keep K_2349 all0).keep K_2366 (allS ge_o_2266 all0)).keep K_2390 (allS ge_o_2256 (allS ge_o_2266 (allS f_2334 all0)))).keep K_2414 all0)
                    refine K.calls (argsL := [(.int zz)]) (rest := [(.ref o_2256)]) at_155 (pc' := 158) rfl (c_val l Z a0 hw n0 h_2410 (p := zz) (ca := ca) (cc := cc) sz_2423 f_2424 P3 P4 hbx) hw55 hw56 hw57 hw58 (by decide) pd_8 rfl rfl (W := 1) (by simp [Value.category]) (by decide) (by decide) (by decide) (by decide) (fun v_2427 h_2425 q_2426 => ?_)
                    obtain ⟨w_2428, rfl, K_2429, f_2430, f_2431, f_2432⟩ := q_2426
                    show G h_2425 10 18 (mkF m 158 #[vi p, vi x1, vi x2, vi y1, vi y2, vi zz, vi 2, vi 1, vi w, vr o_2256, vr o_2266, vi 1, .unset, .unset, .unset, .unset, .unset] [(.ref w_2428), (.ref o_2256)])
                    have f_2433 : Exa Z h_2425 o_2256 sC := ((f_2399.keep K_2414).keep K_2429)
                    have f_2434 : Fld Z h_2425 o_2256 sC "last" dL (.ref lk_2364) := ((f_2394.keep K_2414 nin0).keep K_2429 nin0)
                    have f_2435 : Fld Z h_2425 o_2256 sC "first" dL (.ref lk_2296) := ((f_2393.keep K_2414 nin0).keep K_2429 nin0)
                    have f_2436 : Fld Z h_2425 o_2256 sC "size" "I" (.int n1_2389) := ((f_2395.keep K_2414 nin0).keep K_2429 nin0)
                    have ne_2437 : lk_2364 ≠ lk_2330 := (Ne.symm (Nat.ne_of_lt (Nat.lt_of_lt_of_le f_2335.lt (Nat.le_trans K_2349.1 f_2367))))
                    have ne_2438 : lk_2364 ≠ o_2266 := (Ne.symm (Nat.ne_of_lt (Nat.lt_of_lt_of_le x_o_2266.lt (Nat.le_trans (Nat.le_trans K_2283.1 (Nat.le_trans K_2298.1 (Nat.le_trans K_2313.1 (Nat.le_trans K_2332.1 K_2349.1)))) f_2367))))
                    have ne_2439 : lk_2364 ≠ o_2256 := (Ne.symm (Nat.ne_of_lt (Nat.lt_of_lt_of_le x_o_2256.lt (Nat.le_trans (Nat.le_trans E_2268.1 (Nat.le_trans K_2283.1 (Nat.le_trans K_2298.1 (Nat.le_trans K_2313.1 (Nat.le_trans K_2332.1 K_2349.1))))) f_2367))))
                    have f_2440 : Fld Z h_2425 lk_2364 sL "element" "Ljava/lang/Object;" (.ref w_2348) := (((f_2370.keep K_2390 (ninS ne_2439 (ninS ne_2438 (ninS ne_2437 nin0)))).keep K_2414 nin0).keep K_2429 nin0)
                    have sz_2441 : n0 ≤ h_2425.size := Nat.le_trans sz_2423 K_2429.1
                    have f_2442 : Exa Z h_2425 lk_2364 sL := (((f_2369.keep K_2390).keep K_2414).keep K_2429)
                    have f_2443 : Fld Z h_2425 lk_2364 sL "next" dL .null := (((f_2371.keep K_2390 (ninS ne_2439 (ninS ne_2438 (ninS ne_2437 nin0)))).keep K_2414 nin0).keep K_2429 nin0)
                    refine K.callv (z := (⟨sC, "add", "(Ljava/lang/Object;)Z"⟩ : MethodName)) (argsL := [(.ref w_2428)]) (rest := []) at_158 (pc' := 161) rfl (c_add1 l Z a0 hw n0 h_2425 (a := o_2256) (e := w_2428) (n := n1_2389) (f0 := lk_2296) (t := lk_2364) (te := w_2348) sz_2441 f_2433 ge_o_2256 f_2442 f_2368 ne_2439 f_2443 f_2440 f_2435 f_2434 f_2436 (by omega)) f_2433 hw62 hw63 (nf_sel hw65 rfl) hw65 hw64 hw3 hw66 (by decide) pd_9 rfl rfl (W := 0) (by simp [Value.category]) (by decide) (by decide) (by decide) (by decide) (fun v_2446 h_2444 q_2445 => ?_)
                    obtain ⟨lk_2448, n1_2449, rfl, K_2450, hn1_w_2447, f_2451, f_2452, f_2453, f_2454, f_2455, f_2456, f_2457, f_2458, f_2459, f_2460⟩ := q_2445
                    show G h_2444 11 20 (mkF m 161 #[vi p, vi x1, vi x2, vi y1, vi y2, vi zz, vi 2, vi 1, vi w, vr o_2256, vr o_2266, vi 1, .unset, .unset, .unset, .unset, .unset] [(.int (b2 (True)))])
                    refine K.pop at_161 (pc' := 162) rfl rfl ?_
                    refine K.aload at_162 (pc' := 164) rfl rfl rfl ?_
                    refine K.iload at_164 (pc' := 166) rfl rfl ?_
                    have sz_2461 : n0 ≤ h_2444.size := Nat.le_trans sz_2441 K_2450.1
                    have f_2462 : Old Z n0 h_2444 := ((f_2424.keep K_2429 all0).keep K_2450 (allS ge_o_2256 (allS f_2368 all0)))
                    refine K.calls (argsL := [(.int w)]) (rest := [(.ref o_2266)]) at_166 (pc' := 169) rfl (c_val l Z a0 hw n0 h_2444 (p := w) (ca := ca) (cc := cc) sz_2461 f_2462 P3 P4 hbx) hw55 hw56 hw57 hw58 (by decide) pd_8 rfl rfl (W := 1) (by simp [Value.category]) (by decide) (by decide) (by decide) (by decide) (fun v_2465 h_2463 q_2464 => ?_)
                    obtain ⟨w_2466, rfl, K_2467, f_2468, f_2469, f_2470⟩ := q_2464
                    show G h_2463 12 21 (mkF m 169 #[vi p, vi x1, vi x2, vi y1, vi y2, vi zz, vi 2, vi 1, vi w, vr o_2256, vr o_2266, vi 1, .unset, .unset, .unset, .unset, .unset] [(.ref w_2466), (.ref o_2266)])
                    have f_2471 : Exa Z h_2463 o_2266 sC := ((((f_2404.keep K_2414).keep K_2429).keep K_2450).keep K_2467)
                    have f_2472 : Fld Z h_2463 o_2266 sC "last" dL .null := ((((f_2397.keep K_2414 nin0).keep K_2429 nin0).keep K_2450 (ninS ne_2354 (ninS (Ne.symm ne_2438) nin0))).keep K_2467 nin0)
                    have f_2473 : Fld Z h_2463 o_2266 sC "size" "I" (.int (0 : Int32)) := ((((f_2398.keep K_2414 nin0).keep K_2429 nin0).keep K_2450 (ninS ne_2354 (ninS (Ne.symm ne_2438) nin0))).keep K_2467 nin0)
                    have sz_2474 : n0 ≤ h_2463.size := Nat.le_trans sz_2461 K_2467.1
                    have f_2475 : Fld Z h_2463 o_2266 sC "first" dL .null := ((((f_2396.keep K_2414 nin0).keep K_2429 nin0).keep K_2450 (ninS ne_2354 (ninS (Ne.symm ne_2438) nin0))).keep K_2467 nin0)
                    refine K.callv (z := (⟨sC, "add", "(Ljava/lang/Object;)Z"⟩ : MethodName)) (argsL := [(.ref w_2466)]) (rest := []) at_169 (pc' := 172) rfl (c_add0 l Z a0 hw n0 h_2463 (a := o_2266) (e := w_2466) (n := (0 : Int32)) sz_2474 f_2471 ge_o_2266 f_2475 f_2472 f_2473 (by first | decide | omega)) f_2471 hw62 hw63 (nf_sel hw65 rfl) hw65 hw64 hw3 hw66 (by decide) pd_9 rfl rfl (W := 0) (by simp [Value.category]) (by decide) (by decide) (by decide) (by decide) (fun v_2478 h_2476 q_2477 => ?_)
                    obtain ⟨lk_2480, n1_2481, rfl, K_2482, hn1_w_2479, f_2483, f_2484, f_2485, f_2486, f_2487, f_2488, f_2489, f_2490⟩ := q_2477
                    show G h_2476 13 23 (mkF m 172 #[vi p, vi x1, vi x2, vi y1, vi y2, vi zz, vi 2, vi 1, vi w, vr o_2256, vr o_2266, vi 1, .unset, .unset, .unset, .unset, .unset] [(.int (b2 (True)))])
                    refine K.pop at_172 (pc' := 173) rfl rfl ?_
                    refine K.iload at_173 (pc' := 175) rfl rfl ?_
                    refine K.if_eq at_175 (pc1 := 178) rfl (by decide) (pc2 := 206) (by decide) (a := 1) rfl (fun c175 => ?_) (fun c175 => ?_)
                    · exfalso; omega
                    · refine K.aload at_178 (pc' := 180) rfl rfl rfl ?_
                      have f_2491 : Exa Z h_2476 o_2256 sC := (((f_2433.keep K_2450).keep K_2467).keep K_2482)
                      have f_2492 : Fld Z h_2476 o_2256 sC "size" "I" (.int n1_2449) := ((f_2460.keep K_2467 nin0).keep K_2482 (ninS (Ne.symm ne_2354) nin0))
                      refine K.callv (z := (⟨sC, "size", "()I"⟩ : MethodName)) (argsL := []) (rest := []) at_180 (pc' := 183) rfl (c_size l Z a0 hw n0 h_2476 (a := o_2256) (n := n1_2449) f_2491 f_2492) f_2491 hw22 hw23 (nf_sel hw25 rfl) hw25 hw24 hw3 hw26 (by decide) pd_6 rfl rfl (W := 0) (by simp [Value.category]) (by decide) (by decide) (by decide) (by decide) (fun v_2495 h_2493 q_2494 => ?_)
                      obtain ⟨rfl, rfl⟩ := q_2494
                      show G h_2476 13 23 (mkF m 183 #[vi p, vi x1, vi x2, vi y1, vi y2, vi zz, vi 2, vi 1, vi w, vr o_2256, vr o_2266, vi 1, .unset, .unset, .unset, .unset, .unset] [(.int n1_2449)])
                      refine K.iload at_183 (pc' := 185) rfl rfl ?_
                      refine K.iload at_185 (pc' := 187) rfl rfl ?_
                      refine K.iadd at_187 (pc' := 188) rfl (z := (3 : Int32)) (by decide) ?_
                      refine K.iconst at_188 (pc' := 189) rfl (z := 1) rfl ?_
                      refine K.iadd at_189 (pc' := 190) rfl (z := (4 : Int32)) (by decide) ?_
                      refine K.icmp_ne at_190 (pc1 := 193) rfl (by decide) (pc2 := 206) (by decide) (a := n1_2449.toInt) (b := 4) rfl rfl (fun c190 => ?_) (fun c190 => ?_)
                      · exfalso; have o0 : (0 : Int32).toInt = 0 := rfl; have o1 : (1 : Int32).toInt = 1 := rfl; have o2 : (2 : Int32).toInt = 2 := rfl; omega
                      · refine K.aload at_193 (pc' := 195) rfl rfl rfl ?_
                        have f_2497 : Exa Z h_2476 o_2266 sC := (f_2471.keep K_2482)
                        refine K.callv (z := (⟨sC, "size", "()I"⟩ : MethodName)) (argsL := []) (rest := []) at_195 (pc' := 198) rfl (c_size l Z a0 hw n0 h_2476 (a := o_2266) (n := n1_2481) f_2497 f_2490) f_2497 hw22 hw23 (nf_sel hw25 rfl) hw25 hw24 hw3 hw26 (by decide) pd_6 rfl rfl (W := 0) (by simp [Value.category]) (by decide) (by decide) (by decide) (by decide) (fun v_2500 h_2498 q_2499 => ?_)
                        obtain ⟨rfl, rfl⟩ := q_2499
                        show G h_2476 13 23 (mkF m 198 #[vi p, vi x1, vi x2, vi y1, vi y2, vi zz, vi 2, vi 1, vi w, vr o_2256, vr o_2266, vi 1, .unset, .unset, .unset, .unset, .unset] [(.int n1_2481)])
                        refine K.iconst at_198 (pc' := 199) rfl (z := 1) rfl ?_
                        refine K.icmp_ne at_199 (pc1 := 202) rfl (by decide) (pc2 := 206) (by decide) (a := n1_2481.toInt) (b := 1) rfl rfl (fun c199 => ?_) (fun c199 => ?_)
                        · exfalso; have o0 : (0 : Int32).toInt = 0 := rfl; have o1 : (1 : Int32).toInt = 1 := rfl; have o2 : (2 : Int32).toInt = 2 := rfl; omega
                        · refine K.iconst at_202 (pc' := 203) rfl (z := 1) rfl ?_
                          refine K.goto at_203 (by decide) (pc' := 207) (by decide) ?_
                          refine K.istore at_207 (pc' := 209) rfl (L' := #[vi p, vi x1, vi x2, vi y1, vi y2, vi zz, vi 2, vi 1, vi w, vr o_2256, vr o_2266, vi 1, .unset, .unset, .unset, .unset, .unset]) rfl ?_
                          refine K.aload at_209 (pc' := 211) rfl rfl rfl ?_
                          have sz_2502 : n0 ≤ h_2476.size := Nat.le_trans sz_2474 K_2482.1
                          refine K.callv (z := (⟨sC, "iterator", "()Ljava/util/Iterator;"⟩ : MethodName)) (argsL := []) (rest := []) at_211 (pc' := 214) rfl (c_it1 l Z a0 hw n0 h_2476 (b := o_2266) (x := lk_2480) sz_2502 f_2497 f_2488) f_2497 hw29 hw30 (nf_sel hw32 rfl) hw32 hw31 hw3 hw33 (by decide) pd_7 rfl rfl (W := 0) (by simp [Value.category]) (by decide) (by decide) (by decide) (by decide) (fun v_2505 h_2503 q_2504 => ?_)
                          obtain ⟨w_2506, rfl, K_2507, f_2508, f_2509, f_2510, f_2511⟩ := q_2504
                          show G h_2503 14 25 (mkF m 214 #[vi p, vi x1, vi x2, vi y1, vi y2, vi zz, vi 2, vi 1, vi w, vr o_2256, vr o_2266, vi 1, .unset, .unset, .unset, .unset, .unset] [(.ref w_2506)])
                          refine K.astore at_214 (pc' := 216) rfl rfl (L' := #[vi p, vi x1, vi x2, vi y1, vi y2, vi zz, vi 2, vi 1, vi w, vr o_2256, vr o_2266, vi 1, vr w_2506, .unset, .unset, .unset, .unset]) rfl ?_
                          refine K.iload at_216 (pc' := 218) rfl rfl ?_
                          refine K.if_eq at_218 (pc1 := 221) rfl (by decide) (pc2 := 246) (by decide) (a := 1) rfl (fun c218 => ?_) (fun c218 => ?_)
                          · exfalso; omega
                          · refine K.aload at_221 (pc' := 223) rfl rfl rfl ?_
                            refine K.iconst at_223 (pc' := 224) rfl (z := 1) rfl ?_
                            refine K.iload at_224 (pc' := 226) rfl rfl ?_
                            have f_2512 : Fld Z h_2503 lk_2480 sL "next" dL .null := (f_2487.keep K_2507 nin0)
                            have f_2513 : Fld Z h_2503 lk_2480 sL "element" "Ljava/lang/Object;" (.ref w_2466) := (f_2486.keep K_2507 nin0)
                            have ne_2514 : w_2466 ≠ o_2266 := (f_2470.elim (fun q => Nat.ne_of_lt (Nat.lt_of_lt_of_le q ge_o_2266)) (fun q => Nat.ne_of_gt (Nat.lt_of_lt_of_le x_o_2266.lt (Nat.le_trans (Nat.le_trans K_2283.1 (Nat.le_trans K_2298.1 (Nat.le_trans K_2313.1 (Nat.le_trans K_2332.1 (Nat.le_trans K_2349.1 (Nat.le_trans K_2366.1 (Nat.le_trans K_2390.1 (Nat.le_trans K_2414.1 (Nat.le_trans K_2429.1 K_2450.1))))))))) q))))
                            have f_2515 : Fld Z h_2503 w_2466 sN "value" "I" (.int w) := ((f_2469.keep K_2482 (ninS ne_2514 nin0)).keep K_2507 nin0)
                            have f_2516 : Exa Z h_2503 lk_2480 sL := (f_2485.keep K_2507)
                            have ne_2517 : lk_2480 ≠ w_2506 := (Nat.ne_of_lt (Nat.lt_of_lt_of_le f_2485.lt (Nat.le_trans (Nat.le_refl _) f_2508)))
                            have ne_2518 : w_2466 ≠ w_2506 := (Nat.ne_of_lt (Nat.lt_of_lt_of_le f_2468.lt (Nat.le_trans K_2482.1 f_2508)))
                            have f_2519 : Exa Z h_2503 w_2466 sN := ((f_2468.keep K_2482).keep K_2507)
                            refine K.calls (argsL := [(.ref w_2506), (.int (1 : Int32)), (.int w)]) (rest := []) at_226 (pc' := 229) rfl (c_st10 l Z a0 hw n0 h_2503 (a := w_2506) (e := w) (lk := lk_2480) (b := w_2466) (v0 := w) f_2510 f_2509 f_2511 f_2516 ne_2517 f_2513 f_2512 ne_2518 f_2519 f_2515) hw78 hw79 hw80 hw81 (by decide) pd_10 rfl rfl (W := 0) (by simp [Value.category]) (by decide) (by decide) (by decide) (by decide) (fun v_2522 h_2520 q_2521 => ?_)
                            obtain ⟨rfl, K_2524, f_2525⟩ := q_2521
                            show G h_2520 14 25 (mkF m 229 #[vi p, vi x1, vi x2, vi y1, vi y2, vi zz, vi 2, vi 1, vi w, vr o_2256, vr o_2266, vi 1, vr w_2506, .unset, .unset, .unset, .unset] [(.int (b2 (w.toInt = w.toInt)))])
                            refine K.ifeqB at_229 (pc1 := 232) rfl (by decide) (pc2 := 246) (by decide) (fun c229 => ?_) (fun c229 => ?_)
                            · exfalso; first | exact c229 rfl | exact c229 trivial
                            · refine K.aload at_232 (pc' := 234) rfl rfl rfl ?_
                              have f_2526 : Exa Z h_2520 w_2506 sI := (f_2510.keep K_2524)
                              refine K.calli (z := (⟨sI, "hasNext", "()Z"⟩ : MethodName)) (argsL := []) (rest := []) at_234 (pc' := 239) rfl (c_has0 l Z a0 hw n0 h_2520 (a := w_2506) f_2526 f_2525) f_2526 hw46 hw47 hw48 rfl hw49 hw50 hw51 hw52 hw53 hw36 hw54 (by decide) pd_4 rfl rfl (W := 0) (by simp [Value.category]) (by decide) (by decide) (by decide) (by decide) (fun v_2529 h_2527 q_2528 => ?_)
                              obtain ⟨rfl, rfl⟩ := q_2528
                              show G h_2520 14 25 (mkF m 239 #[vi p, vi x1, vi x2, vi y1, vi y2, vi zz, vi 2, vi 1, vi w, vr o_2256, vr o_2266, vi 1, vr w_2506, .unset, .unset, .unset, .unset] [(.int (b2 (False)))])
                              refine K.ifneB at_239 (pc1 := 242) rfl (by decide) (pc2 := 246) (by decide) (fun c239 => ?_) (fun c239 => ?_)
                              · exfalso; exact c239
                              · refine K.iconst at_242 (pc' := 243) rfl (z := 1) rfl ?_
                                refine K.goto at_243 (by decide) (pc' := 247) (by decide) ?_
                                refine K.istore at_247 (pc' := 249) rfl (L' := #[vi p, vi x1, vi x2, vi y1, vi y2, vi zz, vi 2, vi 1, vi w, vr o_2256, vr o_2266, vi 1, vr w_2506, .unset, .unset, .unset, .unset]) rfl ?_
                                refine K.iconst at_249 (pc' := 250) rfl (z := 5) rfl ?_
                                refine K.newa at_250 (pc' := 252) rfl hw102 (k := 5) (cap := 5) rfl (by decide) (by decide) (by decide) (by decide) (ad := "[I") (by decide) (fun h_2532 a_2531 g_a_2531 E_2533 A_2534 x_a_2531 => ?_)
                                have sz_2535 : n0 ≤ h_2520.size := Nat.le_trans sz_2502 (Nat.le_trans K_2507.1 K_2524.1)
                                have ge_a_2531 : n0 ≤ a_2531 := g_a_2531 ▸ sz_2535
                                have A_2536 : Ary Z h_2532 a_2531 .int [(.int (0 : Int32)), (.int (0 : Int32)), (.int (0 : Int32)), (.int (0 : Int32)), (.int (0 : Int32))] := A_2534
                                refine K.astore at_252 (pc' := 254) rfl rfl (L' := #[vi p, vi x1, vi x2, vi y1, vi y2, vi zz, vi 2, vi 1, vi w, vr o_2256, vr o_2266, vi 1, vr w_2506, vr a_2531, .unset, .unset, .unset]) rfl ?_
                                refine K.iconst at_254 (pc' := 255) rfl (z := 0) rfl ?_
                                refine K.istore at_255 (pc' := 257) rfl (L' := #[vi p, vi x1, vi x2, vi y1, vi y2, vi zz, vi 2, vi 1, vi w, vr o_2256, vr o_2266, vi 1, vr w_2506, vr a_2531, vi 0, .unset, .unset]) rfl ?_
                                refine K.iload at_257 (pc' := 259) rfl rfl ?_
                                refine K.if_le at_259 (pc1 := 262) rfl (by decide) (pc2 := 271) (by decide) (a := 2) rfl (fun c259 => ?_) (fun c259 => ?_)
                                · exfalso; omega
                                · refine K.aload at_262 (pc' := 264) rfl rfl rfl ?_
                                  refine K.iload at_264 (pc' := 266) rfl rfl ?_
                                  refine K.iloadN at_266 (pc' := 267) rfl rfl ?_
                                  refine K.iast at_267 (pc' := 268) rfl A_2536 (i := 0) rfl (show 0 < 5 by decide) ge_a_2531 (fun h_2537 W_2538 A_2539 => ?_)
                                  have A_2540 : Ary Z h_2537 a_2531 .int [(.int x1), (.int (0 : Int32)), (.int (0 : Int32)), (.int (0 : Int32)), (.int (0 : Int32))] := A_2539
                                  refine K.iinc at_268 (pc' := 271) rfl rfl (z := (1 : Int32)) rfl (L' := #[vi p, vi x1, vi x2, vi y1, vi y2, vi zz, vi 2, vi 1, vi w, vr o_2256, vr o_2266, vi 1, vr w_2506, vr a_2531, vi 1, .unset, .unset]) rfl ?_
                                  refine K.iload at_271 (pc' := 273) rfl rfl ?_
                                  refine K.iconst at_273 (pc' := 274) rfl (z := 1) rfl ?_
                                  refine K.icmp_le at_274 (pc1 := 277) rfl (by decide) (pc2 := 286) (by decide) (a := 2) (b := 1) rfl rfl (fun c274 => ?_) (fun c274 => ?_)
                                  · exfalso; omega
                                  · refine K.aload at_277 (pc' := 279) rfl rfl rfl ?_
                                    refine K.iload at_279 (pc' := 281) rfl rfl ?_
                                    refine K.iloadN at_281 (pc' := 282) rfl rfl ?_
                                    refine K.iast at_282 (pc' := 283) rfl A_2540 (i := 1) rfl (show 1 < 5 by decide) ge_a_2531 (fun h_2541 W_2542 A_2543 => ?_)
                                    have A_2544 : Ary Z h_2541 a_2531 .int [(.int x1), (.int x2), (.int (0 : Int32)), (.int (0 : Int32)), (.int (0 : Int32))] := A_2543
                                    refine K.iinc at_283 (pc' := 286) rfl rfl (z := (2 : Int32)) rfl (L' := #[vi p, vi x1, vi x2, vi y1, vi y2, vi zz, vi 2, vi 1, vi w, vr o_2256, vr o_2266, vi 1, vr w_2506, vr a_2531, vi 2, .unset, .unset]) rfl ?_
                                    refine K.iload at_286 (pc' := 288) rfl rfl ?_
                                    refine K.if_le at_288 (pc1 := 291) rfl (by decide) (pc2 := 300) (by decide) (a := 1) rfl (fun c288 => ?_) (fun c288 => ?_)
                                    · exfalso; omega
                                    · refine K.aload at_291 (pc' := 293) rfl rfl rfl ?_
                                      refine K.iload at_293 (pc' := 295) rfl rfl ?_
                                      refine K.iloadN at_295 (pc' := 296) rfl rfl ?_
                                      refine K.iast at_296 (pc' := 297) rfl A_2544 (i := 2) rfl (show 2 < 5 by decide) ge_a_2531 (fun h_2545 W_2546 A_2547 => ?_)
                                      have A_2548 : Ary Z h_2545 a_2531 .int [(.int x1), (.int x2), (.int y1), (.int (0 : Int32)), (.int (0 : Int32))] := A_2547
                                      refine K.iinc at_297 (pc' := 300) rfl rfl (z := (3 : Int32)) rfl (L' := #[vi p, vi x1, vi x2, vi y1, vi y2, vi zz, vi 2, vi 1, vi w, vr o_2256, vr o_2266, vi 1, vr w_2506, vr a_2531, vi 3, .unset, .unset]) rfl ?_
                                      refine K.iload at_300 (pc' := 302) rfl rfl ?_
                                      refine K.iconst at_302 (pc' := 303) rfl (z := 1) rfl ?_
                                      refine K.icmp_le at_303 (pc1 := 306) rfl (by decide) (pc2 := 316) (by decide) (a := 1) (b := 1) rfl rfl (fun c303 => ?_) (fun c303 => ?_)
                                      · refine K.aload at_316 (pc' := 318) rfl rfl rfl ?_
                                        refine K.iload at_318 (pc' := 320) rfl rfl ?_
                                        refine K.iload at_320 (pc' := 322) rfl rfl ?_
                                        refine K.iast at_322 (pc' := 323) rfl A_2548 (i := 3) rfl (show 3 < 5 by decide) ge_a_2531 (fun h_2549 W_2550 A_2551 => ?_)
                                        have A_2552 : Ary Z h_2549 a_2531 .int [(.int x1), (.int x2), (.int y1), (.int zz), (.int (0 : Int32))] := A_2551
                                        refine K.iinc at_323 (pc' := 326) rfl rfl (z := (4 : Int32)) rfl (L' := #[vi p, vi x1, vi x2, vi y1, vi y2, vi zz, vi 2, vi 1, vi w, vr o_2256, vr o_2266, vi 1, vr w_2506, vr a_2531, vi 4, .unset, .unset]) rfl ?_
                                        refine K.iload at_326 (pc' := 328) rfl rfl ?_
                                        refine K.istore at_328 (pc' := 330) rfl (L' := #[vi p, vi x1, vi x2, vi y1, vi y2, vi zz, vi 2, vi 1, vi w, vr o_2256, vr o_2266, vi 1, vr w_2506, vr a_2531, vi 4, vi 4, .unset]) rfl ?_
                                        refine K.aload at_330 (pc' := 332) rfl rfl rfl ?_
                                        have f_2553 : Exa Z h_2549 o_2256 sC := (((((((f_2491.keep K_2507).keep K_2524).ext E_2533).wr W_2538).wr W_2542).wr W_2546).wr W_2550)
                                        have ne_2554 : o_2256 ≠ w_2506 := (Nat.ne_of_lt (Nat.lt_of_lt_of_le x_o_2256.lt (Nat.le_trans (Nat.le_trans E_2268.1 (Nat.le_trans K_2283.1 (Nat.le_trans K_2298.1 (Nat.le_trans K_2313.1 (Nat.le_trans K_2332.1 (Nat.le_trans K_2349.1 (Nat.le_trans K_2366.1 (Nat.le_trans K_2390.1 (Nat.le_trans K_2414.1 (Nat.le_trans K_2429.1 (Nat.le_trans K_2450.1 (Nat.le_trans K_2467.1 K_2482.1)))))))))))) f_2508)))
                                        have ne_2555 : o_2256 ≠ a_2531 := (Nat.ne_of_lt (Nat.lt_of_lt_of_le x_o_2256.lt (Nat.le_trans (Nat.le_trans E_2268.1 (Nat.le_trans K_2283.1 (Nat.le_trans K_2298.1 (Nat.le_trans K_2313.1 (Nat.le_trans K_2332.1 (Nat.le_trans K_2349.1 (Nat.le_trans K_2366.1 (Nat.le_trans K_2390.1 (Nat.le_trans K_2414.1 (Nat.le_trans K_2429.1 (Nat.le_trans K_2450.1 (Nat.le_trans K_2467.1 (Nat.le_trans K_2482.1 (Nat.le_trans K_2507.1 K_2524.1)))))))))))))) (Nat.le_of_eq g_a_2531.symm))))
                                        have f_2556 : Fld Z h_2549 o_2256 sC "first" dL (.ref lk_2296) := (((((((((f_2458.keep K_2467 nin0).keep K_2482 (ninS (Ne.symm ne_2354) nin0)).keep K_2507 nin0).keep K_2524 (ninS ne_2554 nin0)).ext E_2533).other W_2538 (Or.inl ne_2555)).other W_2542 (Or.inl ne_2555)).other W_2546 (Or.inl ne_2555)).other W_2550 (Or.inl ne_2555))
                                        have sz_2557 : n0 ≤ h_2549.size := Nat.le_trans sz_2535 (Nat.le_trans E_2533.1 (Nat.le_trans (Keep.of_wr W_2538).1 (Nat.le_trans (Keep.of_wr W_2542).1 (Nat.le_trans (Keep.of_wr W_2546).1 (Keep.of_wr W_2550).1))))
                                        refine K.callv (z := (⟨sC, "iterator", "()Ljava/util/Iterator;"⟩ : MethodName)) (argsL := []) (rest := []) at_332 (pc' := 335) rfl (c_it1 l Z a0 hw n0 h_2549 (b := o_2256) (x := lk_2296) sz_2557 f_2553 f_2556) f_2553 hw29 hw30 (nf_sel hw32 rfl) hw32 hw31 hw3 hw33 (by decide) pd_7 rfl rfl (W := 0) (by simp [Value.category]) (by decide) (by decide) (by decide) (by decide) (fun v_2560 h_2558 q_2559 => ?_)
                                        obtain ⟨w_2561, rfl, K_2562, f_2563, f_2564, f_2565, f_2566⟩ := q_2559
                                        show G h_2558 16 32 (mkF m 335 #[vi p, vi x1, vi x2, vi y1, vi y2, vi zz, vi 2, vi 1, vi w, vr o_2256, vr o_2266, vi 1, vr w_2506, vr a_2531, vi 4, vi 4, .unset] [(.ref w_2561)])
                                        refine K.astore at_335 (pc' := 337) rfl rfl (L' := #[vi p, vi x1, vi x2, vi y1, vi y2, vi zz, vi 2, vi 1, vi w, vr o_2256, vr o_2266, vi 1, vr w_2506, vr a_2531, vi 4, vi 4, vr w_2561]) rfl ?_
                                        refine K.iload at_337 (pc' := 339) rfl rfl ?_
                                        refine K.if_eq at_339 (pc1 := 342) rfl (by decide) (pc2 := 369) (by decide) (a := 1) rfl (fun c339 => ?_) (fun c339 => ?_)
                                        · exfalso; omega
                                        · refine K.aload at_342 (pc' := 344) rfl rfl rfl ?_
                                          refine K.iconst at_344 (pc' := 345) rfl (z := 0) rfl ?_
                                          refine K.iload at_345 (pc' := 347) rfl rfl ?_
                                          refine K.icmp_ge at_347 (pc1 := 350) rfl (by decide) (pc2 := 354) (by decide) (a := 0) (b := 4) rfl rfl (fun c347 => ?_) (fun c347 => ?_)
                                          · exfalso; omega
                                          · refine K.iconst at_350 (pc' := 351) rfl (z := 1) rfl ?_
                                            refine K.goto at_351 (by decide) (pc' := 355) (by decide) ?_
                                            refine K.aload at_355 (pc' := 357) rfl rfl rfl ?_
                                            refine K.iconst at_357 (pc' := 358) rfl (z := 0) rfl ?_
                                            have f_2567 : Ary Z h_2558 a_2531 .int [(.int x1), (.int x2), (.int y1), (.int zz), (.int (0 : Int32))] := (A_2552.keep K_2562 nin0)
                                            refine K.iald at_358 (pc' := 359) rfl f_2567 (i := 0) rfl rfl ?_
                                            have ne_2568 : lk_2296 ≠ lk_2330 := (Nat.ne_of_lt (Nat.lt_of_lt_of_le f_2301.lt (Nat.le_trans K_2313.1 f_2333)))
                                            have ne_2569 : lk_2296 ≠ lk_2364 := (Nat.ne_of_lt (Nat.lt_of_lt_of_le f_2301.lt (Nat.le_trans (Nat.le_trans K_2313.1 (Nat.le_trans K_2332.1 K_2349.1)) f_2367)))
                                            have ne_2570 : lk_2296 ≠ w_2506 := (Nat.ne_of_lt (Nat.lt_of_lt_of_le f_2301.lt (Nat.le_trans (Nat.le_trans K_2313.1 (Nat.le_trans K_2332.1 (Nat.le_trans K_2349.1 (Nat.le_trans K_2366.1 (Nat.le_trans K_2390.1 (Nat.le_trans K_2414.1 (Nat.le_trans K_2429.1 (Nat.le_trans K_2450.1 (Nat.le_trans K_2467.1 K_2482.1))))))))) f_2508)))
                                            have ne_2571 : lk_2296 ≠ a_2531 := (Nat.ne_of_lt (Nat.lt_of_lt_of_le f_2301.lt (Nat.le_trans (Nat.le_trans K_2313.1 (Nat.le_trans K_2332.1 (Nat.le_trans K_2349.1 (Nat.le_trans K_2366.1 (Nat.le_trans K_2390.1 (Nat.le_trans K_2414.1 (Nat.le_trans K_2429.1 (Nat.le_trans K_2450.1 (Nat.le_trans K_2467.1 (Nat.le_trans K_2482.1 (Nat.le_trans K_2507.1 K_2524.1))))))))))) (Nat.le_of_eq g_a_2531.symm))))
                                            have f_2572 : Fld Z h_2558 lk_2296 sL "next" dL (.ref lk_2330) := ((((((((((((((((f_2338.keep K_2349 nin0).keep K_2366 (ninS (Ne.symm ne_2355) nin0)).keep K_2390 (ninS ne_2324 (ninS (Ne.symm ne_2355) (ninS ne_2568 nin0)))).keep K_2414 nin0).keep K_2429 nin0).keep K_2450 (ninS ne_2324 (ninS ne_2569 nin0))).keep K_2467 nin0).keep K_2482 (ninS (Ne.symm ne_2355) nin0)).keep K_2507 nin0).keep K_2524 (ninS ne_2570 nin0)).ext E_2533).other W_2538 (Or.inl ne_2571)).other W_2542 (Or.inl ne_2571)).other W_2546 (Or.inl ne_2571)).other W_2550 (Or.inl ne_2571)).keep K_2562 nin0)
                                            have f_2573 : Fld Z h_2558 lk_2296 sL "element" "Ljava/lang/Object;" (.ref w_2282) := ((((((((((((((((f_2339.keep K_2349 nin0).keep K_2366 (ninS (Ne.symm ne_2355) nin0)).keep K_2390 (ninS ne_2324 (ninS (Ne.symm ne_2355) (ninS ne_2568 nin0)))).keep K_2414 nin0).keep K_2429 nin0).keep K_2450 (ninS ne_2324 (ninS ne_2569 nin0))).keep K_2467 nin0).keep K_2482 (ninS (Ne.symm ne_2355) nin0)).keep K_2507 nin0).keep K_2524 (ninS ne_2570 nin0)).ext E_2533).other W_2538 (Or.inl ne_2571)).other W_2542 (Or.inl ne_2571)).other W_2546 (Or.inl ne_2571)).other W_2550 (Or.inl ne_2571)).keep K_2562 nin0)
                                            have ne_2574 : w_2282 ≠ o_2256 := (f_2286.elim (fun q => Nat.ne_of_lt (Nat.lt_of_lt_of_le q ge_o_2256)) (fun q => Nat.ne_of_gt (Nat.lt_of_lt_of_le x_o_2256.lt (Nat.le_trans E_2268.1 q))))
                                            have ne_2575 : w_2282 ≠ lk_2296 := (Nat.ne_of_lt (Nat.lt_of_lt_of_le f_2284.lt (Nat.le_trans (Nat.le_refl _) f_2299)))
                                            have ne_2576 : w_2282 ≠ o_2266 := (f_2286.elim (fun q => Nat.ne_of_lt (Nat.lt_of_lt_of_le q ge_o_2266)) (fun q => Nat.ne_of_gt (Nat.lt_of_lt_of_le x_o_2266.lt (Nat.le_trans (Nat.le_refl _) q))))
                                            have ne_2577 : w_2282 ≠ lk_2330 := (Nat.ne_of_lt (Nat.lt_of_lt_of_le f_2284.lt (Nat.le_trans (Nat.le_trans K_2298.1 K_2313.1) f_2333)))
                                            have ne_2578 : w_2282 ≠ lk_2364 := (Nat.ne_of_lt (Nat.lt_of_lt_of_le f_2284.lt (Nat.le_trans (Nat.le_trans K_2298.1 (Nat.le_trans K_2313.1 (Nat.le_trans K_2332.1 K_2349.1))) f_2367)))
                                            have ne_2579 : w_2282 ≠ w_2506 := (Nat.ne_of_lt (Nat.lt_of_lt_of_le f_2284.lt (Nat.le_trans (Nat.le_trans K_2298.1 (Nat.le_trans K_2313.1 (Nat.le_trans K_2332.1 (Nat.le_trans K_2349.1 (Nat.le_trans K_2366.1 (Nat.le_trans K_2390.1 (Nat.le_trans K_2414.1 (Nat.le_trans K_2429.1 (Nat.le_trans K_2450.1 (Nat.le_trans K_2467.1 K_2482.1)))))))))) f_2508)))
                                            have ne_2580 : w_2282 ≠ a_2531 := (Nat.ne_of_lt (Nat.lt_of_lt_of_le f_2284.lt (Nat.le_trans (Nat.le_trans K_2298.1 (Nat.le_trans K_2313.1 (Nat.le_trans K_2332.1 (Nat.le_trans K_2349.1 (Nat.le_trans K_2366.1 (Nat.le_trans K_2390.1 (Nat.le_trans K_2414.1 (Nat.le_trans K_2429.1 (Nat.le_trans K_2450.1 (Nat.le_trans K_2467.1 (Nat.le_trans K_2482.1 (Nat.le_trans K_2507.1 K_2524.1)))))))))))) (Nat.le_of_eq g_a_2531.symm))))
                                            have f_2581 : Fld Z h_2558 w_2282 sN "value" "I" (.int x1) := (((((((((((((((((((f_2285.keep K_2298 (ninS ne_2574 nin0)).keep K_2313 nin0).keep K_2332 (ninS ne_2574 (ninS ne_2575 nin0))).keep K_2349 nin0).keep K_2366 (ninS ne_2576 nin0)).keep K_2390 (ninS ne_2574 (ninS ne_2576 (ninS ne_2577 nin0)))).keep K_2414 nin0).keep K_2429 nin0).keep K_2450 (ninS ne_2574 (ninS ne_2578 nin0))).keep K_2467 nin0).keep K_2482 (ninS ne_2576 nin0)).keep K_2507 nin0).keep K_2524 (ninS ne_2579 nin0)).ext E_2533).other W_2538 (Or.inl ne_2580)).other W_2542 (Or.inl ne_2580)).other W_2546 (Or.inl ne_2580)).other W_2550 (Or.inl ne_2580)).keep K_2562 nin0)
                                            have f_2582 : Exa Z h_2558 lk_2296 sL := (((((((((((((((((f_2323.keep K_2332).keep K_2349).keep K_2366).keep K_2390).keep K_2414).keep K_2429).keep K_2450).keep K_2467).keep K_2482).keep K_2507).keep K_2524).ext E_2533).wr W_2538).wr W_2542).wr W_2546).wr W_2550).keep K_2562)
                                            have ne_2583 : lk_2296 ≠ w_2561 := (Nat.ne_of_lt (Nat.lt_of_lt_of_le f_2301.lt (Nat.le_trans (Nat.le_trans K_2313.1 (Nat.le_trans K_2332.1 (Nat.le_trans K_2349.1 (Nat.le_trans K_2366.1 (Nat.le_trans K_2390.1 (Nat.le_trans K_2414.1 (Nat.le_trans K_2429.1 (Nat.le_trans K_2450.1 (Nat.le_trans K_2467.1 (Nat.le_trans K_2482.1 (Nat.le_trans K_2507.1 (Nat.le_trans K_2524.1 (Nat.le_trans E_2533.1 (Nat.le_trans (Keep.of_wr W_2538).1 (Nat.le_trans (Keep.of_wr W_2542).1 (Nat.le_trans (Keep.of_wr W_2546).1 (Keep.of_wr W_2550).1)))))))))))))))) f_2563)))
                                            have ne_2584 : w_2282 ≠ w_2561 := (Nat.ne_of_lt (Nat.lt_of_lt_of_le f_2284.lt (Nat.le_trans (Nat.le_trans K_2298.1 (Nat.le_trans K_2313.1 (Nat.le_trans K_2332.1 (Nat.le_trans K_2349.1 (Nat.le_trans K_2366.1 (Nat.le_trans K_2390.1 (Nat.le_trans K_2414.1 (Nat.le_trans K_2429.1 (Nat.le_trans K_2450.1 (Nat.le_trans K_2467.1 (Nat.le_trans K_2482.1 (Nat.le_trans K_2507.1 (Nat.le_trans K_2524.1 (Nat.le_trans E_2533.1 (Nat.le_trans (Keep.of_wr W_2538).1 (Nat.le_trans (Keep.of_wr W_2542).1 (Nat.le_trans (Keep.of_wr W_2546).1 (Keep.of_wr W_2550).1))))))))))))))))) f_2563)))
                                            have f_2585 : Exa Z h_2558 w_2282 sN := (((((((((((((((((((f_2284.keep K_2298).keep K_2313).keep K_2332).keep K_2349).keep K_2366).keep K_2390).keep K_2414).keep K_2429).keep K_2450).keep K_2467).keep K_2482).keep K_2507).keep K_2524).ext E_2533).wr W_2538).wr W_2542).wr W_2546).wr W_2550).keep K_2562)
                                            refine K.calls (argsL := [(.ref w_2561), (.int (1 : Int32)), (.int x1)]) (rest := []) at_359 (pc' := 362) rfl (c_st11 l Z a0 hw n0 h_2558 (a := w_2561) (e := x1) (lk := lk_2296) (b := w_2282) (v0 := x1) (x := lk_2330) f_2565 f_2564 f_2566 f_2582 ne_2583 f_2573 f_2572 ne_2584 f_2585 f_2581) hw78 hw79 hw80 hw81 (by decide) pd_10 rfl rfl (W := 0) (by simp [Value.category]) (by decide) (by decide) (by decide) (by decide) (fun v_2588 h_2586 q_2587 => ?_)
                                            obtain ⟨rfl, K_2590, f_2591⟩ := q_2587
                                            show G h_2586 16 32 (mkF m 362 #[vi p, vi x1, vi x2, vi y1, vi y2, vi zz, vi 2, vi 1, vi w, vr o_2256, vr o_2266, vi 1, vr w_2506, vr a_2531, vi 4, vi 4, vr w_2561] [(.int (b2 (x1.toInt = x1.toInt)))])
                                            refine K.ifeqB at_362 (pc1 := 365) rfl (by decide) (pc2 := 369) (by decide) (fun c362 => ?_) (fun c362 => ?_)
                                            · exfalso; first | exact c362 rfl | exact c362 trivial
                                            · refine K.iconst at_365 (pc' := 366) rfl (z := 1) rfl ?_
                                              refine K.goto at_366 (by decide) (pc' := 370) (by decide) ?_
                                              refine K.istore at_370 (pc' := 372) rfl (L' := #[vi p, vi x1, vi x2, vi y1, vi y2, vi zz, vi 2, vi 1, vi w, vr o_2256, vr o_2266, vi 1, vr w_2506, vr a_2531, vi 4, vi 4, vr w_2561]) rfl ?_
                                              refine K.iload at_372 (pc' := 374) rfl rfl ?_
                                              refine K.if_eq at_374 (pc1 := 377) rfl (by decide) (pc2 := 404) (by decide) (a := 1) rfl (fun c374 => ?_) (fun c374 => ?_)
                                              · exfalso; omega
                                              · refine K.aload at_377 (pc' := 379) rfl rfl rfl ?_
                                                refine K.iconst at_379 (pc' := 380) rfl (z := 1) rfl ?_
                                                refine K.iload at_380 (pc' := 382) rfl rfl ?_
                                                refine K.icmp_ge at_382 (pc1 := 385) rfl (by decide) (pc2 := 389) (by decide) (a := 1) (b := 4) rfl rfl (fun c382 => ?_) (fun c382 => ?_)
                                                · exfalso; omega
                                                · refine K.iconst at_385 (pc' := 386) rfl (z := 1) rfl ?_
                                                  refine K.goto at_386 (by decide) (pc' := 390) (by decide) ?_
                                                  refine K.aload at_390 (pc' := 392) rfl rfl rfl ?_
                                                  refine K.iconst at_392 (pc' := 393) rfl (z := 1) rfl ?_
                                                  have ne_2592 : a_2531 ≠ w_2561 := (Nat.ne_of_lt (Nat.lt_of_lt_of_le A_2536.lt (Nat.le_trans (Nat.le_trans (Keep.of_wr W_2538).1 (Nat.le_trans (Keep.of_wr W_2542).1 (Nat.le_trans (Keep.of_wr W_2546).1 (Keep.of_wr W_2550).1))) f_2563)))
                                                  have f_2593 : Ary Z h_2586 a_2531 .int [(.int x1), (.int x2), (.int y1), (.int zz), (.int (0 : Int32))] := (f_2567.keep K_2590 (ninS ne_2592 nin0))
                                                  refine K.iald at_393 (pc' := 394) rfl f_2593 (i := 1) rfl rfl ?_
                                                  have ne_2594 : lk_2330 ≠ w_2506 := (Nat.ne_of_lt (Nat.lt_of_lt_of_le f_2335.lt (Nat.le_trans (Nat.le_trans K_2349.1 (Nat.le_trans K_2366.1 (Nat.le_trans K_2390.1 (Nat.le_trans K_2414.1 (Nat.le_trans K_2429.1 (Nat.le_trans K_2450.1 (Nat.le_trans K_2467.1 K_2482.1))))))) f_2508)))
                                                  have ne_2595 : lk_2330 ≠ a_2531 := (Nat.ne_of_lt (Nat.lt_of_lt_of_le f_2335.lt (Nat.le_trans (Nat.le_trans K_2349.1 (Nat.le_trans K_2366.1 (Nat.le_trans K_2390.1 (Nat.le_trans K_2414.1 (Nat.le_trans K_2429.1 (Nat.le_trans K_2450.1 (Nat.le_trans K_2467.1 (Nat.le_trans K_2482.1 (Nat.le_trans K_2507.1 K_2524.1))))))))) (Nat.le_of_eq g_a_2531.symm))))
                                                  have ne_2596 : lk_2330 ≠ w_2561 := (Nat.ne_of_lt (Nat.lt_of_lt_of_le f_2335.lt (Nat.le_trans (Nat.le_trans K_2349.1 (Nat.le_trans K_2366.1 (Nat.le_trans K_2390.1 (Nat.le_trans K_2414.1 (Nat.le_trans K_2429.1 (Nat.le_trans K_2450.1 (Nat.le_trans K_2467.1 (Nat.le_trans K_2482.1 (Nat.le_trans K_2507.1 (Nat.le_trans K_2524.1 (Nat.le_trans E_2533.1 (Nat.le_trans (Keep.of_wr W_2538).1 (Nat.le_trans (Keep.of_wr W_2542).1 (Nat.le_trans (Keep.of_wr W_2546).1 (Keep.of_wr W_2550).1)))))))))))))) f_2563)))
                                                  have f_2597 : Fld Z h_2586 lk_2330 sL "next" dL (.ref lk_2364) := ((((((((((((((f_2391.keep K_2414 nin0).keep K_2429 nin0).keep K_2450 (ninS ne_2383 (ninS (Ne.symm ne_2437) nin0))).keep K_2467 nin0).keep K_2482 (ninS ne_2379 nin0)).keep K_2507 nin0).keep K_2524 (ninS ne_2594 nin0)).ext E_2533).other W_2538 (Or.inl ne_2595)).other W_2542 (Or.inl ne_2595)).other W_2546 (Or.inl ne_2595)).other W_2550 (Or.inl ne_2595)).keep K_2562 nin0).keep K_2590 (ninS ne_2596 nin0))
                                                  have f_2598 : Fld Z h_2586 lk_2330 sL "element" "Ljava/lang/Object;" (.ref w_2312) := ((((((((((((((f_2392.keep K_2414 nin0).keep K_2429 nin0).keep K_2450 (ninS ne_2383 (ninS (Ne.symm ne_2437) nin0))).keep K_2467 nin0).keep K_2482 (ninS ne_2379 nin0)).keep K_2507 nin0).keep K_2524 (ninS ne_2594 nin0)).ext E_2533).other W_2538 (Or.inl ne_2595)).other W_2542 (Or.inl ne_2595)).other W_2546 (Or.inl ne_2595)).other W_2550 (Or.inl ne_2595)).keep K_2562 nin0).keep K_2590 (ninS ne_2596 nin0))
                                                  have ne_2599 : w_2312 ≠ lk_2296 := (f_2316.elim (fun q => Nat.ne_of_lt (Nat.lt_of_lt_of_le q f_2300)) (fun q => Nat.ne_of_gt (Nat.lt_of_lt_of_le f_2301.lt (Nat.le_trans (Nat.le_refl _) q))))
                                                  have ne_2600 : w_2312 ≠ o_2256 := (f_2316.elim (fun q => Nat.ne_of_lt (Nat.lt_of_lt_of_le q ge_o_2256)) (fun q => Nat.ne_of_gt (Nat.lt_of_lt_of_le x_o_2256.lt (Nat.le_trans (Nat.le_trans E_2268.1 (Nat.le_trans K_2283.1 K_2298.1)) q))))
                                                  have ne_2601 : w_2312 ≠ o_2266 := (f_2316.elim (fun q => Nat.ne_of_lt (Nat.lt_of_lt_of_le q ge_o_2266)) (fun q => Nat.ne_of_gt (Nat.lt_of_lt_of_le x_o_2266.lt (Nat.le_trans (Nat.le_trans K_2283.1 K_2298.1) q))))
                                                  have ne_2602 : w_2312 ≠ lk_2330 := (Nat.ne_of_lt (Nat.lt_of_lt_of_le f_2314.lt (Nat.le_trans (Nat.le_refl _) f_2333)))
                                                  have ne_2603 : w_2312 ≠ lk_2364 := (Nat.ne_of_lt (Nat.lt_of_lt_of_le f_2314.lt (Nat.le_trans (Nat.le_trans K_2332.1 K_2349.1) f_2367)))
                                                  have ne_2604 : w_2312 ≠ w_2506 := (Nat.ne_of_lt (Nat.lt_of_lt_of_le f_2314.lt (Nat.le_trans (Nat.le_trans K_2332.1 (Nat.le_trans K_2349.1 (Nat.le_trans K_2366.1 (Nat.le_trans K_2390.1 (Nat.le_trans K_2414.1 (Nat.le_trans K_2429.1 (Nat.le_trans K_2450.1 (Nat.le_trans K_2467.1 K_2482.1)))))))) f_2508)))
                                                  have ne_2605 : w_2312 ≠ a_2531 := (Nat.ne_of_lt (Nat.lt_of_lt_of_le f_2314.lt (Nat.le_trans (Nat.le_trans K_2332.1 (Nat.le_trans K_2349.1 (Nat.le_trans K_2366.1 (Nat.le_trans K_2390.1 (Nat.le_trans K_2414.1 (Nat.le_trans K_2429.1 (Nat.le_trans K_2450.1 (Nat.le_trans K_2467.1 (Nat.le_trans K_2482.1 (Nat.le_trans K_2507.1 K_2524.1)))))))))) (Nat.le_of_eq g_a_2531.symm))))
                                                  have ne_2606 : w_2312 ≠ w_2561 := (Nat.ne_of_lt (Nat.lt_of_lt_of_le f_2314.lt (Nat.le_trans (Nat.le_trans K_2332.1 (Nat.le_trans K_2349.1 (Nat.le_trans K_2366.1 (Nat.le_trans K_2390.1 (Nat.le_trans K_2414.1 (Nat.le_trans K_2429.1 (Nat.le_trans K_2450.1 (Nat.le_trans K_2467.1 (Nat.le_trans K_2482.1 (Nat.le_trans K_2507.1 (Nat.le_trans K_2524.1 (Nat.le_trans E_2533.1 (Nat.le_trans (Keep.of_wr W_2538).1 (Nat.le_trans (Keep.of_wr W_2542).1 (Nat.le_trans (Keep.of_wr W_2546).1 (Keep.of_wr W_2550).1))))))))))))))) f_2563)))
                                                  have f_2607 : Fld Z h_2586 w_2312 sN "value" "I" (.int x2) := ((((((((((((((((((f_2315.keep K_2332 (ninS ne_2600 (ninS ne_2599 nin0))).keep K_2349 nin0).keep K_2366 (ninS ne_2601 nin0)).keep K_2390 (ninS ne_2600 (ninS ne_2601 (ninS ne_2602 nin0)))).keep K_2414 nin0).keep K_2429 nin0).keep K_2450 (ninS ne_2600 (ninS ne_2603 nin0))).keep K_2467 nin0).keep K_2482 (ninS ne_2601 nin0)).keep K_2507 nin0).keep K_2524 (ninS ne_2604 nin0)).ext E_2533).other W_2538 (Or.inl ne_2605)).other W_2542 (Or.inl ne_2605)).other W_2546 (Or.inl ne_2605)).other W_2550 (Or.inl ne_2605)).keep K_2562 nin0).keep K_2590 (ninS ne_2606 nin0))
                                                  have f_2608 : Exa Z h_2586 w_2561 sI := (f_2565.keep K_2590)
                                                  have f_2609 : Exa Z h_2586 lk_2330 sL := (((((((((((((((f_2382.keep K_2390).keep K_2414).keep K_2429).keep K_2450).keep K_2467).keep K_2482).keep K_2507).keep K_2524).ext E_2533).wr W_2538).wr W_2542).wr W_2546).wr W_2550).keep K_2562).keep K_2590)
                                                  have f_2610 : Exa Z h_2586 w_2312 sN := ((((((((((((((((((f_2314.keep K_2332).keep K_2349).keep K_2366).keep K_2390).keep K_2414).keep K_2429).keep K_2450).keep K_2467).keep K_2482).keep K_2507).keep K_2524).ext E_2533).wr W_2538).wr W_2542).wr W_2546).wr W_2550).keep K_2562).keep K_2590)
                                                  refine K.calls (argsL := [(.ref w_2561), (.int (1 : Int32)), (.int x2)]) (rest := []) at_394 (pc' := 397) rfl (c_st11 l Z a0 hw n0 h_2586 (a := w_2561) (e := x2) (lk := lk_2330) (b := w_2312) (v0 := x2) (x := lk_2364) f_2608 f_2564 f_2591 f_2609 ne_2596 f_2598 f_2597 ne_2606 f_2610 f_2607) hw78 hw79 hw80 hw81 (by decide) pd_10 rfl rfl (W := 0) (by simp [Value.category]) (by decide) (by decide) (by decide) (by decide) (fun v_2613 h_2611 q_2612 => ?_)
                                                  obtain ⟨rfl, K_2615, f_2616⟩ := q_2612
                                                  show G h_2611 16 32 (mkF m 397 #[vi p, vi x1, vi x2, vi y1, vi y2, vi zz, vi 2, vi 1, vi w, vr o_2256, vr o_2266, vi 1, vr w_2506, vr a_2531, vi 4, vi 4, vr w_2561] [(.int (b2 (x2.toInt = x2.toInt)))])
                                                  refine K.ifeqB at_397 (pc1 := 400) rfl (by decide) (pc2 := 404) (by decide) (fun c397 => ?_) (fun c397 => ?_)
                                                  · exfalso; first | exact c397 rfl | exact c397 trivial
                                                  · refine K.iconst at_400 (pc' := 401) rfl (z := 1) rfl ?_
                                                    refine K.goto at_401 (by decide) (pc' := 405) (by decide) ?_
                                                    refine K.istore at_405 (pc' := 407) rfl (L' := #[vi p, vi x1, vi x2, vi y1, vi y2, vi zz, vi 2, vi 1, vi w, vr o_2256, vr o_2266, vi 1, vr w_2506, vr a_2531, vi 4, vi 4, vr w_2561]) rfl ?_
                                                    refine K.iload at_407 (pc' := 409) rfl rfl ?_
                                                    refine K.if_eq at_409 (pc1 := 412) rfl (by decide) (pc2 := 439) (by decide) (a := 1) rfl (fun c409 => ?_) (fun c409 => ?_)
                                                    · exfalso; omega
                                                    · refine K.aload at_412 (pc' := 414) rfl rfl rfl ?_
                                                      refine K.iconst at_414 (pc' := 415) rfl (z := 2) rfl ?_
                                                      refine K.iload at_415 (pc' := 417) rfl rfl ?_
                                                      refine K.icmp_ge at_417 (pc1 := 420) rfl (by decide) (pc2 := 424) (by decide) (a := 2) (b := 4) rfl rfl (fun c417 => ?_) (fun c417 => ?_)
                                                      · exfalso; omega
                                                      · refine K.iconst at_420 (pc' := 421) rfl (z := 1) rfl ?_
                                                        refine K.goto at_421 (by decide) (pc' := 425) (by decide) ?_
                                                        refine K.aload at_425 (pc' := 427) rfl rfl rfl ?_
                                                        refine K.iconst at_427 (pc' := 428) rfl (z := 2) rfl ?_
                                                        have f_2617 : Ary Z h_2611 a_2531 .int [(.int x1), (.int x2), (.int y1), (.int zz), (.int (0 : Int32))] := (f_2593.keep K_2615 (ninS ne_2592 nin0))
                                                        refine K.iald at_428 (pc' := 429) rfl f_2617 (i := 2) rfl rfl ?_
                                                        have ne_2618 : lk_2364 ≠ w_2506 := (Nat.ne_of_lt (Nat.lt_of_lt_of_le f_2369.lt (Nat.le_trans (Nat.le_trans K_2390.1 (Nat.le_trans K_2414.1 (Nat.le_trans K_2429.1 (Nat.le_trans K_2450.1 (Nat.le_trans K_2467.1 K_2482.1))))) f_2508)))
                                                        have ne_2619 : lk_2364 ≠ a_2531 := (Nat.ne_of_lt (Nat.lt_of_lt_of_le f_2369.lt (Nat.le_trans (Nat.le_trans K_2390.1 (Nat.le_trans K_2414.1 (Nat.le_trans K_2429.1 (Nat.le_trans K_2450.1 (Nat.le_trans K_2467.1 (Nat.le_trans K_2482.1 (Nat.le_trans K_2507.1 K_2524.1))))))) (Nat.le_of_eq g_a_2531.symm))))
                                                        have ne_2620 : lk_2364 ≠ w_2561 := (Nat.ne_of_lt (Nat.lt_of_lt_of_le f_2369.lt (Nat.le_trans (Nat.le_trans K_2390.1 (Nat.le_trans K_2414.1 (Nat.le_trans K_2429.1 (Nat.le_trans K_2450.1 (Nat.le_trans K_2467.1 (Nat.le_trans K_2482.1 (Nat.le_trans K_2507.1 (Nat.le_trans K_2524.1 (Nat.le_trans E_2533.1 (Nat.le_trans (Keep.of_wr W_2538).1 (Nat.le_trans (Keep.of_wr W_2542).1 (Nat.le_trans (Keep.of_wr W_2546).1 (Keep.of_wr W_2550).1)))))))))))) f_2563)))
                                                        have f_2621 : Fld Z h_2611 lk_2364 sL "next" dL (.ref lk_2448) := ((((((((((((f_2456.keep K_2467 nin0).keep K_2482 (ninS ne_2438 nin0)).keep K_2507 nin0).keep K_2524 (ninS ne_2618 nin0)).ext E_2533).other W_2538 (Or.inl ne_2619)).other W_2542 (Or.inl ne_2619)).other W_2546 (Or.inl ne_2619)).other W_2550 (Or.inl ne_2619)).keep K_2562 nin0).keep K_2590 (ninS ne_2620 nin0)).keep K_2615 (ninS ne_2620 nin0))
                                                        have f_2622 : Fld Z h_2611 lk_2364 sL "element" "Ljava/lang/Object;" (.ref w_2348) := ((((((((((((f_2457.keep K_2467 nin0).keep K_2482 (ninS ne_2438 nin0)).keep K_2507 nin0).keep K_2524 (ninS ne_2618 nin0)).ext E_2533).other W_2538 (Or.inl ne_2619)).other W_2542 (Or.inl ne_2619)).other W_2546 (Or.inl ne_2619)).other W_2550 (Or.inl ne_2619)).keep K_2562 nin0).keep K_2590 (ninS ne_2620 nin0)).keep K_2615 (ninS ne_2620 nin0))
                                                        have ne_2623 : w_2348 ≠ o_2266 := (f_2352.elim (fun q => Nat.ne_of_lt (Nat.lt_of_lt_of_le q ge_o_2266)) (fun q => Nat.ne_of_gt (Nat.lt_of_lt_of_le x_o_2266.lt (Nat.le_trans (Nat.le_trans K_2283.1 (Nat.le_trans K_2298.1 (Nat.le_trans K_2313.1 K_2332.1))) q))))
                                                        have ne_2624 : w_2348 ≠ lk_2330 := (f_2352.elim (fun q => Nat.ne_of_lt (Nat.lt_of_lt_of_le q f_2334)) (fun q => Nat.ne_of_gt (Nat.lt_of_lt_of_le f_2335.lt (Nat.le_trans (Nat.le_refl _) q))))
                                                        have ne_2625 : w_2348 ≠ o_2256 := (f_2352.elim (fun q => Nat.ne_of_lt (Nat.lt_of_lt_of_le q ge_o_2256)) (fun q => Nat.ne_of_gt (Nat.lt_of_lt_of_le x_o_2256.lt (Nat.le_trans (Nat.le_trans E_2268.1 (Nat.le_trans K_2283.1 (Nat.le_trans K_2298.1 (Nat.le_trans K_2313.1 K_2332.1)))) q))))
                                                        have ne_2626 : w_2348 ≠ lk_2364 := (Nat.ne_of_lt (Nat.lt_of_lt_of_le f_2350.lt (Nat.le_trans (Nat.le_refl _) f_2367)))
                                                        have ne_2627 : w_2348 ≠ w_2506 := (Nat.ne_of_lt (Nat.lt_of_lt_of_le f_2350.lt (Nat.le_trans (Nat.le_trans K_2366.1 (Nat.le_trans K_2390.1 (Nat.le_trans K_2414.1 (Nat.le_trans K_2429.1 (Nat.le_trans K_2450.1 (Nat.le_trans K_2467.1 K_2482.1)))))) f_2508)))
                                                        have ne_2628 : w_2348 ≠ a_2531 := (Nat.ne_of_lt (Nat.lt_of_lt_of_le f_2350.lt (Nat.le_trans (Nat.le_trans K_2366.1 (Nat.le_trans K_2390.1 (Nat.le_trans K_2414.1 (Nat.le_trans K_2429.1 (Nat.le_trans K_2450.1 (Nat.le_trans K_2467.1 (Nat.le_trans K_2482.1 (Nat.le_trans K_2507.1 K_2524.1)))))))) (Nat.le_of_eq g_a_2531.symm))))
                                                        have ne_2629 : w_2348 ≠ w_2561 := (Nat.ne_of_lt (Nat.lt_of_lt_of_le f_2350.lt (Nat.le_trans (Nat.le_trans K_2366.1 (Nat.le_trans K_2390.1 (Nat.le_trans K_2414.1 (Nat.le_trans K_2429.1 (Nat.le_trans K_2450.1 (Nat.le_trans K_2467.1 (Nat.le_trans K_2482.1 (Nat.le_trans K_2507.1 (Nat.le_trans K_2524.1 (Nat.le_trans E_2533.1 (Nat.le_trans (Keep.of_wr W_2538).1 (Nat.le_trans (Keep.of_wr W_2542).1 (Nat.le_trans (Keep.of_wr W_2546).1 (Keep.of_wr W_2550).1))))))))))))) f_2563)))
                                                        have f_2630 : Fld Z h_2611 w_2348 sN "value" "I" (.int y1) := (((((((((((((((((f_2351.keep K_2366 (ninS ne_2623 nin0)).keep K_2390 (ninS ne_2625 (ninS ne_2623 (ninS ne_2624 nin0)))).keep K_2414 nin0).keep K_2429 nin0).keep K_2450 (ninS ne_2625 (ninS ne_2626 nin0))).keep K_2467 nin0).keep K_2482 (ninS ne_2623 nin0)).keep K_2507 nin0).keep K_2524 (ninS ne_2627 nin0)).ext E_2533).other W_2538 (Or.inl ne_2628)).other W_2542 (Or.inl ne_2628)).other W_2546 (Or.inl ne_2628)).other W_2550 (Or.inl ne_2628)).keep K_2562 nin0).keep K_2590 (ninS ne_2629 nin0)).keep K_2615 (ninS ne_2629 nin0))
                                                        have f_2631 : Exa Z h_2611 w_2561 sI := (f_2608.keep K_2615)
                                                        have f_2632 : Exa Z h_2611 lk_2364 sL := (((((((((((((f_2442.keep K_2450).keep K_2467).keep K_2482).keep K_2507).keep K_2524).ext E_2533).wr W_2538).wr W_2542).wr W_2546).wr W_2550).keep K_2562).keep K_2590).keep K_2615)
                                                        have f_2633 : Exa Z h_2611 w_2348 sN := (((((((((((((((((f_2350.keep K_2366).keep K_2390).keep K_2414).keep K_2429).keep K_2450).keep K_2467).keep K_2482).keep K_2507).keep K_2524).ext E_2533).wr W_2538).wr W_2542).wr W_2546).wr W_2550).keep K_2562).keep K_2590).keep K_2615)
                                                        refine K.calls (argsL := [(.ref w_2561), (.int (1 : Int32)), (.int y1)]) (rest := []) at_429 (pc' := 432) rfl (c_st11 l Z a0 hw n0 h_2611 (a := w_2561) (e := y1) (lk := lk_2364) (b := w_2348) (v0 := y1) (x := lk_2448) f_2631 f_2564 f_2616 f_2632 ne_2620 f_2622 f_2621 ne_2629 f_2633 f_2630) hw78 hw79 hw80 hw81 (by decide) pd_10 rfl rfl (W := 0) (by simp [Value.category]) (by decide) (by decide) (by decide) (by decide) (fun v_2636 h_2634 q_2635 => ?_)
                                                        obtain ⟨rfl, K_2638, f_2639⟩ := q_2635
                                                        show G h_2634 16 32 (mkF m 432 #[vi p, vi x1, vi x2, vi y1, vi y2, vi zz, vi 2, vi 1, vi w, vr o_2256, vr o_2266, vi 1, vr w_2506, vr a_2531, vi 4, vi 4, vr w_2561] [(.int (b2 (y1.toInt = y1.toInt)))])
                                                        refine K.ifeqB at_432 (pc1 := 435) rfl (by decide) (pc2 := 439) (by decide) (fun c432 => ?_) (fun c432 => ?_)
                                                        · exfalso; first | exact c432 rfl | exact c432 trivial
                                                        · refine K.iconst at_435 (pc' := 436) rfl (z := 1) rfl ?_
                                                          refine K.goto at_436 (by decide) (pc' := 440) (by decide) ?_
                                                          refine K.istore at_440 (pc' := 442) rfl (L' := #[vi p, vi x1, vi x2, vi y1, vi y2, vi zz, vi 2, vi 1, vi w, vr o_2256, vr o_2266, vi 1, vr w_2506, vr a_2531, vi 4, vi 4, vr w_2561]) rfl ?_
                                                          refine K.iload at_442 (pc' := 444) rfl rfl ?_
                                                          refine K.if_eq at_444 (pc1 := 447) rfl (by decide) (pc2 := 474) (by decide) (a := 1) rfl (fun c444 => ?_) (fun c444 => ?_)
                                                          · exfalso; omega
                                                          · refine K.aload at_447 (pc' := 449) rfl rfl rfl ?_
                                                            refine K.iconst at_449 (pc' := 450) rfl (z := 3) rfl ?_
                                                            refine K.iload at_450 (pc' := 452) rfl rfl ?_
                                                            refine K.icmp_ge at_452 (pc1 := 455) rfl (by decide) (pc2 := 459) (by decide) (a := 3) (b := 4) rfl rfl (fun c452 => ?_) (fun c452 => ?_)
                                                            · exfalso; omega
                                                            · refine K.iconst at_455 (pc' := 456) rfl (z := 1) rfl ?_
                                                              refine K.goto at_456 (by decide) (pc' := 460) (by decide) ?_
                                                              refine K.aload at_460 (pc' := 462) rfl rfl rfl ?_
                                                              refine K.iconst at_462 (pc' := 463) rfl (z := 3) rfl ?_
                                                              have f_2640 : Ary Z h_2634 a_2531 .int [(.int x1), (.int x2), (.int y1), (.int zz), (.int (0 : Int32))] := (f_2617.keep K_2638 (ninS ne_2592 nin0))
                                                              refine K.iald at_463 (pc' := 464) rfl f_2640 (i := 3) rfl rfl ?_
                                                              have ne_2641 : lk_2448 ≠ o_2266 := (Ne.symm (Nat.ne_of_lt (Nat.lt_of_lt_of_le x_o_2266.lt (Nat.le_trans (Nat.le_trans K_2283.1 (Nat.le_trans K_2298.1 (Nat.le_trans K_2313.1 (Nat.le_trans K_2332.1 (Nat.le_trans K_2349.1 (Nat.le_trans K_2366.1 (Nat.le_trans K_2390.1 (Nat.le_trans K_2414.1 K_2429.1)))))))) f_2451))))
                                                              have ne_2642 : lk_2448 ≠ w_2506 := (Nat.ne_of_lt (Nat.lt_of_lt_of_le f_2453.lt (Nat.le_trans (Nat.le_trans K_2467.1 K_2482.1) f_2508)))
                                                              have ne_2643 : lk_2448 ≠ a_2531 := (Nat.ne_of_lt (Nat.lt_of_lt_of_le f_2453.lt (Nat.le_trans (Nat.le_trans K_2467.1 (Nat.le_trans K_2482.1 (Nat.le_trans K_2507.1 K_2524.1))) (Nat.le_of_eq g_a_2531.symm))))
                                                              have ne_2644 : lk_2448 ≠ w_2561 := (Nat.ne_of_lt (Nat.lt_of_lt_of_le f_2453.lt (Nat.le_trans (Nat.le_trans K_2467.1 (Nat.le_trans K_2482.1 (Nat.le_trans K_2507.1 (Nat.le_trans K_2524.1 (Nat.le_trans E_2533.1 (Nat.le_trans (Keep.of_wr W_2538).1 (Nat.le_trans (Keep.of_wr W_2542).1 (Nat.le_trans (Keep.of_wr W_2546).1 (Keep.of_wr W_2550).1)))))))) f_2563)))
                                                              have f_2645 : Fld Z h_2634 lk_2448 sL "next" dL .null := (((((((((((((f_2455.keep K_2467 nin0).keep K_2482 (ninS ne_2641 nin0)).keep K_2507 nin0).keep K_2524 (ninS ne_2642 nin0)).ext E_2533).other W_2538 (Or.inl ne_2643)).other W_2542 (Or.inl ne_2643)).other W_2546 (Or.inl ne_2643)).other W_2550 (Or.inl ne_2643)).keep K_2562 nin0).keep K_2590 (ninS ne_2644 nin0)).keep K_2615 (ninS ne_2644 nin0)).keep K_2638 (ninS ne_2644 nin0))
                                                              have f_2646 : Fld Z h_2634 lk_2448 sL "element" "Ljava/lang/Object;" (.ref w_2428) := (((((((((((((f_2454.keep K_2467 nin0).keep K_2482 (ninS ne_2641 nin0)).keep K_2507 nin0).keep K_2524 (ninS ne_2642 nin0)).ext E_2533).other W_2538 (Or.inl ne_2643)).other W_2542 (Or.inl ne_2643)).other W_2546 (Or.inl ne_2643)).other W_2550 (Or.inl ne_2643)).keep K_2562 nin0).keep K_2590 (ninS ne_2644 nin0)).keep K_2615 (ninS ne_2644 nin0)).keep K_2638 (ninS ne_2644 nin0))
                                                              have ne_2647 : w_2428 ≠ lk_2364 := (f_2432.elim (fun q => Nat.ne_of_lt (Nat.lt_of_lt_of_le q f_2368)) (fun q => Nat.ne_of_gt (Nat.lt_of_lt_of_le f_2369.lt (Nat.le_trans (Nat.le_trans K_2390.1 K_2414.1) q))))
                                                              have ne_2648 : w_2428 ≠ o_2256 := (f_2432.elim (fun q => Nat.ne_of_lt (Nat.lt_of_lt_of_le q ge_o_2256)) (fun q => Nat.ne_of_gt (Nat.lt_of_lt_of_le x_o_2256.lt (Nat.le_trans (Nat.le_trans E_2268.1 (Nat.le_trans K_2283.1 (Nat.le_trans K_2298.1 (Nat.le_trans K_2313.1 (Nat.le_trans K_2332.1 (Nat.le_trans K_2349.1 (Nat.le_trans K_2366.1 (Nat.le_trans K_2390.1 K_2414.1)))))))) q))))
                                                              have ne_2649 : w_2428 ≠ o_2266 := (f_2432.elim (fun q => Nat.ne_of_lt (Nat.lt_of_lt_of_le q ge_o_2266)) (fun q => Nat.ne_of_gt (Nat.lt_of_lt_of_le x_o_2266.lt (Nat.le_trans (Nat.le_trans K_2283.1 (Nat.le_trans K_2298.1 (Nat.le_trans K_2313.1 (Nat.le_trans K_2332.1 (Nat.le_trans K_2349.1 (Nat.le_trans K_2366.1 (Nat.le_trans K_2390.1 K_2414.1))))))) q))))
                                                              have ne_2650 : w_2428 ≠ w_2506 := (Nat.ne_of_lt (Nat.lt_of_lt_of_le f_2430.lt (Nat.le_trans (Nat.le_trans K_2450.1 (Nat.le_trans K_2467.1 K_2482.1)) f_2508)))
                                                              have ne_2651 : w_2428 ≠ a_2531 := (Nat.ne_of_lt (Nat.lt_of_lt_of_le f_2430.lt (Nat.le_trans (Nat.le_trans K_2450.1 (Nat.le_trans K_2467.1 (Nat.le_trans K_2482.1 (Nat.le_trans K_2507.1 K_2524.1)))) (Nat.le_of_eq g_a_2531.symm))))
                                                              have ne_2652 : w_2428 ≠ w_2561 := (Nat.ne_of_lt (Nat.lt_of_lt_of_le f_2430.lt (Nat.le_trans (Nat.le_trans K_2450.1 (Nat.le_trans K_2467.1 (Nat.le_trans K_2482.1 (Nat.le_trans K_2507.1 (Nat.le_trans K_2524.1 (Nat.le_trans E_2533.1 (Nat.le_trans (Keep.of_wr W_2538).1 (Nat.le_trans (Keep.of_wr W_2542).1 (Nat.le_trans (Keep.of_wr W_2546).1 (Keep.of_wr W_2550).1))))))))) f_2563)))
                                                              have f_2653 : Fld Z h_2634 w_2428 sN "value" "I" (.int zz) := ((((((((((((((f_2431.keep K_2450 (ninS ne_2648 (ninS ne_2647 nin0))).keep K_2467 nin0).keep K_2482 (ninS ne_2649 nin0)).keep K_2507 nin0).keep K_2524 (ninS ne_2650 nin0)).ext E_2533).other W_2538 (Or.inl ne_2651)).other W_2542 (Or.inl ne_2651)).other W_2546 (Or.inl ne_2651)).other W_2550 (Or.inl ne_2651)).keep K_2562 nin0).keep K_2590 (ninS ne_2652 nin0)).keep K_2615 (ninS ne_2652 nin0)).keep K_2638 (ninS ne_2652 nin0))
                                                              have f_2654 : Exa Z h_2634 w_2561 sI := (f_2631.keep K_2638)
                                                              have f_2655 : Exa Z h_2634 lk_2448 sL := (((((((((((((f_2453.keep K_2467).keep K_2482).keep K_2507).keep K_2524).ext E_2533).wr W_2538).wr W_2542).wr W_2546).wr W_2550).keep K_2562).keep K_2590).keep K_2615).keep K_2638)
                                                              have f_2656 : Exa Z h_2634 w_2428 sN := ((((((((((((((f_2430.keep K_2450).keep K_2467).keep K_2482).keep K_2507).keep K_2524).ext E_2533).wr W_2538).wr W_2542).wr W_2546).wr W_2550).keep K_2562).keep K_2590).keep K_2615).keep K_2638)
                                                              refine K.calls (argsL := [(.ref w_2561), (.int (1 : Int32)), (.int zz)]) (rest := []) at_464 (pc' := 467) rfl (c_st10 l Z a0 hw n0 h_2634 (a := w_2561) (e := zz) (lk := lk_2448) (b := w_2428) (v0 := zz) f_2654 f_2564 f_2639 f_2655 ne_2644 f_2646 f_2645 ne_2652 f_2656 f_2653) hw78 hw79 hw80 hw81 (by decide) pd_10 rfl rfl (W := 0) (by simp [Value.category]) (by decide) (by decide) (by decide) (by decide) (fun v_2659 h_2657 q_2658 => ?_)
                                                              obtain ⟨rfl, K_2661, f_2662⟩ := q_2658
                                                              show G h_2657 16 32 (mkF m 467 #[vi p, vi x1, vi x2, vi y1, vi y2, vi zz, vi 2, vi 1, vi w, vr o_2256, vr o_2266, vi 1, vr w_2506, vr a_2531, vi 4, vi 4, vr w_2561] [(.int (b2 (zz.toInt = zz.toInt)))])
                                                              refine K.ifeqB at_467 (pc1 := 470) rfl (by decide) (pc2 := 474) (by decide) (fun c467 => ?_) (fun c467 => ?_)
                                                              · exfalso; first | exact c467 rfl | exact c467 trivial
                                                              · refine K.iconst at_470 (pc' := 471) rfl (z := 1) rfl ?_
                                                                refine K.goto at_471 (by decide) (pc' := 475) (by decide) ?_
                                                                refine K.istore at_475 (pc' := 477) rfl (L' := #[vi p, vi x1, vi x2, vi y1, vi y2, vi zz, vi 2, vi 1, vi w, vr o_2256, vr o_2266, vi 1, vr w_2506, vr a_2531, vi 4, vi 4, vr w_2561]) rfl ?_
                                                                refine K.iload at_477 (pc' := 479) rfl rfl ?_
                                                                refine K.if_eq at_479 (pc1 := 482) rfl (by decide) (pc2 := 509) (by decide) (a := 1) rfl (fun c479 => ?_) (fun c479 => ?_)
                                                                · exfalso; omega
                                                                · refine K.aload at_482 (pc' := 484) rfl rfl rfl ?_
                                                                  refine K.iconst at_484 (pc' := 485) rfl (z := 4) rfl ?_
                                                                  refine K.iload at_485 (pc' := 487) rfl rfl ?_
                                                                  refine K.icmp_ge at_487 (pc1 := 490) rfl (by decide) (pc2 := 494) (by decide) (a := 4) (b := 4) rfl rfl (fun c487 => ?_) (fun c487 => ?_)
                                                                  · refine K.iconst at_494 (pc' := 495) rfl (z := 0) rfl ?_
                                                                    refine K.aload at_495 (pc' := 497) rfl rfl rfl ?_
                                                                    refine K.iconst at_497 (pc' := 498) rfl (z := 4) rfl ?_
                                                                    have f_2663 : Ary Z h_2657 a_2531 .int [(.int x1), (.int x2), (.int y1), (.int zz), (.int (0 : Int32))] := (f_2640.keep K_2661 (ninS ne_2592 nin0))
                                                                    refine K.iald at_498 (pc' := 499) rfl f_2663 (i := 4) rfl rfl ?_
                                                                    refine K.calls (argsL := [(.ref w_2561), (.int (0 : Int32)), (.int (0 : Int32))]) (rest := []) at_499 (pc' := 502) rfl (c_st0 l Z a0 hw n0 h_2657 (a := w_2561) (e := (0 : Int32)) ) hw78 hw79 hw80 hw81 (by decide) pd_10 rfl rfl (W := 0) (by simp [Value.category]) (by decide) (by decide) (by decide) (by decide) (fun v_2666 h_2664 q_2665 => ?_)
                                                                    obtain ⟨rfl, rfl⟩ := q_2665
                                                                    show G h_2657 16 32 (mkF m 502 #[vi p, vi x1, vi x2, vi y1, vi y2, vi zz, vi 2, vi 1, vi w, vr o_2256, vr o_2266, vi 1, vr w_2506, vr a_2531, vi 4, vi 4, vr w_2561] [(.int (b2 (True)))])
                                                                    refine K.ifeqB at_502 (pc1 := 505) rfl (by decide) (pc2 := 509) (by decide) (fun c502 => ?_) (fun c502 => ?_)
                                                                    · exfalso; first | exact c502 rfl | exact c502 trivial
                                                                    · refine K.iconst at_505 (pc' := 506) rfl (z := 1) rfl ?_
                                                                      refine K.goto at_506 (by decide) (pc' := 510) (by decide) ?_
                                                                      refine K.istore at_510 (pc' := 512) rfl (L' := #[vi p, vi x1, vi x2, vi y1, vi y2, vi zz, vi 2, vi 1, vi w, vr o_2256, vr o_2266, vi 1, vr w_2506, vr a_2531, vi 4, vi 4, vr w_2561]) rfl ?_
                                                                      refine K.iload at_512 (pc' := 514) rfl rfl ?_
                                                                      refine K.if_eq at_514 (pc1 := 517) rfl (by decide) (pc2 := 531) (by decide) (a := 1) rfl (fun c514 => ?_) (fun c514 => ?_)
                                                                      · exfalso; omega
                                                                      · refine K.aload at_517 (pc' := 519) rfl rfl rfl ?_
                                                                        have f_2668 : Exa Z h_2657 w_2561 sI := (f_2654.keep K_2661)
                                                                        refine K.calli (z := (⟨sI, "hasNext", "()Z"⟩ : MethodName)) (argsL := []) (rest := []) at_519 (pc' := 524) rfl (c_has0 l Z a0 hw n0 h_2657 (a := w_2561) f_2668 f_2662) f_2668 hw46 hw47 hw48 rfl hw49 hw50 hw51 hw52 hw53 hw36 hw54 (by decide) pd_4 rfl rfl (W := 0) (by simp [Value.category]) (by decide) (by decide) (by decide) (by decide) (fun v_2671 h_2669 q_2670 => ?_)
                                                                        obtain ⟨rfl, rfl⟩ := q_2670
                                                                        show G h_2657 16 32 (mkF m 524 #[vi p, vi x1, vi x2, vi y1, vi y2, vi zz, vi 2, vi 1, vi w, vr o_2256, vr o_2266, vi 1, vr w_2506, vr a_2531, vi 4, vi 4, vr w_2561] [(.int (b2 (False)))])
                                                                        refine K.ifneB at_524 (pc1 := 527) rfl (by decide) (pc2 := 531) (by decide) (fun c524 => ?_) (fun c524 => ?_)
                                                                        · exfalso; exact c524
                                                                        · refine K.iconst at_527 (pc' := 528) rfl (z := 1) rfl ?_
                                                                          refine K.goto at_528 (by decide) (pc' := 532) (by decide) ?_
                                                                          exact K.retz at_532 (Or.inr rfl) (by decide) (by decide) rfl
                                                                  · exfalso; omega
                                      · exfalso; omega
            · exfalso; omega
    · refine K.iload at_16 (pc' := 18) rfl rfl ?_
      refine K.iconst at_18 (pc' := 19) rfl (z := -1) rfl ?_
      obtain ⟨w, e_w⟩ : ∃ z, zz ^^^ (-1 : Int32) = z := ⟨_, rfl⟩
      refine K.ixor at_19 (pc' := 20) rfl e_w ?_
      refine K.istore at_20 (pc' := 22) rfl (L' := #[vi p, vi x1, vi x2, vi y1, vi y2, vi zz, vi 2, vi 2, vi w, .unset, .unset, .unset, .unset, .unset, .unset, .unset, .unset]) rfl ?_
      refine K.newo at_22 (pc' := 25) rfl hw1 hw2 hw3 (by decide) (by decide) (fun h_2674 o_2673 g_o_2673 E_2675 x_o_2673 D_o_2673 => ?_)
      have ge_o_2673 : n0 ≤ o_2673 := g_o_2673 ▸ Z0
      have f_2676 : Fld Z h_2674 o_2673 sC "first" dL .null := D_o_2673 (Or.inl hw21) (ty := (.object sL)) (by decide)
      have f_2677 : Fld Z h_2674 o_2673 sC "size" "I" (.int (0 : Int32)) := D_o_2673 (Or.inl hw28) (ty := .int) (by decide)
      have f_2678 : Fld Z h_2674 o_2673 sC "last" dL .null := D_o_2673 (Or.inl hw77) (ty := (.object sL)) (by decide)
      refine K.dup at_25 (pc' := 26) rfl rfl ?_
      refine K.callc (argsL := []) (rest := [(.ref o_2673)]) at_26 (pc' := 29) rfl rfl (c_chn l Z a0 hw n0 h_2674 (a := o_2673) ) hw4 hw5 hw3 hw6 (by decide) pd_0 rfl rfl (W := 1) (by simp [Value.category]) (by decide) (by decide) (by decide) (by decide) (fun v_2681 h_2679 q_2680 => ?_)
      obtain ⟨rfl, rfl⟩ := q_2680
      show G h_2674 1 3 (mkF m 29 #[vi p, vi x1, vi x2, vi y1, vi y2, vi zz, vi 2, vi 2, vi w, .unset, .unset, .unset, .unset, .unset, .unset, .unset, .unset] [(.ref o_2673)])
      refine K.astore at_29 (pc' := 31) rfl rfl (L' := #[vi p, vi x1, vi x2, vi y1, vi y2, vi zz, vi 2, vi 2, vi w, vr o_2673, .unset, .unset, .unset, .unset, .unset, .unset, .unset]) rfl ?_
      refine K.newo at_31 (pc' := 34) rfl hw1 hw2 hw3 (by decide) (by decide) (fun h_2684 o_2683 g_o_2683 E_2685 x_o_2683 D_o_2683 => ?_)
      have sz_2686 : n0 ≤ h_2674.size := Nat.le_trans Z0 E_2675.1
      have ge_o_2683 : n0 ≤ o_2683 := g_o_2683 ▸ sz_2686
      have f_2687 : Fld Z h_2684 o_2683 sC "first" dL .null := D_o_2683 (Or.inl hw21) (ty := (.object sL)) (by decide)
      have f_2688 : Fld Z h_2684 o_2683 sC "size" "I" (.int (0 : Int32)) := D_o_2683 (Or.inl hw28) (ty := .int) (by decide)
      have f_2689 : Fld Z h_2684 o_2683 sC "last" dL .null := D_o_2683 (Or.inl hw77) (ty := (.object sL)) (by decide)
      refine K.dup at_34 (pc' := 35) rfl rfl ?_
      refine K.callc (argsL := []) (rest := [(.ref o_2683)]) at_35 (pc' := 38) rfl rfl (c_chn l Z a0 hw n0 h_2684 (a := o_2683) ) hw4 hw5 hw3 hw6 (by decide) pd_0 rfl rfl (W := 1) (by simp [Value.category]) (by decide) (by decide) (by decide) (by decide) (fun v_2692 h_2690 q_2691 => ?_)
      obtain ⟨rfl, rfl⟩ := q_2691
      show G h_2684 2 6 (mkF m 38 #[vi p, vi x1, vi x2, vi y1, vi y2, vi zz, vi 2, vi 2, vi w, vr o_2673, .unset, .unset, .unset, .unset, .unset, .unset, .unset] [(.ref o_2683)])
      refine K.astore at_38 (pc' := 40) rfl rfl (L' := #[vi p, vi x1, vi x2, vi y1, vi y2, vi zz, vi 2, vi 2, vi w, vr o_2673, vr o_2683, .unset, .unset, .unset, .unset, .unset, .unset]) rfl ?_
      refine K.iload at_40 (pc' := 42) rfl rfl ?_
      refine K.if_le at_42 (pc1 := 45) rfl (by decide) (pc2 := 55) (by decide) (a := 2) rfl (fun c42 => ?_) (fun c42 => ?_)
      · exfalso; omega
      · refine K.aload at_45 (pc' := 47) rfl rfl rfl ?_
        refine K.iloadN at_47 (pc' := 48) rfl rfl ?_
        have sz_2694 : n0 ≤ h_2684.size := Nat.le_trans sz_2686 E_2685.1
        have f_2695 : Old Z n0 h_2684 := ((P2.ext E_2675).ext E_2685)
        refine K.calls (argsL := [(.int x1)]) (rest := [(.ref o_2673)]) at_48 (pc' := 51) rfl (c_val l Z a0 hw n0 h_2684 (p := x1) (ca := ca) (cc := cc) sz_2694 f_2695 P3 P4 hbx) hw55 hw56 hw57 hw58 (by decide) pd_8 rfl rfl (W := 1) (by simp [Value.category]) (by decide) (by decide) (by decide) (by decide) (fun v_2698 h_2696 q_2697 => ?_)
        obtain ⟨w_2699, rfl, K_2700, f_2701, f_2702, f_2703⟩ := q_2697
        show G h_2696 3 7 (mkF m 51 #[vi p, vi x1, vi x2, vi y1, vi y2, vi zz, vi 2, vi 2, vi w, vr o_2673, vr o_2683, .unset, .unset, .unset, .unset, .unset, .unset] [(.ref w_2699), (.ref o_2673)])
        have f_2704 : Exa Z h_2696 o_2673 sC := ((x_o_2673.ext E_2685).keep K_2700)
        have f_2705 : Fld Z h_2696 o_2673 sC "last" dL .null := ((f_2678.ext E_2685).keep K_2700 nin0)
        have f_2706 : Fld Z h_2696 o_2673 sC "size" "I" (.int (0 : Int32)) := ((f_2677.ext E_2685).keep K_2700 nin0)
        have sz_2707 : n0 ≤ h_2696.size := Nat.le_trans sz_2694 K_2700.1
        have f_2708 : Fld Z h_2696 o_2673 sC "first" dL .null := ((f_2676.ext E_2685).keep K_2700 nin0)
        refine K.callv (z := (⟨sC, "add", "(Ljava/lang/Object;)Z"⟩ : MethodName)) (argsL := [(.ref w_2699)]) (rest := []) at_51 (pc' := 54) rfl (c_add0 l Z a0 hw n0 h_2696 (a := o_2673) (e := w_2699) (n := (0 : Int32)) sz_2707 f_2704 ge_o_2673 f_2708 f_2705 f_2706 (by first | decide | omega)) f_2704 hw62 hw63 (nf_sel hw65 rfl) hw65 hw64 hw3 hw66 (by decide) pd_9 rfl rfl (W := 0) (by simp [Value.category]) (by decide) (by decide) (by decide) (by decide) (fun v_2711 h_2709 q_2710 => ?_)
        obtain ⟨lk_2713, n1_2714, rfl, K_2715, hn1_w_2712, f_2716, f_2717, f_2718, f_2719, f_2720, f_2721, f_2722, f_2723⟩ := q_2710
        show G h_2709 4 9 (mkF m 54 #[vi p, vi x1, vi x2, vi y1, vi y2, vi zz, vi 2, vi 2, vi w, vr o_2673, vr o_2683, .unset, .unset, .unset, .unset, .unset, .unset] [(.int (b2 (True)))])
        refine K.pop at_54 (pc' := 55) rfl rfl ?_
        refine K.iload at_55 (pc' := 57) rfl rfl ?_
        refine K.iconst at_57 (pc' := 58) rfl (z := 1) rfl ?_
        refine K.icmp_le at_58 (pc1 := 61) rfl (by decide) (pc2 := 71) (by decide) (a := 2) (b := 1) rfl rfl (fun c58 => ?_) (fun c58 => ?_)
        · exfalso; omega
        · refine K.aload at_61 (pc' := 63) rfl rfl rfl ?_
          refine K.iloadN at_63 (pc' := 64) rfl rfl ?_
          have sz_2724 : n0 ≤ h_2709.size := Nat.le_trans sz_2707 K_2715.1
          have f_2725 : Old Z n0 h_2709 := ((f_2695.keep K_2700 all0).keep K_2715 (allS ge_o_2673 all0))
          refine K.calls (argsL := [(.int x2)]) (rest := [(.ref o_2673)]) at_64 (pc' := 67) rfl (c_val l Z a0 hw n0 h_2709 (p := x2) (ca := ca) (cc := cc) sz_2724 f_2725 P3 P4 hbx) hw55 hw56 hw57 hw58 (by decide) pd_8 rfl rfl (W := 1) (by simp [Value.category]) (by decide) (by decide) (by decide) (by decide) (fun v_2728 h_2726 q_2727 => ?_)
          obtain ⟨w_2729, rfl, K_2730, f_2731, f_2732, f_2733⟩ := q_2727
          show G h_2726 5 10 (mkF m 67 #[vi p, vi x1, vi x2, vi y1, vi y2, vi zz, vi 2, vi 2, vi w, vr o_2673, vr o_2683, .unset, .unset, .unset, .unset, .unset, .unset] [(.ref w_2729), (.ref o_2673)])
          have f_2734 : Exa Z h_2726 o_2673 sC := ((f_2704.keep K_2715).keep K_2730)
          have f_2735 : Fld Z h_2726 o_2673 sC "last" dL (.ref lk_2713) := (f_2722.keep K_2730 nin0)
          have f_2736 : Fld Z h_2726 o_2673 sC "first" dL (.ref lk_2713) := (f_2721.keep K_2730 nin0)
          have f_2737 : Fld Z h_2726 o_2673 sC "size" "I" (.int n1_2714) := (f_2723.keep K_2730 nin0)
          have f_2738 : Fld Z h_2726 lk_2713 sL "element" "Ljava/lang/Object;" (.ref w_2699) := (f_2719.keep K_2730 nin0)
          have sz_2739 : n0 ≤ h_2726.size := Nat.le_trans sz_2724 K_2730.1
          have f_2740 : Exa Z h_2726 lk_2713 sL := (f_2718.keep K_2730)
          have ne_2741 : lk_2713 ≠ o_2673 := (Ne.symm (Nat.ne_of_lt (Nat.lt_of_lt_of_le x_o_2673.lt (Nat.le_trans (Nat.le_trans E_2685.1 K_2700.1) f_2716))))
          have f_2742 : Fld Z h_2726 lk_2713 sL "next" dL .null := (f_2720.keep K_2730 nin0)
          refine K.callv (z := (⟨sC, "add", "(Ljava/lang/Object;)Z"⟩ : MethodName)) (argsL := [(.ref w_2729)]) (rest := []) at_67 (pc' := 70) rfl (c_add1 l Z a0 hw n0 h_2726 (a := o_2673) (e := w_2729) (n := n1_2714) (f0 := lk_2713) (t := lk_2713) (te := w_2699) sz_2739 f_2734 ge_o_2673 f_2740 f_2717 ne_2741 f_2742 f_2738 f_2736 f_2735 f_2737 (by omega)) f_2734 hw62 hw63 (nf_sel hw65 rfl) hw65 hw64 hw3 hw66 (by decide) pd_9 rfl rfl (W := 0) (by simp [Value.category]) (by decide) (by decide) (by decide) (by decide) (fun v_2745 h_2743 q_2744 => ?_)
          obtain ⟨lk_2747, n1_2748, rfl, K_2749, hn1_w_2746, f_2750, f_2751, f_2752, f_2753, f_2754, f_2755, f_2756, f_2757, f_2758, f_2759⟩ := q_2744
          show G h_2743 6 12 (mkF m 70 #[vi p, vi x1, vi x2, vi y1, vi y2, vi zz, vi 2, vi 2, vi w, vr o_2673, vr o_2683, .unset, .unset, .unset, .unset, .unset, .unset] [(.int (b2 (True)))])
          refine K.pop at_70 (pc' := 71) rfl rfl ?_
          refine K.iload at_71 (pc' := 73) rfl rfl ?_
          refine K.if_le at_73 (pc1 := 76) rfl (by decide) (pc2 := 86) (by decide) (a := 2) rfl (fun c73 => ?_) (fun c73 => ?_)
          · exfalso; omega
          · refine K.aload at_76 (pc' := 78) rfl rfl rfl ?_
            refine K.iloadN at_78 (pc' := 79) rfl rfl ?_
            have sz_2760 : n0 ≤ h_2743.size := Nat.le_trans sz_2739 K_2749.1
            have f_2761 : Old Z n0 h_2743 := ((f_2725.keep K_2730 all0).keep K_2749 (allS ge_o_2673 (allS f_2717 all0)))
            refine K.calls (argsL := [(.int y1)]) (rest := [(.ref o_2683)]) at_79 (pc' := 82) rfl (c_val l Z a0 hw n0 h_2743 (p := y1) (ca := ca) (cc := cc) sz_2760 f_2761 P3 P4 hbx) hw55 hw56 hw57 hw58 (by decide) pd_8 rfl rfl (W := 1) (by simp [Value.category]) (by decide) (by decide) (by decide) (by decide) (fun v_2764 h_2762 q_2763 => ?_)
            obtain ⟨w_2765, rfl, K_2766, f_2767, f_2768, f_2769⟩ := q_2763
            show G h_2762 7 13 (mkF m 82 #[vi p, vi x1, vi x2, vi y1, vi y2, vi zz, vi 2, vi 2, vi w, vr o_2673, vr o_2683, .unset, .unset, .unset, .unset, .unset, .unset] [(.ref w_2765), (.ref o_2683)])
            have f_2770 : Exa Z h_2762 o_2683 sC := (((((x_o_2683.keep K_2700).keep K_2715).keep K_2730).keep K_2749).keep K_2766)
            have ne_2771 : o_2683 ≠ o_2673 := (Ne.symm (Nat.ne_of_lt (Nat.lt_of_lt_of_le x_o_2673.lt (Nat.le_trans (Nat.le_refl _) (Nat.le_of_eq g_o_2683.symm)))))
            have ne_2772 : o_2683 ≠ lk_2713 := (Nat.ne_of_lt (Nat.lt_of_lt_of_le x_o_2683.lt (Nat.le_trans K_2700.1 f_2716)))
            have f_2773 : Fld Z h_2762 o_2683 sC "last" dL .null := (((((f_2689.keep K_2700 nin0).keep K_2715 (ninS ne_2771 nin0)).keep K_2730 nin0).keep K_2749 (ninS ne_2771 (ninS ne_2772 nin0))).keep K_2766 nin0)
            have f_2774 : Fld Z h_2762 o_2683 sC "size" "I" (.int (0 : Int32)) := (((((f_2688.keep K_2700 nin0).keep K_2715 (ninS ne_2771 nin0)).keep K_2730 nin0).keep K_2749 (ninS ne_2771 (ninS ne_2772 nin0))).keep K_2766 nin0)
            have sz_2775 : n0 ≤ h_2762.size := Nat.le_trans sz_2760 K_2766.1
            have f_2776 : Fld Z h_2762 o_2683 sC "first" dL .null := (((((f_2687.keep K_2700 nin0).keep K_2715 (ninS ne_2771 nin0)).keep K_2730 nin0).keep K_2749 (ninS ne_2771 (ninS ne_2772 nin0))).keep K_2766 nin0)
            refine K.callv (z := (⟨sC, "add", "(Ljava/lang/Object;)Z"⟩ : MethodName)) (argsL := [(.ref w_2765)]) (rest := []) at_82 (pc' := 85) rfl (c_add0 l Z a0 hw n0 h_2762 (a := o_2683) (e := w_2765) (n := (0 : Int32)) sz_2775 f_2770 ge_o_2683 f_2776 f_2773 f_2774 (by first | decide | omega)) f_2770 hw62 hw63 (nf_sel hw65 rfl) hw65 hw64 hw3 hw66 (by decide) pd_9 rfl rfl (W := 0) (by simp [Value.category]) (by decide) (by decide) (by decide) (by decide) (fun v_2779 h_2777 q_2778 => ?_)
            obtain ⟨lk_2781, n1_2782, rfl, K_2783, hn1_w_2780, f_2784, f_2785, f_2786, f_2787, f_2788, f_2789, f_2790, f_2791⟩ := q_2778
            show G h_2777 8 15 (mkF m 85 #[vi p, vi x1, vi x2, vi y1, vi y2, vi zz, vi 2, vi 2, vi w, vr o_2673, vr o_2683, .unset, .unset, .unset, .unset, .unset, .unset] [(.int (b2 (True)))])
            refine K.pop at_85 (pc' := 86) rfl rfl ?_
            refine K.iload at_86 (pc' := 88) rfl rfl ?_
            refine K.iconst at_88 (pc' := 89) rfl (z := 1) rfl ?_
            refine K.icmp_le at_89 (pc1 := 92) rfl (by decide) (pc2 := 103) (by decide) (a := 2) (b := 1) rfl rfl (fun c89 => ?_) (fun c89 => ?_)
            · exfalso; omega
            · refine K.aload at_92 (pc' := 94) rfl rfl rfl ?_
              refine K.iload at_94 (pc' := 96) rfl rfl ?_
              have sz_2792 : n0 ≤ h_2777.size := Nat.le_trans sz_2775 K_2783.1
              have f_2793 : Old Z n0 h_2777 := ((f_2761.keep K_2766 all0).keep K_2783 (allS ge_o_2683 all0))
              refine K.calls (argsL := [(.int y2)]) (rest := [(.ref o_2683)]) at_96 (pc' := 99) rfl (c_val l Z a0 hw n0 h_2777 (p := y2) (ca := ca) (cc := cc) sz_2792 f_2793 P3 P4 hbx) hw55 hw56 hw57 hw58 (by decide) pd_8 rfl rfl (W := 1) (by simp [Value.category]) (by decide) (by decide) (by decide) (by decide) (fun v_2796 h_2794 q_2795 => ?_)
              obtain ⟨w_2797, rfl, K_2798, f_2799, f_2800, f_2801⟩ := q_2795
              show G h_2794 9 16 (mkF m 99 #[vi p, vi x1, vi x2, vi y1, vi y2, vi zz, vi 2, vi 2, vi w, vr o_2673, vr o_2683, .unset, .unset, .unset, .unset, .unset, .unset] [(.ref w_2797), (.ref o_2683)])
              have f_2802 : Exa Z h_2794 o_2683 sC := ((f_2770.keep K_2783).keep K_2798)
              have f_2803 : Fld Z h_2794 o_2683 sC "last" dL (.ref lk_2781) := (f_2790.keep K_2798 nin0)
              have f_2804 : Fld Z h_2794 o_2683 sC "first" dL (.ref lk_2781) := (f_2789.keep K_2798 nin0)
              have f_2805 : Fld Z h_2794 o_2683 sC "size" "I" (.int n1_2782) := (f_2791.keep K_2798 nin0)
              have f_2806 : Fld Z h_2794 lk_2781 sL "element" "Ljava/lang/Object;" (.ref w_2765) := (f_2787.keep K_2798 nin0)
              have sz_2807 : n0 ≤ h_2794.size := Nat.le_trans sz_2792 K_2798.1
              have f_2808 : Exa Z h_2794 lk_2781 sL := (f_2786.keep K_2798)
              have ne_2809 : lk_2781 ≠ o_2683 := (Ne.symm (Nat.ne_of_lt (Nat.lt_of_lt_of_le x_o_2683.lt (Nat.le_trans (Nat.le_trans K_2700.1 (Nat.le_trans K_2715.1 (Nat.le_trans K_2730.1 (Nat.le_trans K_2749.1 K_2766.1)))) f_2784))))
              have f_2810 : Fld Z h_2794 lk_2781 sL "next" dL .null := (f_2788.keep K_2798 nin0)
              refine K.callv (z := (⟨sC, "add", "(Ljava/lang/Object;)Z"⟩ : MethodName)) (argsL := [(.ref w_2797)]) (rest := []) at_99 (pc' := 102) rfl (c_add1 l Z a0 hw n0 h_2794 (a := o_2683) (e := w_2797) (n := n1_2782) (f0 := lk_2781) (t := lk_2781) (te := w_2765) sz_2807 f_2802 ge_o_2683 f_2808 f_2785 ne_2809 f_2810 f_2806 f_2804 f_2803 f_2805 (by omega)) f_2802 hw62 hw63 (nf_sel hw65 rfl) hw65 hw64 hw3 hw66 (by decide) pd_9 rfl rfl (W := 0) (by simp [Value.category]) (by decide) (by decide) (by decide) (by decide) (fun v_2813 h_2811 q_2812 => ?_)
              obtain ⟨lk_2815, n1_2816, rfl, K_2817, hn1_w_2814, f_2818, f_2819, f_2820, f_2821, f_2822, f_2823, f_2824, f_2825, f_2826, f_2827⟩ := q_2812
              show G h_2811 10 18 (mkF m 102 #[vi p, vi x1, vi x2, vi y1, vi y2, vi zz, vi 2, vi 2, vi w, vr o_2673, vr o_2683, .unset, .unset, .unset, .unset, .unset, .unset] [(.int (b2 (True)))])
              refine K.pop at_102 (pc' := 103) rfl rfl ?_
              refine K.aload at_103 (pc' := 105) rfl rfl rfl ?_
              refine K.aload at_105 (pc' := 107) rfl rfl rfl ?_
              have f_2828 : Exa Z h_2811 o_2673 sC := (((((f_2734.keep K_2749).keep K_2766).keep K_2783).keep K_2798).keep K_2817)
              have ne_2829 : o_2673 ≠ lk_2781 := (Nat.ne_of_lt (Nat.lt_of_lt_of_le x_o_2673.lt (Nat.le_trans (Nat.le_trans E_2685.1 (Nat.le_trans K_2700.1 (Nat.le_trans K_2715.1 (Nat.le_trans K_2730.1 (Nat.le_trans K_2749.1 K_2766.1))))) f_2784)))
              have f_2830 : Fld Z h_2811 o_2673 sC "last" dL (.ref lk_2747) := ((((f_2758.keep K_2766 nin0).keep K_2783 (ninS (Ne.symm ne_2771) nin0)).keep K_2798 nin0).keep K_2817 (ninS (Ne.symm ne_2771) (ninS ne_2829 nin0)))
              have f_2831 : Fld Z h_2811 o_2673 sC "first" dL (.ref lk_2713) := ((((f_2757.keep K_2766 nin0).keep K_2783 (ninS (Ne.symm ne_2771) nin0)).keep K_2798 nin0).keep K_2817 (ninS (Ne.symm ne_2771) (ninS ne_2829 nin0)))
              have f_2832 : Fld Z h_2811 o_2673 sC "size" "I" (.int n1_2748) := ((((f_2759.keep K_2766 nin0).keep K_2783 (ninS (Ne.symm ne_2771) nin0)).keep K_2798 nin0).keep K_2817 (ninS (Ne.symm ne_2771) (ninS ne_2829 nin0)))
              have ne_2833 : lk_2747 ≠ o_2683 := (Ne.symm (Nat.ne_of_lt (Nat.lt_of_lt_of_le x_o_2683.lt (Nat.le_trans (Nat.le_trans K_2700.1 (Nat.le_trans K_2715.1 K_2730.1)) f_2750))))
              have ne_2834 : lk_2747 ≠ lk_2781 := (Nat.ne_of_lt (Nat.lt_of_lt_of_le f_2752.lt (Nat.le_trans K_2766.1 f_2784)))
              have f_2835 : Fld Z h_2811 lk_2747 sL "element" "Ljava/lang/Object;" (.ref w_2729) := ((((f_2753.keep K_2766 nin0).keep K_2783 (ninS ne_2833 nin0)).keep K_2798 nin0).keep K_2817 (ninS ne_2833 (ninS ne_2834 nin0)))
              have f_2836 : Exa Z h_2811 o_2683 sC := (f_2802.keep K_2817)
              have f_2837 : Exa Z h_2811 lk_2747 sL := ((((f_2752.keep K_2766).keep K_2783).keep K_2798).keep K_2817)
              have ne_2838 : lk_2747 ≠ o_2673 := (Ne.symm (Nat.ne_of_lt (Nat.lt_of_lt_of_le x_o_2673.lt (Nat.le_trans (Nat.le_trans E_2685.1 (Nat.le_trans K_2700.1 (Nat.le_trans K_2715.1 K_2730.1))) f_2750))))
              have f_2839 : Fld Z h_2811 lk_2747 sL "next" dL .null := ((((f_2754.keep K_2766 nin0).keep K_2783 (ninS ne_2833 nin0)).keep K_2798 nin0).keep K_2817 (ninS ne_2833 (ninS ne_2834 nin0)))
              refine K.callv (z := (⟨sC, "moveAll", "(Lcom/example/quadrille/quadrille/formats/Chain;)V"⟩ : MethodName)) (argsL := [(.ref o_2683)]) (rest := []) at_107 (pc' := 110) rfl (c_mv1 l Z a0 hw n0 h_2811 (a := o_2673) (b := o_2683) (n := n1_2748) (k := n1_2816) (f0 := lk_2713) (t := lk_2747) (te := w_2729) (f1 := lk_2781) (l1 := lk_2815) f_2828 ge_o_2673 f_2836 ge_o_2683 (Ne.symm ne_2771) f_2837 f_2751 ne_2838 ne_2833 f_2839 f_2835 f_2831 f_2830 f_2832 f_2825 f_2826 f_2827 (by omega) (by omega)) f_2828 hw15 hw16 (nf_sel hw18 rfl) hw18 hw17 hw3 hw19 (by decide) pd_3 rfl rfl (W := 0) (by simp [Value.category]) (by decide) (by decide) (by decide) (by decide) (fun v_2842 h_2840 q_2841 => ?_)
              obtain ⟨n1_2844, rfl, K_2845, hn1_w_2843, f_2846, f_2847, f_2848, f_2849, f_2850, f_2851, f_2852, f_2853⟩ := q_2841
              show G h_2840 10 18 (mkF m 110 #[vi p, vi x1, vi x2, vi y1, vi y2, vi zz, vi 2, vi 2, vi w, vr o_2673, vr o_2683, .unset, .unset, .unset, .unset, .unset, .unset] [])
              refine K.aload at_110 (pc' := 112) rfl rfl rfl ?_
              have f_2854 : Exa Z h_2840 o_2673 sC := (f_2828.keep K_2845)
              refine K.callv (z := (⟨sC, "size", "()I"⟩ : MethodName)) (argsL := []) (rest := []) at_112 (pc' := 115) rfl (c_size l Z a0 hw n0 h_2840 (a := o_2673) (n := n1_2844) f_2854 f_2850) f_2854 hw22 hw23 (nf_sel hw25 rfl) hw25 hw24 hw3 hw26 (by decide) pd_6 rfl rfl (W := 0) (by simp [Value.category]) (by decide) (by decide) (by decide) (by decide) (fun v_2857 h_2855 q_2856 => ?_)
              obtain ⟨rfl, rfl⟩ := q_2856
              show G h_2840 10 18 (mkF m 115 #[vi p, vi x1, vi x2, vi y1, vi y2, vi zz, vi 2, vi 2, vi w, vr o_2673, vr o_2683, .unset, .unset, .unset, .unset, .unset, .unset] [(.int n1_2844)])
              refine K.iload at_115 (pc' := 117) rfl rfl ?_
              refine K.iload at_117 (pc' := 119) rfl rfl ?_
              refine K.iadd at_119 (pc' := 120) rfl (z := (4 : Int32)) (by decide) ?_
              refine K.icmp_ne at_120 (pc1 := 123) rfl (by decide) (pc2 := 148) (by decide) (a := n1_2844.toInt) (b := 4) rfl rfl (fun c120 => ?_) (fun c120 => ?_)
              · exfalso; have o0 : (0 : Int32).toInt = 0 := rfl; have o1 : (1 : Int32).toInt = 1 := rfl; have o2 : (2 : Int32).toInt = 2 := rfl; omega
              · refine K.aload at_123 (pc' := 125) rfl rfl rfl ?_
                have f_2859 : Exa Z h_2840 o_2683 sC := (f_2836.keep K_2845)
                refine K.callv (z := (⟨sC, "size", "()I"⟩ : MethodName)) (argsL := []) (rest := []) at_125 (pc' := 128) rfl (c_size l Z a0 hw n0 h_2840 (a := o_2683) (n := (0 : Int32)) f_2859 f_2853) f_2859 hw22 hw23 (nf_sel hw25 rfl) hw25 hw24 hw3 hw26 (by decide) pd_6 rfl rfl (W := 0) (by simp [Value.category]) (by decide) (by decide) (by decide) (by decide) (fun v_2862 h_2860 q_2861 => ?_)
                obtain ⟨rfl, rfl⟩ := q_2861
                show G h_2840 10 18 (mkF m 128 #[vi p, vi x1, vi x2, vi y1, vi y2, vi zz, vi 2, vi 2, vi w, vr o_2673, vr o_2683, .unset, .unset, .unset, .unset, .unset, .unset] [(.int (0 : Int32))])
                refine K.if_ne at_128 (pc1 := 131) rfl (by decide) (pc2 := 148) (by decide) (a := 0) rfl (fun c128 => ?_) (fun c128 => ?_)
                · exfalso; have o0 : (0 : Int32).toInt = 0 := rfl; have o1 : (1 : Int32).toInt = 1 := rfl; have o2 : (2 : Int32).toInt = 2 := rfl; omega
                · refine K.aload at_131 (pc' := 133) rfl rfl rfl ?_
                  have sz_2864 : n0 ≤ h_2840.size := Nat.le_trans sz_2807 (Nat.le_trans K_2817.1 K_2845.1)
                  refine K.callv (z := (⟨sC, "iterator", "()Ljava/util/Iterator;"⟩ : MethodName)) (argsL := []) (rest := []) at_133 (pc' := 136) rfl (c_it0 l Z a0 hw n0 h_2840 (b := o_2683) sz_2864 f_2859 f_2851) f_2859 hw29 hw30 (nf_sel hw32 rfl) hw32 hw31 hw3 hw33 (by decide) pd_7 rfl rfl (W := 0) (by simp [Value.category]) (by decide) (by decide) (by decide) (by decide) (fun v_2867 h_2865 q_2866 => ?_)
                  obtain ⟨w_2868, rfl, K_2869, f_2870, f_2871, f_2872, f_2873⟩ := q_2866
                  show G h_2865 11 20 (mkF m 136 #[vi p, vi x1, vi x2, vi y1, vi y2, vi zz, vi 2, vi 2, vi w, vr o_2673, vr o_2683, .unset, .unset, .unset, .unset, .unset, .unset] [(.ref w_2868)])
                  refine K.calli (z := (⟨sI, "hasNext", "()Z"⟩ : MethodName)) (argsL := []) (rest := []) at_136 (pc' := 141) rfl (c_has0 l Z a0 hw n0 h_2865 (a := w_2868) f_2872 f_2873) f_2872 hw46 hw47 hw48 rfl hw49 hw50 hw51 hw52 hw53 hw36 hw54 (by decide) pd_4 rfl rfl (W := 0) (by simp [Value.category]) (by decide) (by decide) (by decide) (by decide) (fun v_2876 h_2874 q_2875 => ?_)
                  obtain ⟨rfl, rfl⟩ := q_2875
                  show G h_2865 11 20 (mkF m 141 #[vi p, vi x1, vi x2, vi y1, vi y2, vi zz, vi 2, vi 2, vi w, vr o_2673, vr o_2683, .unset, .unset, .unset, .unset, .unset, .unset] [(.int (b2 (False)))])
                  refine K.ifneB at_141 (pc1 := 144) rfl (by decide) (pc2 := 148) (by decide) (fun c141 => ?_) (fun c141 => ?_)
                  · exfalso; exact c141
                  · refine K.iconst at_144 (pc' := 145) rfl (z := 1) rfl ?_
                    refine K.goto at_145 (by decide) (pc' := 149) (by decide) ?_
                    refine K.istore at_149 (pc' := 151) rfl (L' := #[vi p, vi x1, vi x2, vi y1, vi y2, vi zz, vi 2, vi 2, vi w, vr o_2673, vr o_2683, vi 1, .unset, .unset, .unset, .unset, .unset]) rfl ?_
                    refine K.aload at_151 (pc' := 153) rfl rfl rfl ?_
                    refine K.iload at_153 (pc' := 155) rfl rfl ?_
                    have sz_2878 : n0 ≤ h_2865.size := Nat.le_trans sz_2864 K_2869.1
                    have f_2879 : Old Z n0 h_2865 := ((((f_2793.keep K_2798 all0).keep K_2817 (allS ge_o_2683 (allS f_2785 all0))).keep K_2845 (allS ge_o_2673 (allS ge_o_2683 (allS f_2751 all0)))).keep K_2869 all0)
                    refine K.calls (argsL := [(.int zz)]) (rest := [(.ref o_2673)]) at_155 (pc' := 158) rfl (c_val l Z a0 hw n0 h_2865 (p := zz) (ca := ca) (cc := cc) sz_2878 f_2879 P3 P4 hbx) hw55 hw56 hw57 hw58 (by decide) pd_8 rfl rfl (W := 1) (by simp [Value.category]) (by decide) (by decide) (by decide) (by decide) (fun v_2882 h_2880 q_2881 => ?_)
                    obtain ⟨w_2883, rfl, K_2884, f_2885, f_2886, f_2887⟩ := q_2881
                    show G h_2880 12 21 (mkF m 158 #[vi p, vi x1, vi x2, vi y1, vi y2, vi zz, vi 2, vi 2, vi w, vr o_2673, vr o_2683, vi 1, .unset, .unset, .unset, .unset, .unset] [(.ref w_2883), (.ref o_2673)])
                    have f_2888 : Exa Z h_2880 o_2673 sC := ((f_2854.keep K_2869).keep K_2884)
                    have f_2889 : Fld Z h_2880 o_2673 sC "last" dL (.ref lk_2815) := ((f_2849.keep K_2869 nin0).keep K_2884 nin0)
                    have f_2890 : Fld Z h_2880 o_2673 sC "first" dL (.ref lk_2713) := ((f_2848.keep K_2869 nin0).keep K_2884 nin0)
                    have f_2891 : Fld Z h_2880 o_2673 sC "size" "I" (.int n1_2844) := ((f_2850.keep K_2869 nin0).keep K_2884 nin0)
                    have ne_2892 : lk_2815 ≠ lk_2747 := (Ne.symm (Nat.ne_of_lt (Nat.lt_of_lt_of_le f_2752.lt (Nat.le_trans (Nat.le_trans K_2766.1 (Nat.le_trans K_2783.1 K_2798.1)) f_2818))))
                    have ne_2893 : lk_2815 ≠ o_2683 := (Ne.symm (Nat.ne_of_lt (Nat.lt_of_lt_of_le x_o_2683.lt (Nat.le_trans (Nat.le_trans K_2700.1 (Nat.le_trans K_2715.1 (Nat.le_trans K_2730.1 (Nat.le_trans K_2749.1 (Nat.le_trans K_2766.1 (Nat.le_trans K_2783.1 K_2798.1)))))) f_2818))))
                    have ne_2894 : lk_2815 ≠ o_2673 := (Ne.symm (Nat.ne_of_lt (Nat.lt_of_lt_of_le x_o_2673.lt (Nat.le_trans (Nat.le_trans E_2685.1 (Nat.le_trans K_2700.1 (Nat.le_trans K_2715.1 (Nat.le_trans K_2730.1 (Nat.le_trans K_2749.1 (Nat.le_trans K_2766.1 (Nat.le_trans K_2783.1 K_2798.1))))))) f_2818))))
                    have f_2895 : Fld Z h_2880 lk_2815 sL "element" "Ljava/lang/Object;" (.ref w_2797) := (((f_2821.keep K_2845 (ninS ne_2894 (ninS ne_2893 (ninS ne_2892 nin0)))).keep K_2869 nin0).keep K_2884 nin0)
                    have sz_2896 : n0 ≤ h_2880.size := Nat.le_trans sz_2878 K_2884.1
                    have f_2897 : Exa Z h_2880 lk_2815 sL := (((f_2820.keep K_2845).keep K_2869).keep K_2884)
                    have f_2898 : Fld Z h_2880 lk_2815 sL "next" dL .null := (((f_2822.keep K_2845 (ninS ne_2894 (ninS ne_2893 (ninS ne_2892 nin0)))).keep K_2869 nin0).keep K_2884 nin0)
                    refine K.callv (z := (⟨sC, "add", "(Ljava/lang/Object;)Z"⟩ : MethodName)) (argsL := [(.ref w_2883)]) (rest := []) at_158 (pc' := 161) rfl (c_add1 l Z a0 hw n0 h_2880 (a := o_2673) (e := w_2883) (n := n1_2844) (f0 := lk_2713) (t := lk_2815) (te := w_2797) sz_2896 f_2888 ge_o_2673 f_2897 f_2819 ne_2894 f_2898 f_2895 f_2890 f_2889 f_2891 (by omega)) f_2888 hw62 hw63 (nf_sel hw65 rfl) hw65 hw64 hw3 hw66 (by decide) pd_9 rfl rfl (W := 0) (by simp [Value.category]) (by decide) (by decide) (by decide) (by decide) (fun v_2901 h_2899 q_2900 => ?_)
                    obtain ⟨lk_2903, n1_2904, rfl, K_2905, hn1_w_2902, f_2906, f_2907, f_2908, f_2909, f_2910, f_2911, f_2912, f_2913, f_2914, f_2915⟩ := q_2900
                    show G h_2899 13 23 (mkF m 161 #[vi p, vi x1, vi x2, vi y1, vi y2, vi zz, vi 2, vi 2, vi w, vr o_2673, vr o_2683, vi 1, .unset, .unset, .unset, .unset, .unset] [(.int (b2 (True)))])
                    refine K.pop at_161 (pc' := 162) rfl rfl ?_
                    refine K.aload at_162 (pc' := 164) rfl rfl rfl ?_
                    refine K.iload at_164 (pc' := 166) rfl rfl ?_
                    have sz_2916 : n0 ≤ h_2899.size := Nat.le_trans sz_2896 K_2905.1
                    have f_2917 : Old Z n0 h_2899 := ((f_2879.keep K_2884 all0).keep K_2905 (allS ge_o_2673 (allS f_2819 all0)))
                    refine K.calls (argsL := [(.int w)]) (rest := [(.ref o_2683)]) at_166 (pc' := 169) rfl (c_val l Z a0 hw n0 h_2899 (p := w) (ca := ca) (cc := cc) sz_2916 f_2917 P3 P4 hbx) hw55 hw56 hw57 hw58 (by decide) pd_8 rfl rfl (W := 1) (by simp [Value.category]) (by decide) (by decide) (by decide) (by decide) (fun v_2920 h_2918 q_2919 => ?_)
                    obtain ⟨w_2921, rfl, K_2922, f_2923, f_2924, f_2925⟩ := q_2919
                    show G h_2918 14 24 (mkF m 169 #[vi p, vi x1, vi x2, vi y1, vi y2, vi zz, vi 2, vi 2, vi w, vr o_2673, vr o_2683, vi 1, .unset, .unset, .unset, .unset, .unset] [(.ref w_2921), (.ref o_2683)])
                    have f_2926 : Exa Z h_2918 o_2683 sC := ((((f_2859.keep K_2869).keep K_2884).keep K_2905).keep K_2922)
                    have f_2927 : Fld Z h_2918 o_2683 sC "last" dL .null := ((((f_2852.keep K_2869 nin0).keep K_2884 nin0).keep K_2905 (ninS ne_2771 (ninS (Ne.symm ne_2893) nin0))).keep K_2922 nin0)
                    have f_2928 : Fld Z h_2918 o_2683 sC "size" "I" (.int (0 : Int32)) := ((((f_2853.keep K_2869 nin0).keep K_2884 nin0).keep K_2905 (ninS ne_2771 (ninS (Ne.symm ne_2893) nin0))).keep K_2922 nin0)
                    have sz_2929 : n0 ≤ h_2918.size := Nat.le_trans sz_2916 K_2922.1
                    have f_2930 : Fld Z h_2918 o_2683 sC "first" dL .null := ((((f_2851.keep K_2869 nin0).keep K_2884 nin0).keep K_2905 (ninS ne_2771 (ninS (Ne.symm ne_2893) nin0))).keep K_2922 nin0)
                    refine K.callv (z := (⟨sC, "add", "(Ljava/lang/Object;)Z"⟩ : MethodName)) (argsL := [(.ref w_2921)]) (rest := []) at_169 (pc' := 172) rfl (c_add0 l Z a0 hw n0 h_2918 (a := o_2683) (e := w_2921) (n := (0 : Int32)) sz_2929 f_2926 ge_o_2683 f_2930 f_2927 f_2928 (by first | decide | omega)) f_2926 hw62 hw63 (nf_sel hw65 rfl) hw65 hw64 hw3 hw66 (by decide) pd_9 rfl rfl (W := 0) (by simp [Value.category]) (by decide) (by decide) (by decide) (by decide) (fun v_2933 h_2931 q_2932 => ?_)
                    obtain ⟨lk_2935, n1_2936, rfl, K_2937, hn1_w_2934, f_2938, f_2939, f_2940, f_2941, f_2942, f_2943, f_2944, f_2945⟩ := q_2932
                    show G h_2931 15 26 (mkF m 172 #[vi p, vi x1, vi x2, vi y1, vi y2, vi zz, vi 2, vi 2, vi w, vr o_2673, vr o_2683, vi 1, .unset, .unset, .unset, .unset, .unset] [(.int (b2 (True)))])
                    refine K.pop at_172 (pc' := 173) rfl rfl ?_
                    refine K.iload at_173 (pc' := 175) rfl rfl ?_
                    refine K.if_eq at_175 (pc1 := 178) rfl (by decide) (pc2 := 206) (by decide) (a := 1) rfl (fun c175 => ?_) (fun c175 => ?_)
                    · exfalso; omega
                    · refine K.aload at_178 (pc' := 180) rfl rfl rfl ?_
                      have f_2946 : Exa Z h_2931 o_2673 sC := (((f_2888.keep K_2905).keep K_2922).keep K_2937)
                      have f_2947 : Fld Z h_2931 o_2673 sC "size" "I" (.int n1_2904) := ((f_2915.keep K_2922 nin0).keep K_2937 (ninS (Ne.symm ne_2771) nin0))
                      refine K.callv (z := (⟨sC, "size", "()I"⟩ : MethodName)) (argsL := []) (rest := []) at_180 (pc' := 183) rfl (c_size l Z a0 hw n0 h_2931 (a := o_2673) (n := n1_2904) f_2946 f_2947) f_2946 hw22 hw23 (nf_sel hw25 rfl) hw25 hw24 hw3 hw26 (by decide) pd_6 rfl rfl (W := 0) (by simp [Value.category]) (by decide) (by decide) (by decide) (by decide) (fun v_2950 h_2948 q_2949 => ?_)
                      obtain ⟨rfl, rfl⟩ := q_2949
                      show G h_2931 15 26 (mkF m 183 #[vi p, vi x1, vi x2, vi y1, vi y2, vi zz, vi 2, vi 2, vi w, vr o_2673, vr o_2683, vi 1, .unset, .unset, .unset, .unset, .unset] [(.int n1_2904)])
                      refine K.iload at_183 (pc' := 185) rfl rfl ?_
                      refine K.iload at_185 (pc' := 187) rfl rfl ?_
                      refine K.iadd at_187 (pc' := 188) rfl (z := (4 : Int32)) (by decide) ?_
                      refine K.iconst at_188 (pc' := 189) rfl (z := 1) rfl ?_
                      refine K.iadd at_189 (pc' := 190) rfl (z := (5 : Int32)) (by decide) ?_
                      refine K.icmp_ne at_190 (pc1 := 193) rfl (by decide) (pc2 := 206) (by decide) (a := n1_2904.toInt) (b := 5) rfl rfl (fun c190 => ?_) (fun c190 => ?_)
                      · exfalso; have o0 : (0 : Int32).toInt = 0 := rfl; have o1 : (1 : Int32).toInt = 1 := rfl; have o2 : (2 : Int32).toInt = 2 := rfl; omega
                      · refine K.aload at_193 (pc' := 195) rfl rfl rfl ?_
                        have f_2952 : Exa Z h_2931 o_2683 sC := (f_2926.keep K_2937)
                        refine K.callv (z := (⟨sC, "size", "()I"⟩ : MethodName)) (argsL := []) (rest := []) at_195 (pc' := 198) rfl (c_size l Z a0 hw n0 h_2931 (a := o_2683) (n := n1_2936) f_2952 f_2945) f_2952 hw22 hw23 (nf_sel hw25 rfl) hw25 hw24 hw3 hw26 (by decide) pd_6 rfl rfl (W := 0) (by simp [Value.category]) (by decide) (by decide) (by decide) (by decide) (fun v_2955 h_2953 q_2954 => ?_)
                        obtain ⟨rfl, rfl⟩ := q_2954
                        show G h_2931 15 26 (mkF m 198 #[vi p, vi x1, vi x2, vi y1, vi y2, vi zz, vi 2, vi 2, vi w, vr o_2673, vr o_2683, vi 1, .unset, .unset, .unset, .unset, .unset] [(.int n1_2936)])
                        refine K.iconst at_198 (pc' := 199) rfl (z := 1) rfl ?_
                        refine K.icmp_ne at_199 (pc1 := 202) rfl (by decide) (pc2 := 206) (by decide) (a := n1_2936.toInt) (b := 1) rfl rfl (fun c199 => ?_) (fun c199 => ?_)
                        · exfalso; have o0 : (0 : Int32).toInt = 0 := rfl; have o1 : (1 : Int32).toInt = 1 := rfl; have o2 : (2 : Int32).toInt = 2 := rfl; omega
                        · refine K.iconst at_202 (pc' := 203) rfl (z := 1) rfl ?_
                          refine K.goto at_203 (by decide) (pc' := 207) (by decide) ?_
                          refine K.istore at_207 (pc' := 209) rfl (L' := #[vi p, vi x1, vi x2, vi y1, vi y2, vi zz, vi 2, vi 2, vi w, vr o_2673, vr o_2683, vi 1, .unset, .unset, .unset, .unset, .unset]) rfl ?_
                          refine K.aload at_209 (pc' := 211) rfl rfl rfl ?_
                          have sz_2957 : n0 ≤ h_2931.size := Nat.le_trans sz_2929 K_2937.1
                          refine K.callv (z := (⟨sC, "iterator", "()Ljava/util/Iterator;"⟩ : MethodName)) (argsL := []) (rest := []) at_211 (pc' := 214) rfl (c_it1 l Z a0 hw n0 h_2931 (b := o_2683) (x := lk_2935) sz_2957 f_2952 f_2943) f_2952 hw29 hw30 (nf_sel hw32 rfl) hw32 hw31 hw3 hw33 (by decide) pd_7 rfl rfl (W := 0) (by simp [Value.category]) (by decide) (by decide) (by decide) (by decide) (fun v_2960 h_2958 q_2959 => ?_)
                          obtain ⟨w_2961, rfl, K_2962, f_2963, f_2964, f_2965, f_2966⟩ := q_2959
                          show G h_2958 16 28 (mkF m 214 #[vi p, vi x1, vi x2, vi y1, vi y2, vi zz, vi 2, vi 2, vi w, vr o_2673, vr o_2683, vi 1, .unset, .unset, .unset, .unset, .unset] [(.ref w_2961)])
                          refine K.astore at_214 (pc' := 216) rfl rfl (L' := #[vi p, vi x1, vi x2, vi y1, vi y2, vi zz, vi 2, vi 2, vi w, vr o_2673, vr o_2683, vi 1, vr w_2961, .unset, .unset, .unset, .unset]) rfl ?_
                          refine K.iload at_216 (pc' := 218) rfl rfl ?_
                          refine K.if_eq at_218 (pc1 := 221) rfl (by decide) (pc2 := 246) (by decide) (a := 1) rfl (fun c218 => ?_) (fun c218 => ?_)
                          · exfalso; omega
                          · refine K.aload at_221 (pc' := 223) rfl rfl rfl ?_
                            refine K.iconst at_223 (pc' := 224) rfl (z := 1) rfl ?_
                            refine K.iload at_224 (pc' := 226) rfl rfl ?_
                            have f_2967 : Fld Z h_2958 lk_2935 sL "next" dL .null := (f_2942.keep K_2962 nin0)
                            have f_2968 : Fld Z h_2958 lk_2935 sL "element" "Ljava/lang/Object;" (.ref w_2921) := (f_2941.keep K_2962 nin0)
                            have ne_2969 : w_2921 ≠ o_2683 := (f_2925.elim (fun q => Nat.ne_of_lt (Nat.lt_of_lt_of_le q ge_o_2683)) (fun q => Nat.ne_of_gt (Nat.lt_of_lt_of_le x_o_2683.lt (Nat.le_trans (Nat.le_trans K_2700.1 (Nat.le_trans K_2715.1 (Nat.le_trans K_2730.1 (Nat.le_trans K_2749.1 (Nat.le_trans K_2766.1 (Nat.le_trans K_2783.1 (Nat.le_trans K_2798.1 (Nat.le_trans K_2817.1 (Nat.le_trans K_2845.1 (Nat.le_trans K_2869.1 (Nat.le_trans K_2884.1 K_2905.1))))))))))) q))))
                            have f_2970 : Fld Z h_2958 w_2921 sN "value" "I" (.int w) := ((f_2924.keep K_2937 (ninS ne_2969 nin0)).keep K_2962 nin0)
                            have f_2971 : Exa Z h_2958 lk_2935 sL := (f_2940.keep K_2962)
                            have ne_2972 : lk_2935 ≠ w_2961 := (Nat.ne_of_lt (Nat.lt_of_lt_of_le f_2940.lt (Nat.le_trans (Nat.le_refl _) f_2963)))
                            have ne_2973 : w_2921 ≠ w_2961 := (Nat.ne_of_lt (Nat.lt_of_lt_of_le f_2923.lt (Nat.le_trans K_2937.1 f_2963)))
                            have f_2974 : Exa Z h_2958 w_2921 sN := ((f_2923.keep K_2937).keep K_2962)
                            refine K.calls (argsL := [(.ref w_2961), (.int (1 : Int32)), (.int w)]) (rest := []) at_226 (pc' := 229) rfl (c_st10 l Z a0 hw n0 h_2958 (a := w_2961) (e := w) (lk := lk_2935) (b := w_2921) (v0 := w) f_2965 f_2964 f_2966 f_2971 ne_2972 f_2968 f_2967 ne_2973 f_2974 f_2970) hw78 hw79 hw80 hw81 (by decide) pd_10 rfl rfl (W := 0) (by simp [Value.category]) (by decide) (by decide) (by decide) (by decide) (fun v_2977 h_2975 q_2976 => ?_)
                            obtain ⟨rfl, K_2979, f_2980⟩ := q_2976
                            show G h_2975 16 28 (mkF m 229 #[vi p, vi x1, vi x2, vi y1, vi y2, vi zz, vi 2, vi 2, vi w, vr o_2673, vr o_2683, vi 1, vr w_2961, .unset, .unset, .unset, .unset] [(.int (b2 (w.toInt = w.toInt)))])
                            refine K.ifeqB at_229 (pc1 := 232) rfl (by decide) (pc2 := 246) (by decide) (fun c229 => ?_) (fun c229 => ?_)
                            · exfalso; first | exact c229 rfl | exact c229 trivial
                            · refine K.aload at_232 (pc' := 234) rfl rfl rfl ?_
                              have f_2981 : Exa Z h_2975 w_2961 sI := (f_2965.keep K_2979)
                              refine K.calli (z := (⟨sI, "hasNext", "()Z"⟩ : MethodName)) (argsL := []) (rest := []) at_234 (pc' := 239) rfl (c_has0 l Z a0 hw n0 h_2975 (a := w_2961) f_2981 f_2980) f_2981 hw46 hw47 hw48 rfl hw49 hw50 hw51 hw52 hw53 hw36 hw54 (by decide) pd_4 rfl rfl (W := 0) (by simp [Value.category]) (by decide) (by decide) (by decide) (by decide) (fun v_2984 h_2982 q_2983 => ?_)
                              obtain ⟨rfl, rfl⟩ := q_2983
                              show G h_2975 16 28 (mkF m 239 #[vi p, vi x1, vi x2, vi y1, vi y2, vi zz, vi 2, vi 2, vi w, vr o_2673, vr o_2683, vi 1, vr w_2961, .unset, .unset, .unset, .unset] [(.int (b2 (False)))])
                              refine K.ifneB at_239 (pc1 := 242) rfl (by decide) (pc2 := 246) (by decide) (fun c239 => ?_) (fun c239 => ?_)
                              · exfalso; exact c239
                              · refine K.iconst at_242 (pc' := 243) rfl (z := 1) rfl ?_
                                refine K.goto at_243 (by decide) (pc' := 247) (by decide) ?_
                                refine K.istore at_247 (pc' := 249) rfl (L' := #[vi p, vi x1, vi x2, vi y1, vi y2, vi zz, vi 2, vi 2, vi w, vr o_2673, vr o_2683, vi 1, vr w_2961, .unset, .unset, .unset, .unset]) rfl ?_
                                refine K.iconst at_249 (pc' := 250) rfl (z := 5) rfl ?_
                                refine K.newa at_250 (pc' := 252) rfl hw102 (k := 5) (cap := 5) rfl (by decide) (by decide) (by decide) (by decide) (ad := "[I") (by decide) (fun h_2987 a_2986 g_a_2986 E_2988 A_2989 x_a_2986 => ?_)
                                have sz_2990 : n0 ≤ h_2975.size := Nat.le_trans sz_2957 (Nat.le_trans K_2962.1 K_2979.1)
                                have ge_a_2986 : n0 ≤ a_2986 := g_a_2986 ▸ sz_2990
                                have A_2991 : Ary Z h_2987 a_2986 .int [(.int (0 : Int32)), (.int (0 : Int32)), (.int (0 : Int32)), (.int (0 : Int32)), (.int (0 : Int32))] := A_2989
                                refine K.astore at_252 (pc' := 254) rfl rfl (L' := #[vi p, vi x1, vi x2, vi y1, vi y2, vi zz, vi 2, vi 2, vi w, vr o_2673, vr o_2683, vi 1, vr w_2961, vr a_2986, .unset, .unset, .unset]) rfl ?_
                                refine K.iconst at_254 (pc' := 255) rfl (z := 0) rfl ?_
                                refine K.istore at_255 (pc' := 257) rfl (L' := #[vi p, vi x1, vi x2, vi y1, vi y2, vi zz, vi 2, vi 2, vi w, vr o_2673, vr o_2683, vi 1, vr w_2961, vr a_2986, vi 0, .unset, .unset]) rfl ?_
                                refine K.iload at_257 (pc' := 259) rfl rfl ?_
                                refine K.if_le at_259 (pc1 := 262) rfl (by decide) (pc2 := 271) (by decide) (a := 2) rfl (fun c259 => ?_) (fun c259 => ?_)
                                · exfalso; omega
                                · refine K.aload at_262 (pc' := 264) rfl rfl rfl ?_
                                  refine K.iload at_264 (pc' := 266) rfl rfl ?_
                                  refine K.iloadN at_266 (pc' := 267) rfl rfl ?_
                                  refine K.iast at_267 (pc' := 268) rfl A_2991 (i := 0) rfl (show 0 < 5 by decide) ge_a_2986 (fun h_2992 W_2993 A_2994 => ?_)
                                  have A_2995 : Ary Z h_2992 a_2986 .int [(.int x1), (.int (0 : Int32)), (.int (0 : Int32)), (.int (0 : Int32)), (.int (0 : Int32))] := A_2994
                                  refine K.iinc at_268 (pc' := 271) rfl rfl (z := (1 : Int32)) rfl (L' := #[vi p, vi x1, vi x2, vi y1, vi y2, vi zz, vi 2, vi 2, vi w, vr o_2673, vr o_2683, vi 1, vr w_2961, vr a_2986, vi 1, .unset, .unset]) rfl ?_
                                  refine K.iload at_271 (pc' := 273) rfl rfl ?_
                                  refine K.iconst at_273 (pc' := 274) rfl (z := 1) rfl ?_
                                  refine K.icmp_le at_274 (pc1 := 277) rfl (by decide) (pc2 := 286) (by decide) (a := 2) (b := 1) rfl rfl (fun c274 => ?_) (fun c274 => ?_)
                                  · exfalso; omega
                                  · refine K.aload at_277 (pc' := 279) rfl rfl rfl ?_
                                    refine K.iload at_279 (pc' := 281) rfl rfl ?_
                                    refine K.iloadN at_281 (pc' := 282) rfl rfl ?_
                                    refine K.iast at_282 (pc' := 283) rfl A_2995 (i := 1) rfl (show 1 < 5 by decide) ge_a_2986 (fun h_2996 W_2997 A_2998 => ?_)
                                    have A_2999 : Ary Z h_2996 a_2986 .int [(.int x1), (.int x2), (.int (0 : Int32)), (.int (0 : Int32)), (.int (0 : Int32))] := A_2998
                                    refine K.iinc at_283 (pc' := 286) rfl rfl (z := (2 : Int32)) rfl (L' := #[vi p, vi x1, vi x2, vi y1, vi y2, vi zz, vi 2, vi 2, vi w, vr o_2673, vr o_2683, vi 1, vr w_2961, vr a_2986, vi 2, .unset, .unset]) rfl ?_
                                    refine K.iload at_286 (pc' := 288) rfl rfl ?_
                                    refine K.if_le at_288 (pc1 := 291) rfl (by decide) (pc2 := 300) (by decide) (a := 2) rfl (fun c288 => ?_) (fun c288 => ?_)
                                    · exfalso; omega
                                    · refine K.aload at_291 (pc' := 293) rfl rfl rfl ?_
                                      refine K.iload at_293 (pc' := 295) rfl rfl ?_
                                      refine K.iloadN at_295 (pc' := 296) rfl rfl ?_
                                      refine K.iast at_296 (pc' := 297) rfl A_2999 (i := 2) rfl (show 2 < 5 by decide) ge_a_2986 (fun h_3000 W_3001 A_3002 => ?_)
                                      have A_3003 : Ary Z h_3000 a_2986 .int [(.int x1), (.int x2), (.int y1), (.int (0 : Int32)), (.int (0 : Int32))] := A_3002
                                      refine K.iinc at_297 (pc' := 300) rfl rfl (z := (3 : Int32)) rfl (L' := #[vi p, vi x1, vi x2, vi y1, vi y2, vi zz, vi 2, vi 2, vi w, vr o_2673, vr o_2683, vi 1, vr w_2961, vr a_2986, vi 3, .unset, .unset]) rfl ?_
                                      refine K.iload at_300 (pc' := 302) rfl rfl ?_
                                      refine K.iconst at_302 (pc' := 303) rfl (z := 1) rfl ?_
                                      refine K.icmp_le at_303 (pc1 := 306) rfl (by decide) (pc2 := 316) (by decide) (a := 2) (b := 1) rfl rfl (fun c303 => ?_) (fun c303 => ?_)
                                      · exfalso; omega
                                      · refine K.aload at_306 (pc' := 308) rfl rfl rfl ?_
                                        refine K.iload at_308 (pc' := 310) rfl rfl ?_
                                        refine K.iload at_310 (pc' := 312) rfl rfl ?_
                                        refine K.iast at_312 (pc' := 313) rfl A_3003 (i := 3) rfl (show 3 < 5 by decide) ge_a_2986 (fun h_3004 W_3005 A_3006 => ?_)
                                        have A_3007 : Ary Z h_3004 a_2986 .int [(.int x1), (.int x2), (.int y1), (.int y2), (.int (0 : Int32))] := A_3006
                                        refine K.iinc at_313 (pc' := 316) rfl rfl (z := (4 : Int32)) rfl (L' := #[vi p, vi x1, vi x2, vi y1, vi y2, vi zz, vi 2, vi 2, vi w, vr o_2673, vr o_2683, vi 1, vr w_2961, vr a_2986, vi 4, .unset, .unset]) rfl ?_
                                        refine K.aload at_316 (pc' := 318) rfl rfl rfl ?_
                                        refine K.iload at_318 (pc' := 320) rfl rfl ?_
                                        refine K.iload at_320 (pc' := 322) rfl rfl ?_
                                        refine K.iast at_322 (pc' := 323) rfl A_3007 (i := 4) rfl (show 4 < 5 by decide) ge_a_2986 (fun h_3008 W_3009 A_3010 => ?_)
                                        have A_3011 : Ary Z h_3008 a_2986 .int [(.int x1), (.int x2), (.int y1), (.int y2), (.int zz)] := A_3010
                                        refine K.iinc at_323 (pc' := 326) rfl rfl (z := (5 : Int32)) rfl (L' := #[vi p, vi x1, vi x2, vi y1, vi y2, vi zz, vi 2, vi 2, vi w, vr o_2673, vr o_2683, vi 1, vr w_2961, vr a_2986, vi 5, .unset, .unset]) rfl ?_
                                        refine K.iload at_326 (pc' := 328) rfl rfl ?_
                                        refine K.istore at_328 (pc' := 330) rfl (L' := #[vi p, vi x1, vi x2, vi y1, vi y2, vi zz, vi 2, vi 2, vi w, vr o_2673, vr o_2683, vi 1, vr w_2961, vr a_2986, vi 5, vi 5, .unset]) rfl ?_
                                        refine K.aload at_330 (pc' := 332) rfl rfl rfl ?_
                                        have f_3012 : Exa Z h_3008 o_2673 sC := ((((((((f_2946.keep K_2962).keep K_2979).ext E_2988).wr W_2993).wr W_2997).wr W_3001).wr W_3005).wr W_3009)
                                        have ne_3013 : o_2673 ≠ w_2961 := (Nat.ne_of_lt (Nat.lt_of_lt_of_le x_o_2673.lt (Nat.le_trans (Nat.le_trans E_2685.1 (Nat.le_trans K_2700.1 (Nat.le_trans K_2715.1 (Nat.le_trans K_2730.1 (Nat.le_trans K_2749.1 (Nat.le_trans K_2766.1 (Nat.le_trans K_2783.1 (Nat.le_trans K_2798.1 (Nat.le_trans K_2817.1 (Nat.le_trans K_2845.1 (Nat.le_trans K_2869.1 (Nat.le_trans K_2884.1 (Nat.le_trans K_2905.1 (Nat.le_trans K_2922.1 K_2937.1)))))))))))))) f_2963)))
                                        have ne_3014 : o_2673 ≠ a_2986 := (Nat.ne_of_lt (Nat.lt_of_lt_of_le x_o_2673.lt (Nat.le_trans (Nat.le_trans E_2685.1 (Nat.le_trans K_2700.1 (Nat.le_trans K_2715.1 (Nat.le_trans K_2730.1 (Nat.le_trans K_2749.1 (Nat.le_trans K_2766.1 (Nat.le_trans K_2783.1 (Nat.le_trans K_2798.1 (Nat.le_trans K_2817.1 (Nat.le_trans K_2845.1 (Nat.le_trans K_2869.1 (Nat.le_trans K_2884.1 (Nat.le_trans K_2905.1 (Nat.le_trans K_2922.1 (Nat.le_trans K_2937.1 (Nat.le_trans K_2962.1 K_2979.1)))))))))))))))) (Nat.le_of_eq g_a_2986.symm))))
                                        have f_3015 : Fld Z h_3008 o_2673 sC "first" dL (.ref lk_2713) := ((((((((((f_2913.keep K_2922 nin0).keep K_2937 (ninS (Ne.symm ne_2771) nin0)).keep K_2962 nin0).keep K_2979 (ninS ne_3013 nin0)).ext E_2988).other W_2993 (Or.inl ne_3014)).other W_2997 (Or.inl ne_3014)).other W_3001 (Or.inl ne_3014)).other W_3005 (Or.inl ne_3014)).other W_3009 (Or.inl ne_3014))
                                        have sz_3016 : n0 ≤ h_3008.size := Nat.le_trans sz_2990 (Nat.le_trans E_2988.1 (Nat.le_trans (Keep.of_wr W_2993).1 (Nat.le_trans (Keep.of_wr W_2997).1 (Nat.le_trans (Keep.of_wr W_3001).1 (Nat.le_trans (Keep.of_wr W_3005).1 (Keep.of_wr W_3009).1)))))
                                        refine K.callv (z := (⟨sC, "iterator", "()Ljava/util/Iterator;"⟩ : MethodName)) (argsL := []) (rest := []) at_332 (pc' := 335) rfl (c_it1 l Z a0 hw n0 h_3008 (b := o_2673) (x := lk_2713) sz_3016 f_3012 f_3015) f_3012 hw29 hw30 (nf_sel hw32 rfl) hw32 hw31 hw3 hw33 (by decide) pd_7 rfl rfl (W := 0) (by simp [Value.category]) (by decide) (by decide) (by decide) (by decide) (fun v_3019 h_3017 q_3018 => ?_)
                                        obtain ⟨w_3020, rfl, K_3021, f_3022, f_3023, f_3024, f_3025⟩ := q_3018
                                        show G h_3017 18 35 (mkF m 335 #[vi p, vi x1, vi x2, vi y1, vi y2, vi zz, vi 2, vi 2, vi w, vr o_2673, vr o_2683, vi 1, vr w_2961, vr a_2986, vi 5, vi 5, .unset] [(.ref w_3020)])
                                        refine K.astore at_335 (pc' := 337) rfl rfl (L' := #[vi p, vi x1, vi x2, vi y1, vi y2, vi zz, vi 2, vi 2, vi w, vr o_2673, vr o_2683, vi 1, vr w_2961, vr a_2986, vi 5, vi 5, vr w_3020]) rfl ?_
                                        refine K.iload at_337 (pc' := 339) rfl rfl ?_
                                        refine K.if_eq at_339 (pc1 := 342) rfl (by decide) (pc2 := 369) (by decide) (a := 1) rfl (fun c339 => ?_) (fun c339 => ?_)
                                        · exfalso; omega
                                        · refine K.aload at_342 (pc' := 344) rfl rfl rfl ?_
                                          refine K.iconst at_344 (pc' := 345) rfl (z := 0) rfl ?_
                                          refine K.iload at_345 (pc' := 347) rfl rfl ?_
                                          refine K.icmp_ge at_347 (pc1 := 350) rfl (by decide) (pc2 := 354) (by decide) (a := 0) (b := 5) rfl rfl (fun c347 => ?_) (fun c347 => ?_)
                                          · exfalso; omega
                                          · refine K.iconst at_350 (pc' := 351) rfl (z := 1) rfl ?_
                                            refine K.goto at_351 (by decide) (pc' := 355) (by decide) ?_
                                            refine K.aload at_355 (pc' := 357) rfl rfl rfl ?_
                                            refine K.iconst at_357 (pc' := 358) rfl (z := 0) rfl ?_
                                            have f_3026 : Ary Z h_3017 a_2986 .int [(.int x1), (.int x2), (.int y1), (.int y2), (.int zz)] := (A_3011.keep K_3021 nin0)
                                            refine K.iald at_358 (pc' := 359) rfl f_3026 (i := 0) rfl rfl ?_
                                            have ne_3027 : lk_2713 ≠ lk_2781 := (Nat.ne_of_lt (Nat.lt_of_lt_of_le f_2718.lt (Nat.le_trans (Nat.le_trans K_2730.1 (Nat.le_trans K_2749.1 K_2766.1)) f_2784)))
                                            have ne_3028 : lk_2713 ≠ lk_2747 := (Nat.ne_of_lt (Nat.lt_of_lt_of_le f_2718.lt (Nat.le_trans K_2730.1 f_2750)))
                                            have ne_3029 : lk_2713 ≠ lk_2815 := (Nat.ne_of_lt (Nat.lt_of_lt_of_le f_2718.lt (Nat.le_trans (Nat.le_trans K_2730.1 (Nat.le_trans K_2749.1 (Nat.le_trans K_2766.1 (Nat.le_trans K_2783.1 K_2798.1)))) f_2818)))
                                            have ne_3030 : lk_2713 ≠ w_2961 := (Nat.ne_of_lt (Nat.lt_of_lt_of_le f_2718.lt (Nat.le_trans (Nat.le_trans K_2730.1 (Nat.le_trans K_2749.1 (Nat.le_trans K_2766.1 (Nat.le_trans K_2783.1 (Nat.le_trans K_2798.1 (Nat.le_trans K_2817.1 (Nat.le_trans K_2845.1 (Nat.le_trans K_2869.1 (Nat.le_trans K_2884.1 (Nat.le_trans K_2905.1 (Nat.le_trans K_2922.1 K_2937.1))))))))))) f_2963)))
                                            have ne_3031 : lk_2713 ≠ a_2986 := (Nat.ne_of_lt (Nat.lt_of_lt_of_le f_2718.lt (Nat.le_trans (Nat.le_trans K_2730.1 (Nat.le_trans K_2749.1 (Nat.le_trans K_2766.1 (Nat.le_trans K_2783.1 (Nat.le_trans K_2798.1 (Nat.le_trans K_2817.1 (Nat.le_trans K_2845.1 (Nat.le_trans K_2869.1 (Nat.le_trans K_2884.1 (Nat.le_trans K_2905.1 (Nat.le_trans K_2922.1 (Nat.le_trans K_2937.1 (Nat.le_trans K_2962.1 K_2979.1))))))))))))) (Nat.le_of_eq g_a_2986.symm))))
                                            have f_3032 : Fld Z h_3017 lk_2713 sL "next" dL (.ref lk_2747) := (((((((((((((((((((f_2755.keep K_2766 nin0).keep K_2783 (ninS (Ne.symm ne_2772) nin0)).keep K_2798 nin0).keep K_2817 (ninS (Ne.symm ne_2772) (ninS ne_3027 nin0))).keep K_2845 (ninS ne_2741 (ninS (Ne.symm ne_2772) (ninS ne_3028 nin0)))).keep K_2869 nin0).keep K_2884 nin0).keep K_2905 (ninS ne_2741 (ninS ne_3029 nin0))).keep K_2922 nin0).keep K_2937 (ninS (Ne.symm ne_2772) nin0)).keep K_2962 nin0).keep K_2979 (ninS ne_3030 nin0)).ext E_2988).other W_2993 (Or.inl ne_3031)).other W_2997 (Or.inl ne_3031)).other W_3001 (Or.inl ne_3031)).other W_3005 (Or.inl ne_3031)).other W_3009 (Or.inl ne_3031)).keep K_3021 nin0)
                                            have f_3033 : Fld Z h_3017 lk_2713 sL "element" "Ljava/lang/Object;" (.ref w_2699) := (((((((((((((((((((f_2756.keep K_2766 nin0).keep K_2783 (ninS (Ne.symm ne_2772) nin0)).keep K_2798 nin0).keep K_2817 (ninS (Ne.symm ne_2772) (ninS ne_3027 nin0))).keep K_2845 (ninS ne_2741 (ninS (Ne.symm ne_2772) (ninS ne_3028 nin0)))).keep K_2869 nin0).keep K_2884 nin0).keep K_2905 (ninS ne_2741 (ninS ne_3029 nin0))).keep K_2922 nin0).keep K_2937 (ninS (Ne.symm ne_2772) nin0)).keep K_2962 nin0).keep K_2979 (ninS ne_3030 nin0)).ext E_2988).other W_2993 (Or.inl ne_3031)).other W_2997 (Or.inl ne_3031)).other W_3001 (Or.inl ne_3031)).other W_3005 (Or.inl ne_3031)).other W_3009 (Or.inl ne_3031)).keep K_3021 nin0)
                                            have ne_3034 : w_2699 ≠ o_2673 := (f_2703.elim (fun q => Nat.ne_of_lt (Nat.lt_of_lt_of_le q ge_o_2673)) (fun q => Nat.ne_of_gt (Nat.lt_of_lt_of_le x_o_2673.lt (Nat.le_trans E_2685.1 q))))
                                            have ne_3035 : w_2699 ≠ lk_2713 := (Nat.ne_of_lt (Nat.lt_of_lt_of_le f_2701.lt (Nat.le_trans (Nat.le_refl _) f_2716)))
                                            have ne_3036 : w_2699 ≠ o_2683 := (f_2703.elim (fun q => Nat.ne_of_lt (Nat.lt_of_lt_of_le q ge_o_2683)) (fun q => Nat.ne_of_gt (Nat.lt_of_lt_of_le x_o_2683.lt (Nat.le_trans (Nat.le_refl _) q))))
                                            have ne_3037 : w_2699 ≠ lk_2781 := (Nat.ne_of_lt (Nat.lt_of_lt_of_le f_2701.lt (Nat.le_trans (Nat.le_trans K_2715.1 (Nat.le_trans K_2730.1 (Nat.le_trans K_2749.1 K_2766.1))) f_2784)))
                                            have ne_3038 : w_2699 ≠ lk_2747 := (Nat.ne_of_lt (Nat.lt_of_lt_of_le f_2701.lt (Nat.le_trans (Nat.le_trans K_2715.1 K_2730.1) f_2750)))
                                            have ne_3039 : w_2699 ≠ lk_2815 := (Nat.ne_of_lt (Nat.lt_of_lt_of_le f_2701.lt (Nat.le_trans (Nat.le_trans K_2715.1 (Nat.le_trans K_2730.1 (Nat.le_trans K_2749.1 (Nat.le_trans K_2766.1 (Nat.le_trans K_2783.1 K_2798.1))))) f_2818)))
                                            have ne_3040 : w_2699 ≠ w_2961 := (Nat.ne_of_lt (Nat.lt_of_lt_of_le f_2701.lt (Nat.le_trans (Nat.le_trans K_2715.1 (Nat.le_trans K_2730.1 (Nat.le_trans K_2749.1 (Nat.le_trans K_2766.1 (Nat.le_trans K_2783.1 (Nat.le_trans K_2798.1 (Nat.le_trans K_2817.1 (Nat.le_trans K_2845.1 (Nat.le_trans K_2869.1 (Nat.le_trans K_2884.1 (Nat.le_trans K_2905.1 (Nat.le_trans K_2922.1 K_2937.1)))))))))))) f_2963)))
                                            have ne_3041 : w_2699 ≠ a_2986 := (Nat.ne_of_lt (Nat.lt_of_lt_of_le f_2701.lt (Nat.le_trans (Nat.le_trans K_2715.1 (Nat.le_trans K_2730.1 (Nat.le_trans K_2749.1 (Nat.le_trans K_2766.1 (Nat.le_trans K_2783.1 (Nat.le_trans K_2798.1 (Nat.le_trans K_2817.1 (Nat.le_trans K_2845.1 (Nat.le_trans K_2869.1 (Nat.le_trans K_2884.1 (Nat.le_trans K_2905.1 (Nat.le_trans K_2922.1 (Nat.le_trans K_2937.1 (Nat.le_trans K_2962.1 K_2979.1)))))))))))))) (Nat.le_of_eq g_a_2986.symm))))
                                            have f_3042 : Fld Z h_3017 w_2699 sN "value" "I" (.int x1) := ((((((((((((((((((((((f_2702.keep K_2715 (ninS ne_3034 nin0)).keep K_2730 nin0).keep K_2749 (ninS ne_3034 (ninS ne_3035 nin0))).keep K_2766 nin0).keep K_2783 (ninS ne_3036 nin0)).keep K_2798 nin0).keep K_2817 (ninS ne_3036 (ninS ne_3037 nin0))).keep K_2845 (ninS ne_3034 (ninS ne_3036 (ninS ne_3038 nin0)))).keep K_2869 nin0).keep K_2884 nin0).keep K_2905 (ninS ne_3034 (ninS ne_3039 nin0))).keep K_2922 nin0).keep K_2937 (ninS ne_3036 nin0)).keep K_2962 nin0).keep K_2979 (ninS ne_3040 nin0)).ext E_2988).other W_2993 (Or.inl ne_3041)).other W_2997 (Or.inl ne_3041)).other W_3001 (Or.inl ne_3041)).other W_3005 (Or.inl ne_3041)).other W_3009 (Or.inl ne_3041)).keep K_3021 nin0)
                                            have f_3043 : Exa Z h_3017 lk_2713 sL := ((((((((((((((((((((f_2740.keep K_2749).keep K_2766).keep K_2783).keep K_2798).keep K_2817).keep K_2845).keep K_2869).keep K_2884).keep K_2905).keep K_2922).keep K_2937).keep K_2962).keep K_2979).ext E_2988).wr W_2993).wr W_2997).wr W_3001).wr W_3005).wr W_3009).keep K_3021)
                                            have ne_3044 : lk_2713 ≠ w_3020 := (Nat.ne_of_lt (Nat.lt_of_lt_of_le f_2718.lt (Nat.le_trans (Nat.le_trans K_2730.1 (Nat.le_trans K_2749.1 (Nat.le_trans K_2766.1 (Nat.le_trans K_2783.1 (Nat.le_trans K_2798.1 (Nat.le_trans K_2817.1 (Nat.le_trans K_2845.1 (Nat.le_trans K_2869.1 (Nat.le_trans K_2884.1 (Nat.le_trans K_2905.1 (Nat.le_trans K_2922.1 (Nat.le_trans K_2937.1 (Nat.le_trans K_2962.1 (Nat.le_trans K_2979.1 (Nat.le_trans E_2988.1 (Nat.le_trans (Keep.of_wr W_2993).1 (Nat.le_trans (Keep.of_wr W_2997).1 (Nat.le_trans (Keep.of_wr W_3001).1 (Nat.le_trans (Keep.of_wr W_3005).1 (Keep.of_wr W_3009).1))))))))))))))))))) f_3022)))
                                            have ne_3045 : w_2699 ≠ w_3020 := (Nat.ne_of_lt (Nat.lt_of_lt_of_le f_2701.lt (Nat.le_trans (Nat.le_trans K_2715.1 (Nat.le_trans K_2730.1 (Nat.le_trans K_2749.1 (Nat.le_trans K_2766.1 (Nat.le_trans K_2783.1 (Nat.le_trans K_2798.1 (Nat.le_trans K_2817.1 (Nat.le_trans K_2845.1 (Nat.le_trans K_2869.1 (Nat.le_trans K_2884.1 (Nat.le_trans K_2905.1 (Nat.le_trans K_2922.1 (Nat.le_trans K_2937.1 (Nat.le_trans K_2962.1 (Nat.le_trans K_2979.1 (Nat.le_trans E_2988.1 (Nat.le_trans (Keep.of_wr W_2993).1 (Nat.le_trans (Keep.of_wr W_2997).1 (Nat.le_trans (Keep.of_wr W_3001).1 (Nat.le_trans (Keep.of_wr W_3005).1 (Keep.of_wr W_3009).1)))))))))))))))))))) f_3022)))
                                            have f_3046 : Exa Z h_3017 w_2699 sN := ((((((((((((((((((((((f_2701.keep K_2715).keep K_2730).keep K_2749).keep K_2766).keep K_2783).keep K_2798).keep K_2817).keep K_2845).keep K_2869).keep K_2884).keep K_2905).keep K_2922).keep K_2937).keep K_2962).keep K_2979).ext E_2988).wr W_2993).wr W_2997).wr W_3001).wr W_3005).wr W_3009).keep K_3021)
                                            refine K.calls (argsL := [(.ref w_3020), (.int (1 : Int32)), (.int x1)]) (rest := []) at_359 (pc' := 362) rfl (c_st11 l Z a0 hw n0 h_3017 (a := w_3020) (e := x1) (lk := lk_2713) (b := w_2699) (v0 := x1) (x := lk_2747) f_3024 f_3023 f_3025 f_3043 ne_3044 f_3033 f_3032 ne_3045 f_3046 f_3042) hw78 hw79 hw80 hw81 (by decide) pd_10 rfl rfl (W := 0) (by simp [Value.category]) (by decide) (by decide) (by decide) (by decide) (fun v_3049 h_3047 q_3048 => ?_)
                                            obtain ⟨rfl, K_3051, f_3052⟩ := q_3048
                                            show G h_3047 18 35 (mkF m 362 #[vi p, vi x1, vi x2, vi y1, vi y2, vi zz, vi 2, vi 2, vi w, vr o_2673, vr o_2683, vi 1, vr w_2961, vr a_2986, vi 5, vi 5, vr w_3020] [(.int (b2 (x1.toInt = x1.toInt)))])
                                            refine K.ifeqB at_362 (pc1 := 365) rfl (by decide) (pc2 := 369) (by decide) (fun c362 => ?_) (fun c362 => ?_)
                                            · exfalso; first | exact c362 rfl | exact c362 trivial
                                            · refine K.iconst at_365 (pc' := 366) rfl (z := 1) rfl ?_
                                              refine K.goto at_366 (by decide) (pc' := 370) (by decide) ?_
                                              refine K.istore at_370 (pc' := 372) rfl (L' := #[vi p, vi x1, vi x2, vi y1, vi y2, vi zz, vi 2, vi 2, vi w, vr o_2673, vr o_2683, vi 1, vr w_2961, vr a_2986, vi 5, vi 5, vr w_3020]) rfl ?_
                                              refine K.iload at_372 (pc' := 374) rfl rfl ?_
                                              refine K.if_eq at_374 (pc1 := 377) rfl (by decide) (pc2 := 404) (by decide) (a := 1) rfl (fun c374 => ?_) (fun c374 => ?_)
                                              · exfalso; omega
                                              · refine K.aload at_377 (pc' := 379) rfl rfl rfl ?_
                                                refine K.iconst at_379 (pc' := 380) rfl (z := 1) rfl ?_
                                                refine K.iload at_380 (pc' := 382) rfl rfl ?_
                                                refine K.icmp_ge at_382 (pc1 := 385) rfl (by decide) (pc2 := 389) (by decide) (a := 1) (b := 5) rfl rfl (fun c382 => ?_) (fun c382 => ?_)
                                                · exfalso; omega
                                                · refine K.iconst at_385 (pc' := 386) rfl (z := 1) rfl ?_
                                                  refine K.goto at_386 (by decide) (pc' := 390) (by decide) ?_
                                                  refine K.aload at_390 (pc' := 392) rfl rfl rfl ?_
                                                  refine K.iconst at_392 (pc' := 393) rfl (z := 1) rfl ?_
                                                  have ne_3053 : a_2986 ≠ w_3020 := (Nat.ne_of_lt (Nat.lt_of_lt_of_le A_2991.lt (Nat.le_trans (Nat.le_trans (Keep.of_wr W_2993).1 (Nat.le_trans (Keep.of_wr W_2997).1 (Nat.le_trans (Keep.of_wr W_3001).1 (Nat.le_trans (Keep.of_wr W_3005).1 (Keep.of_wr W_3009).1)))) f_3022)))
                                                  have f_3054 : Ary Z h_3047 a_2986 .int [(.int x1), (.int x2), (.int y1), (.int y2), (.int zz)] := (f_3026.keep K_3051 (ninS ne_3053 nin0))
                                                  refine K.iald at_393 (pc' := 394) rfl f_3054 (i := 1) rfl rfl ?_
                                                  have ne_3055 : lk_2747 ≠ w_2961 := (Nat.ne_of_lt (Nat.lt_of_lt_of_le f_2752.lt (Nat.le_trans (Nat.le_trans K_2766.1 (Nat.le_trans K_2783.1 (Nat.le_trans K_2798.1 (Nat.le_trans K_2817.1 (Nat.le_trans K_2845.1 (Nat.le_trans K_2869.1 (Nat.le_trans K_2884.1 (Nat.le_trans K_2905.1 (Nat.le_trans K_2922.1 K_2937.1))))))))) f_2963)))
                                                  have ne_3056 : lk_2747 ≠ a_2986 := (Nat.ne_of_lt (Nat.lt_of_lt_of_le f_2752.lt (Nat.le_trans (Nat.le_trans K_2766.1 (Nat.le_trans K_2783.1 (Nat.le_trans K_2798.1 (Nat.le_trans K_2817.1 (Nat.le_trans K_2845.1 (Nat.le_trans K_2869.1 (Nat.le_trans K_2884.1 (Nat.le_trans K_2905.1 (Nat.le_trans K_2922.1 (Nat.le_trans K_2937.1 (Nat.le_trans K_2962.1 K_2979.1))))))))))) (Nat.le_of_eq g_a_2986.symm))))
                                                  have ne_3057 : lk_2747 ≠ w_3020 := (Nat.ne_of_lt (Nat.lt_of_lt_of_le f_2752.lt (Nat.le_trans (Nat.le_trans K_2766.1 (Nat.le_trans K_2783.1 (Nat.le_trans K_2798.1 (Nat.le_trans K_2817.1 (Nat.le_trans K_2845.1 (Nat.le_trans K_2869.1 (Nat.le_trans K_2884.1 (Nat.le_trans K_2905.1 (Nat.le_trans K_2922.1 (Nat.le_trans K_2937.1 (Nat.le_trans K_2962.1 (Nat.le_trans K_2979.1 (Nat.le_trans E_2988.1 (Nat.le_trans (Keep.of_wr W_2993).1 (Nat.le_trans (Keep.of_wr W_2997).1 (Nat.le_trans (Keep.of_wr W_3001).1 (Nat.le_trans (Keep.of_wr W_3005).1 (Keep.of_wr W_3009).1))))))))))))))))) f_3022)))
                                                  have f_3058 : Fld Z h_3047 lk_2747 sL "next" dL (.ref lk_2781) := (((((((((((((((f_2846.keep K_2869 nin0).keep K_2884 nin0).keep K_2905 (ninS ne_2838 (ninS (Ne.symm ne_2892) nin0))).keep K_2922 nin0).keep K_2937 (ninS ne_2833 nin0)).keep K_2962 nin0).keep K_2979 (ninS ne_3055 nin0)).ext E_2988).other W_2993 (Or.inl ne_3056)).other W_2997 (Or.inl ne_3056)).other W_3001 (Or.inl ne_3056)).other W_3005 (Or.inl ne_3056)).other W_3009 (Or.inl ne_3056)).keep K_3021 nin0).keep K_3051 (ninS ne_3057 nin0))
                                                  have f_3059 : Fld Z h_3047 lk_2747 sL "element" "Ljava/lang/Object;" (.ref w_2729) := (((((((((((((((f_2847.keep K_2869 nin0).keep K_2884 nin0).keep K_2905 (ninS ne_2838 (ninS (Ne.symm ne_2892) nin0))).keep K_2922 nin0).keep K_2937 (ninS ne_2833 nin0)).keep K_2962 nin0).keep K_2979 (ninS ne_3055 nin0)).ext E_2988).other W_2993 (Or.inl ne_3056)).other W_2997 (Or.inl ne_3056)).other W_3001 (Or.inl ne_3056)).other W_3005 (Or.inl ne_3056)).other W_3009 (Or.inl ne_3056)).keep K_3021 nin0).keep K_3051 (ninS ne_3057 nin0))
                                                  have ne_3060 : w_2729 ≠ lk_2713 := (f_2733.elim (fun q => Nat.ne_of_lt (Nat.lt_of_lt_of_le q f_2717)) (fun q => Nat.ne_of_gt (Nat.lt_of_lt_of_le f_2718.lt (Nat.le_trans (Nat.le_refl _) q))))
                                                  have ne_3061 : w_2729 ≠ o_2673 := (f_2733.elim (fun q => Nat.ne_of_lt (Nat.lt_of_lt_of_le q ge_o_2673)) (fun q => Nat.ne_of_gt (Nat.lt_of_lt_of_le x_o_2673.lt (Nat.le_trans (Nat.le_trans E_2685.1 (Nat.le_trans K_2700.1 K_2715.1)) q))))
                                                  have ne_3062 : w_2729 ≠ o_2683 := (f_2733.elim (fun q => Nat.ne_of_lt (Nat.lt_of_lt_of_le q ge_o_2683)) (fun q => Nat.ne_of_gt (Nat.lt_of_lt_of_le x_o_2683.lt (Nat.le_trans (Nat.le_trans K_2700.1 K_2715.1) q))))
                                                  have ne_3063 : w_2729 ≠ lk_2781 := (Nat.ne_of_lt (Nat.lt_of_lt_of_le f_2731.lt (Nat.le_trans (Nat.le_trans K_2749.1 K_2766.1) f_2784)))
                                                  have ne_3064 : w_2729 ≠ lk_2747 := (Nat.ne_of_lt (Nat.lt_of_lt_of_le f_2731.lt (Nat.le_trans (Nat.le_refl _) f_2750)))
                                                  have ne_3065 : w_2729 ≠ lk_2815 := (Nat.ne_of_lt (Nat.lt_of_lt_of_le f_2731.lt (Nat.le_trans (Nat.le_trans K_2749.1 (Nat.le_trans K_2766.1 (Nat.le_trans K_2783.1 K_2798.1))) f_2818)))
                                                  have ne_3066 : w_2729 ≠ w_2961 := (Nat.ne_of_lt (Nat.lt_of_lt_of_le f_2731.lt (Nat.le_trans (Nat.le_trans K_2749.1 (Nat.le_trans K_2766.1 (Nat.le_trans K_2783.1 (Nat.le_trans K_2798.1 (Nat.le_trans K_2817.1 (Nat.le_trans K_2845.1 (Nat.le_trans K_2869.1 (Nat.le_trans K_2884.1 (Nat.le_trans K_2905.1 (Nat.le_trans K_2922.1 K_2937.1)))))))))) f_2963)))
                                                  have ne_3067 : w_2729 ≠ a_2986 := (Nat.ne_of_lt (Nat.lt_of_lt_of_le f_2731.lt (Nat.le_trans (Nat.le_trans K_2749.1 (Nat.le_trans K_2766.1 (Nat.le_trans K_2783.1 (Nat.le_trans K_2798.1 (Nat.le_trans K_2817.1 (Nat.le_trans K_2845.1 (Nat.le_trans K_2869.1 (Nat.le_trans K_2884.1 (Nat.le_trans K_2905.1 (Nat.le_trans K_2922.1 (Nat.le_trans K_2937.1 (Nat.le_trans K_2962.1 K_2979.1)))))))))))) (Nat.le_of_eq g_a_2986.symm))))
                                                  have ne_3068 : w_2729 ≠ w_3020 := (Nat.ne_of_lt (Nat.lt_of_lt_of_le f_2731.lt (Nat.le_trans (Nat.le_trans K_2749.1 (Nat.le_trans K_2766.1 (Nat.le_trans K_2783.1 (Nat.le_trans K_2798.1 (Nat.le_trans K_2817.1 (Nat.le_trans K_2845.1 (Nat.le_trans K_2869.1 (Nat.le_trans K_2884.1 (Nat.le_trans K_2905.1 (Nat.le_trans K_2922.1 (Nat.le_trans K_2937.1 (Nat.le_trans K_2962.1 (Nat.le_trans K_2979.1 (Nat.le_trans E_2988.1 (Nat.le_trans (Keep.of_wr W_2993).1 (Nat.le_trans (Keep.of_wr W_2997).1 (Nat.le_trans (Keep.of_wr W_3001).1 (Nat.le_trans (Keep.of_wr W_3005).1 (Keep.of_wr W_3009).1)))))))))))))))))) f_3022)))
                                                  have f_3069 : Fld Z h_3047 w_2729 sN "value" "I" (.int x2) := (((((((((((((((((((((f_2732.keep K_2749 (ninS ne_3061 (ninS ne_3060 nin0))).keep K_2766 nin0).keep K_2783 (ninS ne_3062 nin0)).keep K_2798 nin0).keep K_2817 (ninS ne_3062 (ninS ne_3063 nin0))).keep K_2845 (ninS ne_3061 (ninS ne_3062 (ninS ne_3064 nin0)))).keep K_2869 nin0).keep K_2884 nin0).keep K_2905 (ninS ne_3061 (ninS ne_3065 nin0))).keep K_2922 nin0).keep K_2937 (ninS ne_3062 nin0)).keep K_2962 nin0).keep K_2979 (ninS ne_3066 nin0)).ext E_2988).other W_2993 (Or.inl ne_3067)).other W_2997 (Or.inl ne_3067)).other W_3001 (Or.inl ne_3067)).other W_3005 (Or.inl ne_3067)).other W_3009 (Or.inl ne_3067)).keep K_3021 nin0).keep K_3051 (ninS ne_3068 nin0))
                                                  have f_3070 : Exa Z h_3047 w_3020 sI := (f_3024.keep K_3051)
                                                  have f_3071 : Exa Z h_3047 lk_2747 sL := ((((((((((((((((f_2837.keep K_2845).keep K_2869).keep K_2884).keep K_2905).keep K_2922).keep K_2937).keep K_2962).keep K_2979).ext E_2988).wr W_2993).wr W_2997).wr W_3001).wr W_3005).wr W_3009).keep K_3021).keep K_3051)
                                                  have f_3072 : Exa Z h_3047 w_2729 sN := (((((((((((((((((((((f_2731.keep K_2749).keep K_2766).keep K_2783).keep K_2798).keep K_2817).keep K_2845).keep K_2869).keep K_2884).keep K_2905).keep K_2922).keep K_2937).keep K_2962).keep K_2979).ext E_2988).wr W_2993).wr W_2997).wr W_3001).wr W_3005).wr W_3009).keep K_3021).keep K_3051)
                                                  refine K.calls (argsL := [(.ref w_3020), (.int (1 : Int32)), (.int x2)]) (rest := []) at_394 (pc' := 397) rfl (c_st11 l Z a0 hw n0 h_3047 (a := w_3020) (e := x2) (lk := lk_2747) (b := w_2729) (v0 := x2) (x := lk_2781) f_3070 f_3023 f_3052 f_3071 ne_3057 f_3059 f_3058 ne_3068 f_3072 f_3069) hw78 hw79 hw80 hw81 (by decide) pd_10 rfl rfl (W := 0) (by simp [Value.category]) (by decide) (by decide) (by decide) (by decide) (fun v_3075 h_3073 q_3074 => ?_)
                                                  obtain ⟨rfl, K_3077, f_3078⟩ := q_3074
                                                  show G h_3073 18 35 (mkF m 397 #[vi p, vi x1, vi x2, vi y1, vi y2, vi zz, vi 2, vi 2, vi w, vr o_2673, vr o_2683, vi 1, vr w_2961, vr a_2986, vi 5, vi 5, vr w_3020] [(.int (b2 (x2.toInt = x2.toInt)))])
                                                  refine K.ifeqB at_397 (pc1 := 400) rfl (by decide) (pc2 := 404) (by decide) (fun c397 => ?_) (fun c397 => ?_)
                                                  · exfalso; first | exact c397 rfl | exact c397 trivial
                                                  · refine K.iconst at_400 (pc' := 401) rfl (z := 1) rfl ?_
                                                    refine K.goto at_401 (by decide) (pc' := 405) (by decide) ?_
                                                    refine K.istore at_405 (pc' := 407) rfl (L' := #[vi p, vi x1, vi x2, vi y1, vi y2, vi zz, vi 2, vi 2, vi w, vr o_2673, vr o_2683, vi 1, vr w_2961, vr a_2986, vi 5, vi 5, vr w_3020]) rfl ?_
                                                    refine K.iload at_407 (pc' := 409) rfl rfl ?_
                                                    refine K.if_eq at_409 (pc1 := 412) rfl (by decide) (pc2 := 439) (by decide) (a := 1) rfl (fun c409 => ?_) (fun c409 => ?_)
                                                    · exfalso; omega
                                                    · refine K.aload at_412 (pc' := 414) rfl rfl rfl ?_
                                                      refine K.iconst at_414 (pc' := 415) rfl (z := 2) rfl ?_
                                                      refine K.iload at_415 (pc' := 417) rfl rfl ?_
                                                      refine K.icmp_ge at_417 (pc1 := 420) rfl (by decide) (pc2 := 424) (by decide) (a := 2) (b := 5) rfl rfl (fun c417 => ?_) (fun c417 => ?_)
                                                      · exfalso; omega
                                                      · refine K.iconst at_420 (pc' := 421) rfl (z := 1) rfl ?_
                                                        refine K.goto at_421 (by decide) (pc' := 425) (by decide) ?_
                                                        refine K.aload at_425 (pc' := 427) rfl rfl rfl ?_
                                                        refine K.iconst at_427 (pc' := 428) rfl (z := 2) rfl ?_
                                                        have f_3079 : Ary Z h_3073 a_2986 .int [(.int x1), (.int x2), (.int y1), (.int y2), (.int zz)] := (f_3054.keep K_3077 (ninS ne_3053 nin0))
                                                        refine K.iald at_428 (pc' := 429) rfl f_3079 (i := 2) rfl rfl ?_
                                                        have ne_3080 : lk_2781 ≠ lk_2815 := (Nat.ne_of_lt (Nat.lt_of_lt_of_le f_2786.lt (Nat.le_trans K_2798.1 f_2818)))
                                                        have ne_3081 : lk_2781 ≠ w_2961 := (Nat.ne_of_lt (Nat.lt_of_lt_of_le f_2786.lt (Nat.le_trans (Nat.le_trans K_2798.1 (Nat.le_trans K_2817.1 (Nat.le_trans K_2845.1 (Nat.le_trans K_2869.1 (Nat.le_trans K_2884.1 (Nat.le_trans K_2905.1 (Nat.le_trans K_2922.1 K_2937.1))))))) f_2963)))
                                                        have ne_3082 : lk_2781 ≠ a_2986 := (Nat.ne_of_lt (Nat.lt_of_lt_of_le f_2786.lt (Nat.le_trans (Nat.le_trans K_2798.1 (Nat.le_trans K_2817.1 (Nat.le_trans K_2845.1 (Nat.le_trans K_2869.1 (Nat.le_trans K_2884.1 (Nat.le_trans K_2905.1 (Nat.le_trans K_2922.1 (Nat.le_trans K_2937.1 (Nat.le_trans K_2962.1 K_2979.1))))))))) (Nat.le_of_eq g_a_2986.symm))))
                                                        have ne_3083 : lk_2781 ≠ w_3020 := (Nat.ne_of_lt (Nat.lt_of_lt_of_le f_2786.lt (Nat.le_trans (Nat.le_trans K_2798.1 (Nat.le_trans K_2817.1 (Nat.le_trans K_2845.1 (Nat.le_trans K_2869.1 (Nat.le_trans K_2884.1 (Nat.le_trans K_2905.1 (Nat.le_trans K_2922.1 (Nat.le_trans K_2937.1 (Nat.le_trans K_2962.1 (Nat.le_trans K_2979.1 (Nat.le_trans E_2988.1 (Nat.le_trans (Keep.of_wr W_2993).1 (Nat.le_trans (Keep.of_wr W_2997).1 (Nat.le_trans (Keep.of_wr W_3001).1 (Nat.le_trans (Keep.of_wr W_3005).1 (Keep.of_wr W_3009).1))))))))))))))) f_3022)))
                                                        have f_3084 : Fld Z h_3073 lk_2781 sL "next" dL (.ref lk_2815) := (((((((((((((((((f_2823.keep K_2845 (ninS (Ne.symm ne_2829) (ninS ne_2809 (ninS (Ne.symm ne_2834) nin0)))).keep K_2869 nin0).keep K_2884 nin0).keep K_2905 (ninS (Ne.symm ne_2829) (ninS ne_3080 nin0))).keep K_2922 nin0).keep K_2937 (ninS ne_2809 nin0)).keep K_2962 nin0).keep K_2979 (ninS ne_3081 nin0)).ext E_2988).other W_2993 (Or.inl ne_3082)).other W_2997 (Or.inl ne_3082)).other W_3001 (Or.inl ne_3082)).other W_3005 (Or.inl ne_3082)).other W_3009 (Or.inl ne_3082)).keep K_3021 nin0).keep K_3051 (ninS ne_3083 nin0)).keep K_3077 (ninS ne_3083 nin0))
                                                        have f_3085 : Fld Z h_3073 lk_2781 sL "element" "Ljava/lang/Object;" (.ref w_2765) := (((((((((((((((((f_2824.keep K_2845 (ninS (Ne.symm ne_2829) (ninS ne_2809 (ninS (Ne.symm ne_2834) nin0)))).keep K_2869 nin0).keep K_2884 nin0).keep K_2905 (ninS (Ne.symm ne_2829) (ninS ne_3080 nin0))).keep K_2922 nin0).keep K_2937 (ninS ne_2809 nin0)).keep K_2962 nin0).keep K_2979 (ninS ne_3081 nin0)).ext E_2988).other W_2993 (Or.inl ne_3082)).other W_2997 (Or.inl ne_3082)).other W_3001 (Or.inl ne_3082)).other W_3005 (Or.inl ne_3082)).other W_3009 (Or.inl ne_3082)).keep K_3021 nin0).keep K_3051 (ninS ne_3083 nin0)).keep K_3077 (ninS ne_3083 nin0))
                                                        have ne_3086 : w_2765 ≠ o_2683 := (f_2769.elim (fun q => Nat.ne_of_lt (Nat.lt_of_lt_of_le q ge_o_2683)) (fun q => Nat.ne_of_gt (Nat.lt_of_lt_of_le x_o_2683.lt (Nat.le_trans (Nat.le_trans K_2700.1 (Nat.le_trans K_2715.1 (Nat.le_trans K_2730.1 K_2749.1))) q))))
                                                        have ne_3087 : w_2765 ≠ lk_2781 := (Nat.ne_of_lt (Nat.lt_of_lt_of_le f_2767.lt (Nat.le_trans (Nat.le_refl _) f_2784)))
                                                        have ne_3088 : w_2765 ≠ lk_2747 := (f_2769.elim (fun q => Nat.ne_of_lt (Nat.lt_of_lt_of_le q f_2751)) (fun q => Nat.ne_of_gt (Nat.lt_of_lt_of_le f_2752.lt (Nat.le_trans (Nat.le_refl _) q))))
                                                        have ne_3089 : w_2765 ≠ o_2673 := (f_2769.elim (fun q => Nat.ne_of_lt (Nat.lt_of_lt_of_le q ge_o_2673)) (fun q => Nat.ne_of_gt (Nat.lt_of_lt_of_le x_o_2673.lt (Nat.le_trans (Nat.le_trans E_2685.1 (Nat.le_trans K_2700.1 (Nat.le_trans K_2715.1 (Nat.le_trans K_2730.1 K_2749.1)))) q))))
                                                        have ne_3090 : w_2765 ≠ lk_2815 := (Nat.ne_of_lt (Nat.lt_of_lt_of_le f_2767.lt (Nat.le_trans (Nat.le_trans K_2783.1 K_2798.1) f_2818)))
                                                        have ne_3091 : w_2765 ≠ w_2961 := (Nat.ne_of_lt (Nat.lt_of_lt_of_le f_2767.lt (Nat.le_trans (Nat.le_trans K_2783.1 (Nat.le_trans K_2798.1 (Nat.le_trans K_2817.1 (Nat.le_trans K_2845.1 (Nat.le_trans K_2869.1 (Nat.le_trans K_2884.1 (Nat.le_trans K_2905.1 (Nat.le_trans K_2922.1 K_2937.1)))))))) f_2963)))
                                                        have ne_3092 : w_2765 ≠ a_2986 := (Nat.ne_of_lt (Nat.lt_of_lt_of_le f_2767.lt (Nat.le_trans (Nat.le_trans K_2783.1 (Nat.le_trans K_2798.1 (Nat.le_trans K_2817.1 (Nat.le_trans K_2845.1 (Nat.le_trans K_2869.1 (Nat.le_trans K_2884.1 (Nat.le_trans K_2905.1 (Nat.le_trans K_2922.1 (Nat.le_trans K_2937.1 (Nat.le_trans K_2962.1 K_2979.1)))))))))) (Nat.le_of_eq g_a_2986.symm))))
                                                        have ne_3093 : w_2765 ≠ w_3020 := (Nat.ne_of_lt (Nat.lt_of_lt_of_le f_2767.lt (Nat.le_trans (Nat.le_trans K_2783.1 (Nat.le_trans K_2798.1 (Nat.le_trans K_2817.1 (Nat.le_trans K_2845.1 (Nat.le_trans K_2869.1 (Nat.le_trans K_2884.1 (Nat.le_trans K_2905.1 (Nat.le_trans K_2922.1 (Nat.le_trans K_2937.1 (Nat.le_trans K_2962.1 (Nat.le_trans K_2979.1 (Nat.le_trans E_2988.1 (Nat.le_trans (Keep.of_wr W_2993).1 (Nat.le_trans (Keep.of_wr W_2997).1 (Nat.le_trans (Keep.of_wr W_3001).1 (Nat.le_trans (Keep.of_wr W_3005).1 (Keep.of_wr W_3009).1)))))))))))))))) f_3022)))
                                                        have f_3094 : Fld Z h_3073 w_2765 sN "value" "I" (.int y1) := ((((((((((((((((((((f_2768.keep K_2783 (ninS ne_3086 nin0)).keep K_2798 nin0).keep K_2817 (ninS ne_3086 (ninS ne_3087 nin0))).keep K_2845 (ninS ne_3089 (ninS ne_3086 (ninS ne_3088 nin0)))).keep K_2869 nin0).keep K_2884 nin0).keep K_2905 (ninS ne_3089 (ninS ne_3090 nin0))).keep K_2922 nin0).keep K_2937 (ninS ne_3086 nin0)).keep K_2962 nin0).keep K_2979 (ninS ne_3091 nin0)).ext E_2988).other W_2993 (Or.inl ne_3092)).other W_2997 (Or.inl ne_3092)).other W_3001 (Or.inl ne_3092)).other W_3005 (Or.inl ne_3092)).other W_3009 (Or.inl ne_3092)).keep K_3021 nin0).keep K_3051 (ninS ne_3093 nin0)).keep K_3077 (ninS ne_3093 nin0))
                                                        have f_3095 : Exa Z h_3073 w_3020 sI := (f_3070.keep K_3077)
                                                        have f_3096 : Exa Z h_3073 lk_2781 sL := ((((((((((((((((((f_2808.keep K_2817).keep K_2845).keep K_2869).keep K_2884).keep K_2905).keep K_2922).keep K_2937).keep K_2962).keep K_2979).ext E_2988).wr W_2993).wr W_2997).wr W_3001).wr W_3005).wr W_3009).keep K_3021).keep K_3051).keep K_3077)
                                                        have f_3097 : Exa Z h_3073 w_2765 sN := ((((((((((((((((((((f_2767.keep K_2783).keep K_2798).keep K_2817).keep K_2845).keep K_2869).keep K_2884).keep K_2905).keep K_2922).keep K_2937).keep K_2962).keep K_2979).ext E_2988).wr W_2993).wr W_2997).wr W_3001).wr W_3005).wr W_3009).keep K_3021).keep K_3051).keep K_3077)
                                                        refine K.calls (argsL := [(.ref w_3020), (.int (1 : Int32)), (.int y1)]) (rest := []) at_429 (pc' := 432) rfl (c_st11 l Z a0 hw n0 h_3073 (a := w_3020) (e := y1) (lk := lk_2781) (b := w_2765) (v0 := y1) (x := lk_2815) f_3095 f_3023 f_3078 f_3096 ne_3083 f_3085 f_3084 ne_3093 f_3097 f_3094) hw78 hw79 hw80 hw81 (by decide) pd_10 rfl rfl (W := 0) (by simp [Value.category]) (by decide) (by decide) (by decide) (by decide) (fun v_3100 h_3098 q_3099 => ?_)
                                                        obtain ⟨rfl, K_3102, f_3103⟩ := q_3099
                                                        show G h_3098 18 35 (mkF m 432 #[vi p, vi x1, vi x2, vi y1, vi y2, vi zz, vi 2, vi 2, vi w, vr o_2673, vr o_2683, vi 1, vr w_2961, vr a_2986, vi 5, vi 5, vr w_3020] [(.int (b2 (y1.toInt = y1.toInt)))])
                                                        refine K.ifeqB at_432 (pc1 := 435) rfl (by decide) (pc2 := 439) (by decide) (fun c432 => ?_) (fun c432 => ?_)
                                                        · exfalso; first | exact c432 rfl | exact c432 trivial
                                                        · refine K.iconst at_435 (pc' := 436) rfl (z := 1) rfl ?_
                                                          refine K.goto at_436 (by decide) (pc' := 440) (by decide) ?_
                                                          refine K.istore at_440 (pc' := 442) rfl (L' := #[vi p, vi x1, vi x2, vi y1, vi y2, vi zz, vi 2, vi 2, vi w, vr o_2673, vr o_2683, vi 1, vr w_2961, vr a_2986, vi 5, vi 5, vr w_3020]) rfl ?_
                                                          refine K.iload at_442 (pc' := 444) rfl rfl ?_
                                                          refine K.if_eq at_444 (pc1 := 447) rfl (by decide) (pc2 := 474) (by decide) (a := 1) rfl (fun c444 => ?_) (fun c444 => ?_)
                                                          · exfalso; omega
                                                          · refine K.aload at_447 (pc' := 449) rfl rfl rfl ?_
                                                            refine K.iconst at_449 (pc' := 450) rfl (z := 3) rfl ?_
                                                            refine K.iload at_450 (pc' := 452) rfl rfl ?_
                                                            refine K.icmp_ge at_452 (pc1 := 455) rfl (by decide) (pc2 := 459) (by decide) (a := 3) (b := 5) rfl rfl (fun c452 => ?_) (fun c452 => ?_)
                                                            · exfalso; omega
                                                            · refine K.iconst at_455 (pc' := 456) rfl (z := 1) rfl ?_
                                                              refine K.goto at_456 (by decide) (pc' := 460) (by decide) ?_
                                                              refine K.aload at_460 (pc' := 462) rfl rfl rfl ?_
                                                              refine K.iconst at_462 (pc' := 463) rfl (z := 3) rfl ?_
                                                              have f_3104 : Ary Z h_3098 a_2986 .int [(.int x1), (.int x2), (.int y1), (.int y2), (.int zz)] := (f_3079.keep K_3102 (ninS ne_3053 nin0))
                                                              refine K.iald at_463 (pc' := 464) rfl f_3104 (i := 3) rfl rfl ?_
                                                              have ne_3105 : lk_2815 ≠ w_2961 := (Nat.ne_of_lt (Nat.lt_of_lt_of_le f_2820.lt (Nat.le_trans (Nat.le_trans K_2845.1 (Nat.le_trans K_2869.1 (Nat.le_trans K_2884.1 (Nat.le_trans K_2905.1 (Nat.le_trans K_2922.1 K_2937.1))))) f_2963)))
                                                              have ne_3106 : lk_2815 ≠ a_2986 := (Nat.ne_of_lt (Nat.lt_of_lt_of_le f_2820.lt (Nat.le_trans (Nat.le_trans K_2845.1 (Nat.le_trans K_2869.1 (Nat.le_trans K_2884.1 (Nat.le_trans K_2905.1 (Nat.le_trans K_2922.1 (Nat.le_trans K_2937.1 (Nat.le_trans K_2962.1 K_2979.1))))))) (Nat.le_of_eq g_a_2986.symm))))
                                                              have ne_3107 : lk_2815 ≠ w_3020 := (Nat.ne_of_lt (Nat.lt_of_lt_of_le f_2820.lt (Nat.le_trans (Nat.le_trans K_2845.1 (Nat.le_trans K_2869.1 (Nat.le_trans K_2884.1 (Nat.le_trans K_2905.1 (Nat.le_trans K_2922.1 (Nat.le_trans K_2937.1 (Nat.le_trans K_2962.1 (Nat.le_trans K_2979.1 (Nat.le_trans E_2988.1 (Nat.le_trans (Keep.of_wr W_2993).1 (Nat.le_trans (Keep.of_wr W_2997).1 (Nat.le_trans (Keep.of_wr W_3001).1 (Nat.le_trans (Keep.of_wr W_3005).1 (Keep.of_wr W_3009).1))))))))))))) f_3022)))
                                                              have f_3108 : Fld Z h_3098 lk_2815 sL "next" dL (.ref lk_2903) := ((((((((((((((f_2911.keep K_2922 nin0).keep K_2937 (ninS ne_2893 nin0)).keep K_2962 nin0).keep K_2979 (ninS ne_3105 nin0)).ext E_2988).other W_2993 (Or.inl ne_3106)).other W_2997 (Or.inl ne_3106)).other W_3001 (Or.inl ne_3106)).other W_3005 (Or.inl ne_3106)).other W_3009 (Or.inl ne_3106)).keep K_3021 nin0).keep K_3051 (ninS ne_3107 nin0)).keep K_3077 (ninS ne_3107 nin0)).keep K_3102 (ninS ne_3107 nin0))
                                                              have f_3109 : Fld Z h_3098 lk_2815 sL "element" "Ljava/lang/Object;" (.ref w_2797) := ((((((((((((((f_2912.keep K_2922 nin0).keep K_2937 (ninS ne_2893 nin0)).keep K_2962 nin0).keep K_2979 (ninS ne_3105 nin0)).ext E_2988).other W_2993 (Or.inl ne_3106)).other W_2997 (Or.inl ne_3106)).other W_3001 (Or.inl ne_3106)).other W_3005 (Or.inl ne_3106)).other W_3009 (Or.inl ne_3106)).keep K_3021 nin0).keep K_3051 (ninS ne_3107 nin0)).keep K_3077 (ninS ne_3107 nin0)).keep K_3102 (ninS ne_3107 nin0))
                                                              have ne_3110 : w_2797 ≠ lk_2781 := (f_2801.elim (fun q => Nat.ne_of_lt (Nat.lt_of_lt_of_le q f_2785)) (fun q => Nat.ne_of_gt (Nat.lt_of_lt_of_le f_2786.lt (Nat.le_trans (Nat.le_refl _) q))))
                                                              have ne_3111 : w_2797 ≠ o_2683 := (f_2801.elim (fun q => Nat.ne_of_lt (Nat.lt_of_lt_of_le q ge_o_2683)) (fun q => Nat.ne_of_gt (Nat.lt_of_lt_of_le x_o_2683.lt (Nat.le_trans (Nat.le_trans K_2700.1 (Nat.le_trans K_2715.1 (Nat.le_trans K_2730.1 (Nat.le_trans K_2749.1 (Nat.le_trans K_2766.1 K_2783.1))))) q))))
                                                              have ne_3112 : w_2797 ≠ lk_2747 := (f_2801.elim (fun q => Nat.ne_of_lt (Nat.lt_of_lt_of_le q f_2751)) (fun q => Nat.ne_of_gt (Nat.lt_of_lt_of_le f_2752.lt (Nat.le_trans (Nat.le_trans K_2766.1 K_2783.1) q))))
                                                              have ne_3113 : w_2797 ≠ o_2673 := (f_2801.elim (fun q => Nat.ne_of_lt (Nat.lt_of_lt_of_le q ge_o_2673)) (fun q => Nat.ne_of_gt (Nat.lt_of_lt_of_le x_o_2673.lt (Nat.le_trans (Nat.le_trans E_2685.1 (Nat.le_trans K_2700.1 (Nat.le_trans K_2715.1 (Nat.le_trans K_2730.1 (Nat.le_trans K_2749.1 (Nat.le_trans K_2766.1 K_2783.1)))))) q))))
                                                              have ne_3114 : w_2797 ≠ lk_2815 := (Nat.ne_of_lt (Nat.lt_of_lt_of_le f_2799.lt (Nat.le_trans (Nat.le_refl _) f_2818)))
                                                              have ne_3115 : w_2797 ≠ w_2961 := (Nat.ne_of_lt (Nat.lt_of_lt_of_le f_2799.lt (Nat.le_trans (Nat.le_trans K_2817.1 (Nat.le_trans K_2845.1 (Nat.le_trans K_2869.1 (Nat.le_trans K_2884.1 (Nat.le_trans K_2905.1 (Nat.le_trans K_2922.1 K_2937.1)))))) f_2963)))
                                                              have ne_3116 : w_2797 ≠ a_2986 := (Nat.ne_of_lt (Nat.lt_of_lt_of_le f_2799.lt (Nat.le_trans (Nat.le_trans K_2817.1 (Nat.le_trans K_2845.1 (Nat.le_trans K_2869.1 (Nat.le_trans K_2884.1 (Nat.le_trans K_2905.1 (Nat.le_trans K_2922.1 (Nat.le_trans K_2937.1 (Nat.le_trans K_2962.1 K_2979.1)))))))) (Nat.le_of_eq g_a_2986.symm))))
                                                              have ne_3117 : w_2797 ≠ w_3020 := (Nat.ne_of_lt (Nat.lt_of_lt_of_le f_2799.lt (Nat.le_trans (Nat.le_trans K_2817.1 (Nat.le_trans K_2845.1 (Nat.le_trans K_2869.1 (Nat.le_trans K_2884.1 (Nat.le_trans K_2905.1 (Nat.le_trans K_2922.1 (Nat.le_trans K_2937.1 (Nat.le_trans K_2962.1 (Nat.le_trans K_2979.1 (Nat.le_trans E_2988.1 (Nat.le_trans (Keep.of_wr W_2993).1 (Nat.le_trans (Keep.of_wr W_2997).1 (Nat.le_trans (Keep.of_wr W_3001).1 (Nat.le_trans (Keep.of_wr W_3005).1 (Keep.of_wr W_3009).1)))))))))))))) f_3022)))
                                                              have f_3118 : Fld Z h_3098 w_2797 sN "value" "I" (.int y2) := (((((((((((((((((((f_2800.keep K_2817 (ninS ne_3111 (ninS ne_3110 nin0))).keep K_2845 (ninS ne_3113 (ninS ne_3111 (ninS ne_3112 nin0)))).keep K_2869 nin0).keep K_2884 nin0).keep K_2905 (ninS ne_3113 (ninS ne_3114 nin0))).keep K_2922 nin0).keep K_2937 (ninS ne_3111 nin0)).keep K_2962 nin0).keep K_2979 (ninS ne_3115 nin0)).ext E_2988).other W_2993 (Or.inl ne_3116)).other W_2997 (Or.inl ne_3116)).other W_3001 (Or.inl ne_3116)).other W_3005 (Or.inl ne_3116)).other W_3009 (Or.inl ne_3116)).keep K_3021 nin0).keep K_3051 (ninS ne_3117 nin0)).keep K_3077 (ninS ne_3117 nin0)).keep K_3102 (ninS ne_3117 nin0))
                                                              have f_3119 : Exa Z h_3098 w_3020 sI := (f_3095.keep K_3102)
                                                              have f_3120 : Exa Z h_3098 lk_2815 sL := (((((((((((((((f_2897.keep K_2905).keep K_2922).keep K_2937).keep K_2962).keep K_2979).ext E_2988).wr W_2993).wr W_2997).wr W_3001).wr W_3005).wr W_3009).keep K_3021).keep K_3051).keep K_3077).keep K_3102)
                                                              have f_3121 : Exa Z h_3098 w_2797 sN := (((((((((((((((((((f_2799.keep K_2817).keep K_2845).keep K_2869).keep K_2884).keep K_2905).keep K_2922).keep K_2937).keep K_2962).keep K_2979).ext E_2988).wr W_2993).wr W_2997).wr W_3001).wr W_3005).wr W_3009).keep K_3021).keep K_3051).keep K_3077).keep K_3102)
                                                              refine K.calls (argsL := [(.ref w_3020), (.int (1 : Int32)), (.int y2)]) (rest := []) at_464 (pc' := 467) rfl (c_st11 l Z a0 hw n0 h_3098 (a := w_3020) (e := y2) (lk := lk_2815) (b := w_2797) (v0 := y2) (x := lk_2903) f_3119 f_3023 f_3103 f_3120 ne_3107 f_3109 f_3108 ne_3117 f_3121 f_3118) hw78 hw79 hw80 hw81 (by decide) pd_10 rfl rfl (W := 0) (by simp [Value.category]) (by decide) (by decide) (by decide) (by decide) (fun v_3124 h_3122 q_3123 => ?_)
                                                              obtain ⟨rfl, K_3126, f_3127⟩ := q_3123
                                                              show G h_3122 18 35 (mkF m 467 #[vi p, vi x1, vi x2, vi y1, vi y2, vi zz, vi 2, vi 2, vi w, vr o_2673, vr o_2683, vi 1, vr w_2961, vr a_2986, vi 5, vi 5, vr w_3020] [(.int (b2 (y2.toInt = y2.toInt)))])
                                                              refine K.ifeqB at_467 (pc1 := 470) rfl (by decide) (pc2 := 474) (by decide) (fun c467 => ?_) (fun c467 => ?_)
                                                              · exfalso; first | exact c467 rfl | exact c467 trivial
                                                              · refine K.iconst at_470 (pc' := 471) rfl (z := 1) rfl ?_
                                                                refine K.goto at_471 (by decide) (pc' := 475) (by decide) ?_
                                                                refine K.istore at_475 (pc' := 477) rfl (L' := #[vi p, vi x1, vi x2, vi y1, vi y2, vi zz, vi 2, vi 2, vi w, vr o_2673, vr o_2683, vi 1, vr w_2961, vr a_2986, vi 5, vi 5, vr w_3020]) rfl ?_
                                                                refine K.iload at_477 (pc' := 479) rfl rfl ?_
                                                                refine K.if_eq at_479 (pc1 := 482) rfl (by decide) (pc2 := 509) (by decide) (a := 1) rfl (fun c479 => ?_) (fun c479 => ?_)
                                                                · exfalso; omega
                                                                · refine K.aload at_482 (pc' := 484) rfl rfl rfl ?_
                                                                  refine K.iconst at_484 (pc' := 485) rfl (z := 4) rfl ?_
                                                                  refine K.iload at_485 (pc' := 487) rfl rfl ?_
                                                                  refine K.icmp_ge at_487 (pc1 := 490) rfl (by decide) (pc2 := 494) (by decide) (a := 4) (b := 5) rfl rfl (fun c487 => ?_) (fun c487 => ?_)
                                                                  · exfalso; omega
                                                                  · refine K.iconst at_490 (pc' := 491) rfl (z := 1) rfl ?_
                                                                    refine K.goto at_491 (by decide) (pc' := 495) (by decide) ?_
                                                                    refine K.aload at_495 (pc' := 497) rfl rfl rfl ?_
                                                                    refine K.iconst at_497 (pc' := 498) rfl (z := 4) rfl ?_
                                                                    have f_3128 : Ary Z h_3122 a_2986 .int [(.int x1), (.int x2), (.int y1), (.int y2), (.int zz)] := (f_3104.keep K_3126 (ninS ne_3053 nin0))
                                                                    refine K.iald at_498 (pc' := 499) rfl f_3128 (i := 4) rfl rfl ?_
                                                                    have ne_3129 : lk_2903 ≠ o_2683 := (Ne.symm (Nat.ne_of_lt (Nat.lt_of_lt_of_le x_o_2683.lt (Nat.le_trans (Nat.le_trans K_2700.1 (Nat.le_trans K_2715.1 (Nat.le_trans K_2730.1 (Nat.le_trans K_2749.1 (Nat.le_trans K_2766.1 (Nat.le_trans K_2783.1 (Nat.le_trans K_2798.1 (Nat.le_trans K_2817.1 (Nat.le_trans K_2845.1 (Nat.le_trans K_2869.1 K_2884.1)))))))))) f_2906))))
                                                                    have ne_3130 : lk_2903 ≠ w_2961 := (Nat.ne_of_lt (Nat.lt_of_lt_of_le f_2908.lt (Nat.le_trans (Nat.le_trans K_2922.1 K_2937.1) f_2963)))
                                                                    have ne_3131 : lk_2903 ≠ a_2986 := (Nat.ne_of_lt (Nat.lt_of_lt_of_le f_2908.lt (Nat.le_trans (Nat.le_trans K_2922.1 (Nat.le_trans K_2937.1 (Nat.le_trans K_2962.1 K_2979.1))) (Nat.le_of_eq g_a_2986.symm))))
                                                                    have ne_3132 : lk_2903 ≠ w_3020 := (Nat.ne_of_lt (Nat.lt_of_lt_of_le f_2908.lt (Nat.le_trans (Nat.le_trans K_2922.1 (Nat.le_trans K_2937.1 (Nat.le_trans K_2962.1 (Nat.le_trans K_2979.1 (Nat.le_trans E_2988.1 (Nat.le_trans (Keep.of_wr W_2993).1 (Nat.le_trans (Keep.of_wr W_2997).1 (Nat.le_trans (Keep.of_wr W_3001).1 (Nat.le_trans (Keep.of_wr W_3005).1 (Keep.of_wr W_3009).1))))))))) f_3022)))
                                                                    have f_3133 : Fld Z h_3122 lk_2903 sL "next" dL .null := (((((((((((((((f_2910.keep K_2922 nin0).keep K_2937 (ninS ne_3129 nin0)).keep K_2962 nin0).keep K_2979 (ninS ne_3130 nin0)).ext E_2988).other W_2993 (Or.inl ne_3131)).other W_2997 (Or.inl ne_3131)).other W_3001 (Or.inl ne_3131)).other W_3005 (Or.inl ne_3131)).other W_3009 (Or.inl ne_3131)).keep K_3021 nin0).keep K_3051 (ninS ne_3132 nin0)).keep K_3077 (ninS ne_3132 nin0)).keep K_3102 (ninS ne_3132 nin0)).keep K_3126 (ninS ne_3132 nin0))
                                                                    have f_3134 : Fld Z h_3122 lk_2903 sL "element" "Ljava/lang/Object;" (.ref w_2883) := (((((((((((((((f_2909.keep K_2922 nin0).keep K_2937 (ninS ne_3129 nin0)).keep K_2962 nin0).keep K_2979 (ninS ne_3130 nin0)).ext E_2988).other W_2993 (Or.inl ne_3131)).other W_2997 (Or.inl ne_3131)).other W_3001 (Or.inl ne_3131)).other W_3005 (Or.inl ne_3131)).other W_3009 (Or.inl ne_3131)).keep K_3021 nin0).keep K_3051 (ninS ne_3132 nin0)).keep K_3077 (ninS ne_3132 nin0)).keep K_3102 (ninS ne_3132 nin0)).keep K_3126 (ninS ne_3132 nin0))
                                                                    have ne_3135 : w_2883 ≠ lk_2815 := (f_2887.elim (fun q => Nat.ne_of_lt (Nat.lt_of_lt_of_le q f_2819)) (fun q => Nat.ne_of_gt (Nat.lt_of_lt_of_le f_2820.lt (Nat.le_trans (Nat.le_trans K_2845.1 K_2869.1) q))))
                                                                    have ne_3136 : w_2883 ≠ o_2673 := (f_2887.elim (fun q => Nat.ne_of_lt (Nat.lt_of_lt_of_le q ge_o_2673)) (fun q => Nat.ne_of_gt (Nat.lt_of_lt_of_le x_o_2673.lt (Nat.le_trans (Nat.le_trans E_2685.1 (Nat.le_trans K_2700.1 (Nat.le_trans K_2715.1 (Nat.le_trans K_2730.1 (Nat.le_trans K_2749.1 (Nat.le_trans K_2766.1 (Nat.le_trans K_2783.1 (Nat.le_trans K_2798.1 (Nat.le_trans K_2817.1 (Nat.le_trans K_2845.1 K_2869.1)))))))))) q))))
                                                                    have ne_3137 : w_2883 ≠ o_2683 := (f_2887.elim (fun q => Nat.ne_of_lt (Nat.lt_of_lt_of_le q ge_o_2683)) (fun q => Nat.ne_of_gt (Nat.lt_of_lt_of_le x_o_2683.lt (Nat.le_trans (Nat.le_trans K_2700.1 (Nat.le_trans K_2715.1 (Nat.le_trans K_2730.1 (Nat.le_trans K_2749.1 (Nat.le_trans K_2766.1 (Nat.le_trans K_2783.1 (Nat.le_trans K_2798.1 (Nat.le_trans K_2817.1 (Nat.le_trans K_2845.1 K_2869.1))))))))) q))))
                                                                    have ne_3138 : w_2883 ≠ w_2961 := (Nat.ne_of_lt (Nat.lt_of_lt_of_le f_2885.lt (Nat.le_trans (Nat.le_trans K_2905.1 (Nat.le_trans K_2922.1 K_2937.1)) f_2963)))
                                                                    have ne_3139 : w_2883 ≠ a_2986 := (Nat.ne_of_lt (Nat.lt_of_lt_of_le f_2885.lt (Nat.le_trans (Nat.le_trans K_2905.1 (Nat.le_trans K_2922.1 (Nat.le_trans K_2937.1 (Nat.le_trans K_2962.1 K_2979.1)))) (Nat.le_of_eq g_a_2986.symm))))
                                                                    have ne_3140 : w_2883 ≠ w_3020 := (Nat.ne_of_lt (Nat.lt_of_lt_of_le f_2885.lt (Nat.le_trans (Nat.le_trans K_2905.1 (Nat.le_trans K_2922.1 (Nat.le_trans K_2937.1 (Nat.le_trans K_2962.1 (Nat.le_trans K_2979.1 (Nat.le_trans E_2988.1 (Nat.le_trans (Keep.of_wr W_2993).1 (Nat.le_trans (Keep.of_wr W_2997).1 (Nat.le_trans (Keep.of_wr W_3001).1 (Nat.le_trans (Keep.of_wr W_3005).1 (Keep.of_wr W_3009).1)))))))))) f_3022)))
                                                                    have f_3141 : Fld Z h_3122 w_2883 sN "value" "I" (.int zz) := ((((((((((((((((f_2886.keep K_2905 (ninS ne_3136 (ninS ne_3135 nin0))).keep K_2922 nin0).keep K_2937 (ninS ne_3137 nin0)).keep K_2962 nin0).keep K_2979 (ninS ne_3138 nin0)).ext E_2988).other W_2993 (Or.inl ne_3139)).other W_2997 (Or.inl ne_3139)).other W_3001 (Or.inl ne_3139)).other W_3005 (Or.inl ne_3139)).other W_3009 (Or.inl ne_3139)).keep K_3021 nin0).keep K_3051 (ninS ne_3140 nin0)).keep K_3077 (ninS ne_3140 nin0)).keep K_3102 (ninS ne_3140 nin0)).keep K_3126 (ninS ne_3140 nin0))
                                                                    have f_3142 : Exa Z h_3122 w_3020 sI := (f_3119.keep K_3126)
                                                                    have f_3143 : Exa Z h_3122 lk_2903 sL := (((((((((((((((f_2908.keep K_2922).keep K_2937).keep K_2962).keep K_2979).ext E_2988).wr W_2993).wr W_2997).wr W_3001).wr W_3005).wr W_3009).keep K_3021).keep K_3051).keep K_3077).keep K_3102).keep K_3126)
                                                                    have f_3144 : Exa Z h_3122 w_2883 sN := ((((((((((((((((f_2885.keep K_2905).keep K_2922).keep K_2937).keep K_2962).keep K_2979).ext E_2988).wr W_2993).wr W_2997).wr W_3001).wr W_3005).wr W_3009).keep K_3021).keep K_3051).keep K_3077).keep K_3102).keep K_3126)
                                                                    refine K.calls (argsL := [(.ref w_3020), (.int (1 : Int32)), (.int zz)]) (rest := []) at_499 (pc' := 502) rfl (c_st10 l Z a0 hw n0 h_3122 (a := w_3020) (e := zz) (lk := lk_2903) (b := w_2883) (v0 := zz) f_3142 f_3023 f_3127 f_3143 ne_3132 f_3134 f_3133 ne_3140 f_3144 f_3141) hw78 hw79 hw80 hw81 (by decide) pd_10 rfl rfl (W := 0) (by simp [Value.category]) (by decide) (by decide) (by decide) (by decide) (fun v_3147 h_3145 q_3146 => ?_)
                                                                    obtain ⟨rfl, K_3149, f_3150⟩ := q_3146
                                                                    show G h_3145 18 35 (mkF m 502 #[vi p, vi x1, vi x2, vi y1, vi y2, vi zz, vi 2, vi 2, vi w, vr o_2673, vr o_2683, vi 1, vr w_2961, vr a_2986, vi 5, vi 5, vr w_3020] [(.int (b2 (zz.toInt = zz.toInt)))])
                                                                    refine K.ifeqB at_502 (pc1 := 505) rfl (by decide) (pc2 := 509) (by decide) (fun c502 => ?_) (fun c502 => ?_)
                                                                    · exfalso; first | exact c502 rfl | exact c502 trivial
                                                                    · refine K.iconst at_505 (pc' := 506) rfl (z := 1) rfl ?_
                                                                      refine K.goto at_506 (by decide) (pc' := 510) (by decide) ?_
                                                                      refine K.istore at_510 (pc' := 512) rfl (L' := #[vi p, vi x1, vi x2, vi y1, vi y2, vi zz, vi 2, vi 2, vi w, vr o_2673, vr o_2683, vi 1, vr w_2961, vr a_2986, vi 5, vi 5, vr w_3020]) rfl ?_
                                                                      refine K.iload at_512 (pc' := 514) rfl rfl ?_
                                                                      refine K.if_eq at_514 (pc1 := 517) rfl (by decide) (pc2 := 531) (by decide) (a := 1) rfl (fun c514 => ?_) (fun c514 => ?_)
                                                                      · exfalso; omega
                                                                      · refine K.aload at_517 (pc' := 519) rfl rfl rfl ?_
                                                                        have f_3151 : Exa Z h_3145 w_3020 sI := (f_3142.keep K_3149)
                                                                        refine K.calli (z := (⟨sI, "hasNext", "()Z"⟩ : MethodName)) (argsL := []) (rest := []) at_519 (pc' := 524) rfl (c_has0 l Z a0 hw n0 h_3145 (a := w_3020) f_3151 f_3150) f_3151 hw46 hw47 hw48 rfl hw49 hw50 hw51 hw52 hw53 hw36 hw54 (by decide) pd_4 rfl rfl (W := 0) (by simp [Value.category]) (by decide) (by decide) (by decide) (by decide) (fun v_3154 h_3152 q_3153 => ?_)
                                                                        obtain ⟨rfl, rfl⟩ := q_3153
                                                                        show G h_3145 18 35 (mkF m 524 #[vi p, vi x1, vi x2, vi y1, vi y2, vi zz, vi 2, vi 2, vi w, vr o_2673, vr o_2683, vi 1, vr w_2961, vr a_2986, vi 5, vi 5, vr w_3020] [(.int (b2 (False)))])
                                                                        refine K.ifneB at_524 (pc1 := 527) rfl (by decide) (pc2 := 531) (by decide) (fun c524 => ?_) (fun c524 => ?_)
                                                                        · exfalso; exact c524
                                                                        · refine K.iconst at_527 (pc' := 528) rfl (z := 1) rfl ?_
                                                                          refine K.goto at_528 (by decide) (pc' := 532) (by decide) ?_
                                                                          exact K.retz at_532 (Or.inr rfl) (by decide) (by decide) rfl
set_option maxRecDepth 65536 in
set_option maxHeartbeats 40000000 in
theorem comes_1 {Post : Tables → Env → Array Value → State → Outcome → State → Prop} (hpost : ∀ tb e args s v u, (limb_1_1.after args s (.returned v) u = true ∧ limb_1_2.after args s (.returned v) u = true ∧ True) → FrameEnd s (.returned v) u (Jvm.fieldLocs frame_1_writes args s ++ Jvm.arrayLocs frame_1_arrays args s ++ Jvm.staticLocs frame_1_statics s) 48 192 → Post tb e args s (.returned v) u) :
    ArmFor flags0 classFile x code maxLocals ret World_1 tables_1 room_1 Calls_1 rest_1 Pre_1 Post := by
  intro l hfl _ _ p e ha hc hk s m args below hf hA hF happ hP
  obtain ⟨hcalls, hrest, hpre⟩ := hP
  obtain ⟨-, -, -, hnamed, -, -, -, hat⟩ := (Spec.applies_iff hf).mp happ
  obtain ⟨hg, hn⟩ := and_e (Cond.before_iff.mp (show (Jvm.Cond.and given_1 narrow_1).before args s = true from hpre))
  obtain ⟨k0, j0⟩ := and_e hg
  obtain ⟨k1, j1⟩ := and_e j0
  obtain ⟨k2, j2⟩ := and_e j1
  obtain ⟨k3, j3⟩ := and_e j2
  obtain ⟨k4, j4⟩ := and_e j3
  obtain ⟨k5, j5⟩ := and_e j4
  obtain ⟨w0, w1, w2, w3, w4, w5, rfl⟩ : ∃ w0 w1 w2 w3 w4 w5 : Value, args = #[w0, w1, w2, w3, w4, w5] := by
    have hs : args.size = 6 := by simpa [Cond.value, given_1] using k0
    obtain ⟨L⟩ := args
    match L, hs with
    | [w0, w1, w2, w3, w4, w5], _ => exact ⟨w0, w1, w2, w3, w4, w5, rfl⟩
  have hw := fun d (hd : d ∈ tables_1) => atoms_spec (ws := Jvm.Cond.code x code maxLocals ret :: tables_1) hat d (List.mem_cons_of_mem _ hd)
  have hfit : Fit s := fun {y c} hc i hi => by
    obtain ⟨ha, rfl⟩ := Array.getElem?_eq_some_iff.mp hc
    have q := List.all_eq_true.mp ((Array.all_eq_true_iff_forall_mem.mp hF) _ (Array.getElem_mem ha)) i (List.mem_range.mpr hi)
    simpa [Array.getElem?_eq_getElem hi] using q
  obtain ⟨i0, ei0⟩ := is_v k1
  obtain rfl : w0 = (.int i0) := Option.some.inj ei0
  obtain ⟨i1, ei1⟩ := is_v k2
  obtain rfl : w1 = (.int i1) := Option.some.inj ei1
  obtain ⟨i2, ei2⟩ := is_v k3
  obtain rfl : w2 = (.int i2) := Option.some.inj ei2
  obtain ⟨i3, ei3⟩ := is_v k4
  obtain rfl : w3 = (.int i3) := Option.some.inj ei3
  obtain ⟨i4, ei4⟩ := is_v k5
  obtain rfl : w4 = (.int i4) := Option.some.inj ei4
  obtain ⟨i5, ei5⟩ := is_v j5
  obtain rfl : w5 = (.int i5) := Option.some.inj ei5
  obtain ⟨ca, cc, XH, XC, hbx⟩ := bx_start hw (show rest_1_c.before _ s = true from hrest)
  obtain ⟨n, o, h1, h2, h3, _, L, rfl, ⟨rfl, N⟩, hq⟩ := c_law l s _ hw s.heap.size s.heap i0 i1 i2 i3 i4 i5 ca cc (Nat.le_refl _) (Old.start s) XH XC hbx tables_1 p e ha hc hk s m _ below hf ((Spec.applies_iff_loose hf).mp happ).1 ⟨rfl, State.Warmed39.refl s, rfl⟩ trivial
  refine ⟨n, _, h1, h2, h3, hpost _ _ _ _ _ _ ⟨Cond.after_iff.mpr rfl, Cond.after_iff.mpr (eq_i res_at (Term.int_eval (1)) rfl), trivial⟩ ⟨hq.1, hq.2.1, (hq.2.2.sift fun y hy => Or.inr (N y hy)).mono (by decide) (by decide)⟩⟩
theorem main_1_1 : Claimed_1_1 := comes_1 fun _ _ _ _ _ _ h hF => ⟨h.1, hF⟩
theorem main_1_2 : Claimed_1_2 := comes_1 fun _ _ _ _ _ _ h hF => ⟨h.2.1, hF⟩
end Jvm.Pilot.@@N@@
namespace Jvm.Pilot.@@N@@
open Jvm Jvm.ClassFile Sem Op Lib Jvm.Free Jvm.Stand Jvm.Pilot.@@N@@.Jvm.D
/-! MADE BY PROGRAM (witnessworld.py) out of the Statement's table words and the real class files: 22 classes; the members and pool entries that the words name. The judged class is class 1, her method 1. -/
namespace start1
open Jvm.ClassFile
def u (s : String) : CpInfo := .utf8 (stringToUtf16 s)
/-- a pool by its gaps: so many unusable entries, then the entry; so many at the end -/
def gap : Nat → List CpInfo → List CpInfo
  | 0, r => r
  | n + 1, r => .unusable :: gap n r
def poolList (es : List (Nat × CpInfo)) (last : Nat) : List CpInfo := es.foldr (fun e r => gap e.1 (e.2 :: r)) (gap last [])
def pool (es : List (Nat × CpInfo)) (last : Nat) : Array CpInfo := ⟨poolList es last⟩
def fileOf (pool : Array CpInfo) (this : Nat) (attrs : Array Attribute := #[]) (ms : Array MethodInfo := #[]) (fl : Nat := 33) (sup : Nat := 0) (ifs : Array Nat := #[]) (fds : Array FieldInfo := #[]) : ClassFile where
  minorVersion := 0
  majorVersion := 65
  constantPool := pool
  accessFlags := fl
  thisClass := this
  superClass := sup
  interfaces := ifs
  fields := fds
  methods := ms
  attributes := attrs
def plain (name : String) (sup : Option ClassId) : Class where
  name := name
  kind := .ordinary
  loader := none
  accessFlags := 33
  super := sup
  interfaces := #[]
  cf := none
  fields := #[]
  methods := #[]
  instanceTypes := #[]
  staticTypes := #[]
  resolved := #[]
  callSites := []
  init := .initialized
  statics := none
  mirror := none

def pool0 : Array CpInfo := pool [(5, u "<init>"), (0, u "()V"), (1, .class_ 10), (1, u "java/lang/Object")] 113

def k0c0 : Code := { maxStack := 0, maxLocals := 1, code := object_method_1_code, exceptionTable := #[], attributes := #[] }
def k0m0 : Method := { name := "<init>", desc := "()V", sig := { parameters := [], returnType := none }, accessFlags := 1, code := some k0c0 }
/-- java/lang/Object -/
def k0 : Class := { plain "java/lang/Object" none with
  accessFlags := 33
  interfaces := #[]
  cf := some (fileOf pool0 8 #[] #[{ accessFlags := 1, nameIndex := 5, descriptorIndex := 6, attributes := #[] }] 33 0 #[] #[])
  fields := #[]
  methods := #[k0m0]
  instanceTypes := #[]
  staticTypes := #[]
  resolved := Array.replicate 124 none
  statics := none }

def pool1 : Array CpInfo := pool [(2, .class_ 4), (0, .nameAndType 5 6), (0, u "java/lang/Object"), (0, u "<init>"), (0, u "()V"), (0, .integer 2147483647), (0, .class_ 9), (0, u "com/example/quadrille/quadrille/formats/Chain"), (0, .methodref 8 3), (0, .methodref 12 13), (0, .class_ 14), (0, .nameAndType 15 16), (0, u "java/lang/Integer"), (0, u "valueOf"), (0, u "(I)Ljava/lang/Integer;"), (0, .methodref 8 18), (0, .nameAndType 19 20), (0, u "add"), (0, u "(Ljava/lang/Object;)Z"), (0, .methodref 8 22), (0, .nameAndType 23 24), (0, u "moveAll"), (0, u "(Lcom/example/quadrille/quadrille/formats/Chain;)V"), (0, .methodref 8 26), (0, .nameAndType 27 28), (0, u "size"), (0, u "()I"), (0, .methodref 8 30), (0, .nameAndType 31 32), (0, u "iterator"), (0, u "()Ljava/util/Iterator;"), (0, .interfaceMethodref 34 35), (0, .class_ 36), (0, .nameAndType 37 38), (0, u "java/util/Iterator"), (0, u "hasNext"), (0, u "()Z"), (0, .methodref 40 41), (0, .class_ 42), (0, .nameAndType 43 44), (0, u "com/example/quadrille/quadrille/formats/ChainMoveAllPinLaw"), (0, u "step"), (0, u "(Ljava/util/Iterator;ZI)Z"), (0, .interfaceMethodref 34 46), (0, .nameAndType 47 48), (0, u "next"), (0, u "()Ljava/lang/Object;"), (0, .methodref 12 50), (0, .nameAndType 51 28), (0, u "intValue"), (2, u "law"), (0, u "(IIIIII)Z")] 7

def k1m0 : Method := { name := "<init>", desc := "()V", sig := { parameters := [], returnType := none }, accessFlags := 1, code := none }
def k1c1 : Code := { maxStack := 4, maxLocals := 17, code := code, exceptionTable := #[], attributes := #[] }
def k1m1 : Method := { name := "law", desc := "(IIIIII)Z", sig := { parameters := [.int, .int, .int, .int, .int, .int], returnType := some .boolean }, accessFlags := 9, code := some k1c1 }
def k1c2 : Code := { maxStack := 2, maxLocals := 3, code := method_3_code, exceptionTable := #[], attributes := #[] }
def k1m2 : Method := { name := "step", desc := "(Ljava/util/Iterator;ZI)Z", sig := { parameters := [(.object "java/util/Iterator"), .boolean, .int], returnType := some .boolean }, accessFlags := 10, code := some k1c2 }
/-- com/example/quadrille/quadrille/formats/ChainMoveAllPinLaw -/
def k1 : Class := { plain "com/example/quadrille/quadrille/formats/ChainMoveAllPinLaw" (some 0) with
  accessFlags := 49
  interfaces := #[]
  cf := some (fileOf pool1 40 #[] #[{ accessFlags := 1, nameIndex := 5, descriptorIndex := 6, attributes := #[] }, { accessFlags := 9, nameIndex := 54, descriptorIndex := 55, attributes := #[] }, { accessFlags := 10, nameIndex := 43, descriptorIndex := 44, attributes := #[] }] 49 2 #[] #[])
  fields := #[]
  methods := #[k1m0, k1m1, k1m2]
  instanceTypes := #[]
  staticTypes := #[]
  resolved := Array.replicate 63 none
  statics := none }

def pool2 : Array CpInfo := pool [(8, .class_ 10), (1, u "java/lang/Iterable"), (24, .class_ 36), (0, u "java/lang/Object")] 25

/-- java/lang/Iterable -/
def k2 : Class := { plain "java/lang/Iterable" (some 0) with
  accessFlags := 1537
  interfaces := #[]
  cf := some (fileOf pool2 8 #[] #[] 1537 35 #[] #[])
  fields := #[]
  methods := #[]
  instanceTypes := #[]
  staticTypes := #[]
  resolved := Array.replicate 62 none
  statics := none }

def pool3 : Array CpInfo := pool [(10, .class_ 12), (1, u "java/util/Collection"), (47, .class_ 61), (0, u "java/lang/Object"), (0, .class_ 63), (0, u "java/lang/Iterable")] 51

/-- java/util/Collection -/
def k3 : Class := { plain "java/util/Collection" (some 0) with
  accessFlags := 1537
  interfaces := #[2]
  cf := some (fileOf pool3 10 #[] #[] 1537 60 #[62] #[])
  fields := #[]
  methods := #[]
  instanceTypes := #[]
  staticTypes := #[]
  resolved := Array.replicate 115 none
  statics := none }

def pool4 : Array CpInfo := pool [(1, .methodref 2 3), (0, .class_ 4), (0, .nameAndType 5 6), (0, u "java/lang/Object"), (0, u "<init>"), (0, u "()V"), (1, .class_ 10), (1, u "java/util/AbstractCollection"), (66, .class_ 78), (0, u "java/util/Collection")] 81

def k4c0 : Code := { maxStack := 1, maxLocals := 1, code := jdk_22_method_1_code, exceptionTable := #[], attributes := #[] }
def k4m0 : Method := { name := "<init>", desc := "()V", sig := { parameters := [], returnType := none }, accessFlags := 4, code := some k4c0 }
/-- java/util/AbstractCollection -/
def k4 : Class := { plain "java/util/AbstractCollection" (some 0) with
  accessFlags := 1057
  interfaces := #[3]
  cf := some (fileOf pool4 8 #[] #[{ accessFlags := 4, nameIndex := 5, descriptorIndex := 6, attributes := #[] }] 1057 2 #[77] #[])
  fields := #[]
  methods := #[k4m0]
  instanceTypes := #[]
  staticTypes := #[]
  resolved := Array.replicate 160 none
  statics := none }

def pool5 : Array CpInfo := pool [(1, .methodref 2 3), (0, .class_ 4), (0, .nameAndType 5 6), (0, u "java/util/AbstractCollection"), (0, u "<init>"), (0, u "()V"), (0, .class_ 8), (0, u "com/example/quadrille/quadrille/formats/Chain$Link"), (0, .methodref 7 10), (0, .nameAndType 5 11), (0, u "(Ljava/lang/Object;)V"), (0, .fieldref 13 14), (0, .class_ 15), (0, .nameAndType 16 17), (0, u "com/example/quadrille/quadrille/formats/Chain"), (0, u "last"), (0, u "Lcom/example/quadrille/quadrille/formats/Chain$Link;"), (0, .fieldref 13 19), (0, .nameAndType 20 17), (0, u "first"), (0, .fieldref 7 22), (0, .nameAndType 23 17), (0, u "next"), (0, .fieldref 13 25), (0, .nameAndType 26 27), (0, u "size"), (0, u "I"), (0, .class_ 29), (0, u "com/example/quadrille/quadrille/formats/Chain$1"), (0, .methodref 28 31), (0, .nameAndType 5 32), (0, u "(Lcom/example/quadrille/quadrille/formats/Chain;)V"), (4, u "add"), (0, u "(Ljava/lang/Object;)Z"), (2, u "moveAll"), (1, u "iterator"), (0, u "()Ljava/util/Iterator;"), (1, u "()I")] 6

def k5c0 : Code := { maxStack := 1, maxLocals := 1, code := prog_55_method_1_code, exceptionTable := #[], attributes := #[] }
def k5m0 : Method := { name := "<init>", desc := "()V", sig := { parameters := [], returnType := none }, accessFlags := 0, code := some k5c0 }
def k5c1 : Code := { maxStack := 3, maxLocals := 3, code := prog_55_method_2_code, exceptionTable := #[], attributes := #[] }
def k5m1 : Method := { name := "add", desc := "(Ljava/lang/Object;)Z", sig := { parameters := [(.object "java/lang/Object")], returnType := some .boolean }, accessFlags := 1, code := some k5c1 }
def k5c2 : Code := { maxStack := 3, maxLocals := 2, code := prog_55_method_3_code, exceptionTable := #[], attributes := #[] }
def k5m2 : Method := { name := "moveAll", desc := "(Lcom/example/quadrille/quadrille/formats/Chain;)V", sig := { parameters := [(.object "com/example/quadrille/quadrille/formats/Chain")], returnType := none }, accessFlags := 0, code := some k5c2 }
def k5c3 : Code := { maxStack := 3, maxLocals := 1, code := prog_55_method_4_code, exceptionTable := #[], attributes := #[] }
def k5m3 : Method := { name := "iterator", desc := "()Ljava/util/Iterator;", sig := { parameters := [], returnType := some (.object "java/util/Iterator") }, accessFlags := 1, code := some k5c3 }
def k5c4 : Code := { maxStack := 1, maxLocals := 1, code := prog_55_method_5_code, exceptionTable := #[], attributes := #[] }
def k5m4 : Method := { name := "size", desc := "()I", sig := { parameters := [], returnType := some .int }, accessFlags := 1, code := some k5c4 }
/-- com/example/quadrille/quadrille/formats/Chain -/
def k5 : Class := { plain "com/example/quadrille/quadrille/formats/Chain" (some 4) with
  accessFlags := 48
  interfaces := #[]
  cf := some (fileOf pool5 13 #[.nestMembers #[7, 28]] #[{ accessFlags := 0, nameIndex := 5, descriptorIndex := 6, attributes := #[] }, { accessFlags := 1, nameIndex := 37, descriptorIndex := 38, attributes := #[] }, { accessFlags := 0, nameIndex := 41, descriptorIndex := 32, attributes := #[] }, { accessFlags := 1, nameIndex := 43, descriptorIndex := 44, attributes := #[] }, { accessFlags := 1, nameIndex := 26, descriptorIndex := 46, attributes := #[] }] 48 2 #[] #[{ accessFlags := 2, nameIndex := 20, descriptorIndex := 17, attributes := #[] }, { accessFlags := 2, nameIndex := 16, descriptorIndex := 17, attributes := #[] }, { accessFlags := 2, nameIndex := 26, descriptorIndex := 27, attributes := #[] }])
  fields := #[{ name := "first", type := (.object "com/example/quadrille/quadrille/formats/Chain$Link"), accessFlags := 2, slot := 0, constantValue := 0 }, { name := "last", type := (.object "com/example/quadrille/quadrille/formats/Chain$Link"), accessFlags := 2, slot := 1, constantValue := 0 }, { name := "size", type := .int, accessFlags := 2, slot := 2, constantValue := 0 }]
  methods := #[k5m0, k5m1, k5m2, k5m3, k5m4]
  instanceTypes := #[(.object "com/example/quadrille/quadrille/formats/Chain$Link"), (.object "com/example/quadrille/quadrille/formats/Chain$Link"), .int]
  staticTypes := #[]
  resolved := (((Array.replicate 53 none).setIfInBounds 7 (some (.cls 15))).setIfInBounds 9 (some (.method ⟨15, 0⟩))).setIfInBounds 21 (some (.field 15 1))
  statics := none }

def pool6 : Array CpInfo := pool [(16, .class_ 18), (1, u "java/util/Iterator"), (0, u "hasNext"), (0, u "()Z"), (2, u "next"), (0, u "()Ljava/lang/Object;"), (6, .class_ 32), (0, u "java/lang/Object")] 20

def k6m0 : Method := { name := "hasNext", desc := "()Z", sig := { parameters := [], returnType := some .boolean }, accessFlags := 1025, code := none }
def k6m1 : Method := { name := "next", desc := "()Ljava/lang/Object;", sig := { parameters := [], returnType := some (.object "java/lang/Object") }, accessFlags := 1025, code := none }
/-- java/util/Iterator -/
def k6 : Class := { plain "java/util/Iterator" (some 0) with
  accessFlags := 1537
  interfaces := #[]
  cf := some (fileOf pool6 16 #[] #[{ accessFlags := 1025, nameIndex := 19, descriptorIndex := 20, attributes := #[] }, { accessFlags := 1025, nameIndex := 23, descriptorIndex := 24, attributes := #[] }] 1537 31 #[] #[])
  fields := #[]
  methods := #[k6m0, k6m1]
  instanceTypes := #[]
  staticTypes := #[]
  resolved := Array.replicate 53 none
  statics := none }

def pool7 : Array CpInfo := pool [(1, .fieldref 2 3), (0, .class_ 4), (0, .nameAndType 5 6), (0, u "com/example/quadrille/quadrille/formats/Chain$1"), (0, u "this$0"), (0, u "Lcom/example/quadrille/quadrille/formats/Chain;"), (0, .methodref 8 9), (0, .class_ 10), (0, .nameAndType 11 12), (0, u "java/lang/Object"), (0, u "<init>"), (0, u "()V"), (0, .fieldref 14 15), (0, .class_ 16), (0, .nameAndType 17 18), (0, u "com/example/quadrille/quadrille/formats/Chain"), (0, u "first"), (0, u "Lcom/example/quadrille/quadrille/formats/Chain$Link;"), (0, .fieldref 2 20), (0, .nameAndType 21 18), (0, u "next"), (3, .fieldref 26 27), (0, .class_ 28), (0, .nameAndType 29 30), (0, u "com/example/quadrille/quadrille/formats/Chain$Link"), (0, u "element"), (0, u "Ljava/lang/Object;"), (0, .fieldref 26 20), (0, .class_ 33), (0, u "java/util/Iterator"), (2, u "(Lcom/example/quadrille/quadrille/formats/Chain;)V"), (3, u "hasNext"), (0, u "()Z"), (1, u "()Ljava/lang/Object;")] 11

def k7c0 : Code := { maxStack := 2, maxLocals := 2, code := prog_56_method_1_code, exceptionTable := #[], attributes := #[] }
def k7m0 : Method := { name := "<init>", desc := "(Lcom/example/quadrille/quadrille/formats/Chain;)V", sig := { parameters := [(.object "com/example/quadrille/quadrille/formats/Chain")], returnType := none }, accessFlags := 0, code := some k7c0 }
def k7c1 : Code := { maxStack := 1, maxLocals := 1, code := prog_56_method_2_code, exceptionTable := #[], attributes := #[] }
def k7m1 : Method := { name := "hasNext", desc := "()Z", sig := { parameters := [], returnType := some .boolean }, accessFlags := 1, code := some k7c1 }
def k7c2 : Code := { maxStack := 2, maxLocals := 2, code := prog_56_method_3_code, exceptionTable := #[], attributes := #[] }
def k7m2 : Method := { name := "next", desc := "()Ljava/lang/Object;", sig := { parameters := [], returnType := some (.object "java/lang/Object") }, accessFlags := 1, code := some k7c2 }
/-- com/example/quadrille/quadrille/formats/Chain$1 -/
def k7 : Class := { plain "com/example/quadrille/quadrille/formats/Chain$1" (some 0) with
  accessFlags := 32
  interfaces := #[6]
  cf := some (fileOf pool7 2 #[.nestHost 14] #[{ accessFlags := 0, nameIndex := 11, descriptorIndex := 36, attributes := #[] }, { accessFlags := 1, nameIndex := 40, descriptorIndex := 41, attributes := #[] }, { accessFlags := 1, nameIndex := 21, descriptorIndex := 43, attributes := #[] }] 32 8 #[32] #[{ accessFlags := 2, nameIndex := 21, descriptorIndex := 18, attributes := #[] }, { accessFlags := 4112, nameIndex := 5, descriptorIndex := 6, attributes := #[] }])
  fields := #[{ name := "next", type := (.object "com/example/quadrille/quadrille/formats/Chain$Link"), accessFlags := 2, slot := 0, constantValue := 0 }, { name := "this$0", type := (.object "com/example/quadrille/quadrille/formats/Chain"), accessFlags := 4112, slot := 1, constantValue := 0 }]
  methods := #[k7m0, k7m1, k7m2]
  instanceTypes := #[(.object "com/example/quadrille/quadrille/formats/Chain$Link"), (.object "com/example/quadrille/quadrille/formats/Chain")]
  staticTypes := #[]
  resolved := Array.replicate 55 none
  statics := none }

def pool8 : Array CpInfo := pool [(1, .class_ 2), (0, u "java/io/Serializable"), (0, .class_ 4), (0, u "java/lang/Object")] 2

/-- java/io/Serializable -/
def k8 : Class := { plain "java/io/Serializable" (some 0) with
  accessFlags := 1537
  interfaces := #[]
  cf := some (fileOf pool8 1 #[] #[] 1537 3 #[] #[])
  fields := #[]
  methods := #[]
  instanceTypes := #[]
  staticTypes := #[]
  resolved := Array.replicate 7 none
  statics := none }

def pool9 : Array CpInfo := pool [(1, .methodref 2 3), (0, .class_ 4), (0, .nameAndType 5 6), (0, u "java/lang/Object"), (0, u "<init>"), (0, u "()V"), (1, .class_ 10), (1, u "java/lang/Number"), (2, .class_ 14), (0, u "java/io/Serializable"), (0, u "serialVersionUID"), (0, u "J")] 20

def k9c0 : Code := { maxStack := 1, maxLocals := 1, code := jdk_18_method_1_code, exceptionTable := #[], attributes := #[] }
def k9m0 : Method := { name := "<init>", desc := "()V", sig := { parameters := [], returnType := none }, accessFlags := 1, code := some k9c0 }
/-- java/lang/Number -/
def k9 : Class := { plain "java/lang/Number" (some 0) with
  accessFlags := 1057
  interfaces := #[8]
  cf := some (fileOf pool9 8 #[] #[{ accessFlags := 1, nameIndex := 5, descriptorIndex := 6, attributes := #[] }] 1057 2 #[13] #[{ accessFlags := 26, nameIndex := 15, descriptorIndex := 16, attributes := #[] }])
  fields := #[{ name := "serialVersionUID", type := .long, accessFlags := 26, slot := 0, constantValue := 0 }]
  methods := #[k9m0]
  instanceTypes := #[]
  staticTypes := #[.long]
  resolved := Array.replicate 37 none
  statics := none }

def pool10 : Array CpInfo := pool [(1, .class_ 2), (0, u "java/lang/Comparable"), (0, .class_ 4), (0, u "java/lang/Object")] 7

/-- java/lang/Comparable -/
def k10 : Class := { plain "java/lang/Comparable" (some 0) with
  accessFlags := 1537
  interfaces := #[]
  cf := some (fileOf pool10 1 #[] #[] 1537 3 #[] #[])
  fields := #[]
  methods := #[]
  instanceTypes := #[]
  staticTypes := #[]
  resolved := Array.replicate 12 none
  statics := none }

def pool11 : Array CpInfo := pool [(1, .class_ 2), (0, u "java/lang/constant/Constable"), (0, .class_ 4), (0, u "java/lang/Object")] 6

/-- java/lang/constant/Constable -/
def k11 : Class := { plain "java/lang/constant/Constable" (some 0) with
  accessFlags := 1537
  interfaces := #[]
  cf := some (fileOf pool11 1 #[] #[] 1537 3 #[] #[])
  fields := #[]
  methods := #[]
  instanceTypes := #[]
  staticTypes := #[]
  resolved := Array.replicate 11 none
  statics := none }

def pool12 : Array CpInfo := pool [(1, .class_ 2), (0, u "java/lang/constant/ConstantDesc"), (0, .class_ 4), (0, u "java/lang/Object")] 32

/-- java/lang/constant/ConstantDesc -/
def k12 : Class := { plain "java/lang/constant/ConstantDesc" (some 0) with
  accessFlags := 1537
  interfaces := #[]
  cf := some (fileOf pool12 1 #[] #[] 1537 3 #[] #[])
  fields := #[]
  methods := #[]
  instanceTypes := #[]
  staticTypes := #[]
  resolved := Array.replicate 37 none
  statics := none }

def pool13 : Array CpInfo := pool [(1, .class_ 2), (0, u "java/lang/Integer"), (16, u "digits"), (0, u "[C"), (46, u "<init>"), (17, u "DigitOnes"), (0, u "[B"), (2, u "DigitTens"), (10, .nameAndType 67 101), (0, u "()V"), (19, u "()I"), (65, u "valueOf"), (0, u "(I)Ljava/lang/Integer;"), (0, .class_ 190), (0, u "java/lang/Integer$IntegerCache"), (0, .fieldref 189 192), (0, .nameAndType 193 194), (0, u "high"), (0, u "I"), (0, .fieldref 189 196), (0, .nameAndType 197 198), (0, u "cache"), (0, u "[Ljava/lang/Integer;"), (0, .methodref 1 200), (0, .nameAndType 67 201), (0, u "(I)V"), (0, .methodref 203 100), (0, .class_ 204), (0, u "java/lang/Number"), (0, .fieldref 1 206), (0, .nameAndType 207 194), (0, u "value"), (5, u "intValue"), (88, u "TYPE"), (0, u "Ljava/lang/Class;"), (0, .class_ 305), (0, u "java/lang/Comparable"), (0, .class_ 307), (0, u "java/lang/constant/Constable"), (0, .class_ 309), (0, u "java/lang/constant/ConstantDesc"), (0, u "MIN_VALUE"), (1, u "MAX_VALUE"), (3, u "SIZE"), (1, u "BYTES"), (1, u "serialVersionUID"), (0, u "J")] 131

def k13c0 : Code := { maxStack := 3, maxLocals := 1, code := jdk_33_method_22_code, exceptionTable := #[], attributes := #[] }
def k13m0 : Method := { name := "valueOf", desc := "(I)Ljava/lang/Integer;", sig := { parameters := [.int], returnType := some (.object "java/lang/Integer") }, accessFlags := 9, code := some k13c0 }
def k13c1 : Code := { maxStack := 2, maxLocals := 2, code := jdk_33_method_23_code, exceptionTable := #[], attributes := #[] }
def k13m1 : Method := { name := "<init>", desc := "(I)V", sig := { parameters := [.int], returnType := none }, accessFlags := 1, code := some k13c1 }
def k13c2 : Code := { maxStack := 1, maxLocals := 1, code := jdk_33_method_27_code, exceptionTable := #[], attributes := #[] }
def k13m2 : Method := { name := "intValue", desc := "()I", sig := { parameters := [], returnType := some .int }, accessFlags := 1, code := some k13c2 }
/-- java/lang/Integer -/
def k13 : Class := { plain "java/lang/Integer" (some 9) with
  accessFlags := 49
  interfaces := #[10, 11, 12]
  cf := some (fileOf pool13 1 #[.nestMembers #[189]] #[{ accessFlags := 9, nameIndex := 187, descriptorIndex := 188, attributes := #[] }, { accessFlags := 1, nameIndex := 67, descriptorIndex := 201, attributes := #[] }, { accessFlags := 1, nameIndex := 213, descriptorIndex := 121, attributes := #[] }] 49 203 #[304, 306, 308] #[{ accessFlags := 25, nameIndex := 310, descriptorIndex := 194, attributes := #[] }, { accessFlags := 25, nameIndex := 312, descriptorIndex := 194, attributes := #[] }, { accessFlags := 25, nameIndex := 302, descriptorIndex := 303, attributes := #[] }, { accessFlags := 24, nameIndex := 19, descriptorIndex := 20, attributes := #[] }, { accessFlags := 24, nameIndex := 89, descriptorIndex := 86, attributes := #[] }, { accessFlags := 24, nameIndex := 85, descriptorIndex := 86, attributes := #[] }, { accessFlags := 18, nameIndex := 207, descriptorIndex := 194, attributes := #[] }, { accessFlags := 25, nameIndex := 316, descriptorIndex := 194, attributes := #[] }, { accessFlags := 25, nameIndex := 318, descriptorIndex := 194, attributes := #[] }, { accessFlags := 26, nameIndex := 320, descriptorIndex := 321, attributes := #[] }])
  fields := #[{ name := "MIN_VALUE", type := .int, accessFlags := 25, slot := 0, constantValue := 0 }, { name := "MAX_VALUE", type := .int, accessFlags := 25, slot := 1, constantValue := 0 }, { name := "TYPE", type := (.object "java/lang/Class"), accessFlags := 25, slot := 2, constantValue := 0 }, { name := "digits", type := (.array .char), accessFlags := 24, slot := 3, constantValue := 0 }, { name := "DigitTens", type := (.array .byte), accessFlags := 24, slot := 4, constantValue := 0 }, { name := "DigitOnes", type := (.array .byte), accessFlags := 24, slot := 5, constantValue := 0 }, { name := "value", type := .int, accessFlags := 18, slot := 0, constantValue := 0 }, { name := "SIZE", type := .int, accessFlags := 25, slot := 6, constantValue := 0 }, { name := "BYTES", type := .int, accessFlags := 25, slot := 7, constantValue := 0 }, { name := "serialVersionUID", type := .long, accessFlags := 26, slot := 8, constantValue := 0 }]
  methods := #[k13m0, k13m1, k13m2]
  instanceTypes := #[.int]
  staticTypes := #[.int, .int, (.object "java/lang/Class"), (.array .char), (.array .byte), (.array .byte), .int, .int, .long]
  resolved := Array.replicate 453 none
  statics := none }

def pool14 : Array CpInfo := pool [(2, .class_ 4), (1, u "java/lang/Object"), (0, u "<init>"), (0, u "()V"), (0, .class_ 8), (0, u "java/lang/Integer"), (7, .class_ 18), (1, u "java/lang/Integer$IntegerCache"), (0, u "$assertionsDisabled"), (0, u "Z"), (26, u "high"), (0, u "I"), (8, u "archivedCache"), (0, u "[Ljava/lang/Integer;"), (12, u "cache"), (0, u "low")] 27

def k14m0 : Method := { name := "<init>", desc := "()V", sig := { parameters := [], returnType := none }, accessFlags := 2, code := none }
/-- java/lang/Integer$IntegerCache -/
def k14 : Class := { plain "java/lang/Integer$IntegerCache" (some 0) with
  accessFlags := 48
  interfaces := #[]
  cf := some (fileOf pool14 16 #[.nestHost 7] #[{ accessFlags := 2, nameIndex := 5, descriptorIndex := 6, attributes := #[] }] 48 2 #[] #[{ accessFlags := 24, nameIndex := 72, descriptorIndex := 48, attributes := #[] }, { accessFlags := 24, nameIndex := 47, descriptorIndex := 48, attributes := #[] }, { accessFlags := 24, nameIndex := 71, descriptorIndex := 58, attributes := #[] }, { accessFlags := 8, nameIndex := 57, descriptorIndex := 58, attributes := #[] }, { accessFlags := 4120, nameIndex := 19, descriptorIndex := 20, attributes := #[] }])
  fields := #[{ name := "low", type := .int, accessFlags := 24, slot := 0, constantValue := 0 }, { name := "high", type := .int, accessFlags := 24, slot := 1, constantValue := 0 }, { name := "cache", type := (.array (.object "java/lang/Integer")), accessFlags := 24, slot := 2, constantValue := 0 }, { name := "archivedCache", type := (.array (.object "java/lang/Integer")), accessFlags := 8, slot := 3, constantValue := 0 }, { name := "$assertionsDisabled", type := .boolean, accessFlags := 4120, slot := 4, constantValue := 0 }]
  methods := #[k14m0]
  instanceTypes := #[]
  staticTypes := #[.int, .int, (.array (.object "java/lang/Integer")), (.array (.object "java/lang/Integer")), .boolean]
  resolved := Array.replicate 100 none
  statics := some 0 }

def pool15 : Array CpInfo := pool [(1, .methodref 2 3), (0, .class_ 4), (0, .nameAndType 5 6), (0, u "java/lang/Object"), (0, u "<init>"), (0, u "()V"), (0, .fieldref 8 9), (0, .class_ 10), (0, .nameAndType 11 12), (0, u "com/example/quadrille/quadrille/formats/Chain$Link"), (0, u "element"), (0, u "Ljava/lang/Object;"), (2, u "next"), (0, u "Lcom/example/quadrille/quadrille/formats/Chain$Link;"), (1, u "(Ljava/lang/Object;)V"), (7, .class_ 27), (0, u "com/example/quadrille/quadrille/formats/Chain")] 2

def k15c0 : Code := { maxStack := 2, maxLocals := 2, code := prog_57_method_1_code, exceptionTable := #[], attributes := #[] }
def k15m0 : Method := { name := "<init>", desc := "(Ljava/lang/Object;)V", sig := { parameters := [(.object "java/lang/Object")], returnType := none }, accessFlags := 2, code := some k15c0 }
/-- com/example/quadrille/quadrille/formats/Chain$Link -/
def k15 : Class := { plain "com/example/quadrille/quadrille/formats/Chain$Link" (some 0) with
  accessFlags := 48
  interfaces := #[]
  cf := some (fileOf pool15 8 #[.nestHost 26] #[{ accessFlags := 2, nameIndex := 5, descriptorIndex := 18, attributes := #[] }] 48 2 #[] #[{ accessFlags := 18, nameIndex := 11, descriptorIndex := 12, attributes := #[] }, { accessFlags := 2, nameIndex := 15, descriptorIndex := 16, attributes := #[] }])
  fields := #[{ name := "element", type := (.object "java/lang/Object"), accessFlags := 18, slot := 0, constantValue := 0 }, { name := "next", type := (.object "com/example/quadrille/quadrille/formats/Chain$Link"), accessFlags := 2, slot := 1, constantValue := 0 }]
  methods := #[k15m0]
  instanceTypes := #[(.object "java/lang/Object"), (.object "com/example/quadrille/quadrille/formats/Chain$Link")]
  staticTypes := #[]
  resolved := Array.replicate 30 none
  statics := none }

def pool16 : Array CpInfo := pool [(1, u "java/lang/Cloneable"), (0, .class_ 1), (0, u "java/lang/Object"), (0, .class_ 3)] 3

/-- java/lang/Cloneable -/
def k16 : Class := { plain "java/lang/Cloneable" (some 0) with
  accessFlags := 1537
  interfaces := #[]
  cf := some (fileOf pool16 2 #[] #[] 1537 4 #[] #[])
  fields := #[]
  methods := #[]
  instanceTypes := #[]
  staticTypes := #[]
  resolved := Array.replicate 8 none
  statics := none }

/-- the primitive byte -/
def k17 : Class := { plain "byte" none with kind := .primitive 'B', accessFlags := 0x411 }
/-- [B -/
def k18 : Class := { plain "[B" (some 0) with kind := .array 17 .byte, interfaces := #[16, 8], accessFlags := 1041 }

/-- the primitive int -/
def k19 : Class := { plain "int" none with kind := .primitive 'I', accessFlags := 0x411 }
/-- [I -/
def k20 : Class := { plain "[I" (some 0) with kind := .array 19 .int, interfaces := #[16, 8], accessFlags := 1041 }

/-- [Ljava/lang/Integer; -/
def k21 : Class := { plain "[Ljava/lang/Integer;" (some 0) with kind := .array 13 (.object "java/lang/Integer"), interfaces := #[16, 8], accessFlags := 1041 }

def heap : Heap := #[{ cls := 14, slots := #[.int 0, .int 127, .ref 1, .null, .int 0], vm := .statics 14 },
  { cls := 21, slots := #[.ref 2, .ref 3, .ref 4, .ref 5, .ref 6, .ref 7, .ref 8, .ref 9, .ref 10, .ref 11, .ref 12, .ref 13, .ref 14, .ref 15, .ref 16, .ref 17, .ref 18, .ref 19, .ref 20, .ref 21, .ref 22, .ref 23, .ref 24, .ref 25, .ref 26, .ref 27, .ref 28, .ref 29, .ref 30, .ref 31, .ref 32, .ref 33, .ref 34, .ref 35, .ref 36, .ref 37, .ref 38, .ref 39, .ref 40, .ref 41, .ref 42, .ref 43, .ref 44, .ref 45, .ref 46, .ref 47, .ref 48, .ref 49, .ref 50, .ref 51, .ref 52, .ref 53, .ref 54, .ref 55, .ref 56, .ref 57, .ref 58, .ref 59, .ref 60, .ref 61, .ref 62, .ref 63, .ref 64, .ref 65, .ref 66, .ref 67, .ref 68, .ref 69, .ref 70, .ref 71, .ref 72, .ref 73, .ref 74, .ref 75, .ref 76, .ref 77, .ref 78, .ref 79, .ref 80, .ref 81, .ref 82, .ref 83, .ref 84, .ref 85, .ref 86, .ref 87, .ref 88, .ref 89, .ref 90, .ref 91, .ref 92, .ref 93, .ref 94, .ref 95, .ref 96, .ref 97, .ref 98, .ref 99, .ref 100, .ref 101, .ref 102, .ref 103, .ref 104, .ref 105, .ref 106, .ref 107, .ref 108, .ref 109, .ref 110, .ref 111, .ref 112, .ref 113, .ref 114, .ref 115, .ref 116, .ref 117, .ref 118, .ref 119, .ref 120, .ref 121, .ref 122, .ref 123, .ref 124, .ref 125, .ref 126, .ref 127, .ref 128, .ref 129, .ref 130, .ref 131, .ref 132, .ref 133, .ref 134, .ref 135, .ref 136, .ref 137, .ref 138, .ref 139, .ref 140, .ref 141, .ref 142, .ref 143, .ref 144, .ref 145, .ref 146, .ref 147, .ref 148, .ref 149, .ref 150, .ref 151, .ref 152, .ref 153, .ref 154, .ref 155, .ref 156, .ref 157, .ref 158, .ref 159, .ref 160, .ref 161, .ref 162, .ref 163, .ref 164, .ref 165, .ref 166, .ref 167, .ref 168, .ref 169, .ref 170, .ref 171, .ref 172, .ref 173, .ref 174, .ref 175, .ref 176, .ref 177, .ref 178, .ref 179, .ref 180, .ref 181, .ref 182, .ref 183, .ref 184, .ref 185, .ref 186, .ref 187, .ref 188, .ref 189, .ref 190, .ref 191, .ref 192, .ref 193, .ref 194, .ref 195, .ref 196, .ref 197, .ref 198, .ref 199, .ref 200, .ref 201, .ref 202, .ref 203, .ref 204, .ref 205, .ref 206, .ref 207, .ref 208, .ref 209, .ref 210, .ref 211, .ref 212, .ref 213, .ref 214, .ref 215, .ref 216, .ref 217, .ref 218, .ref 219, .ref 220, .ref 221, .ref 222, .ref 223, .ref 224, .ref 225, .ref 226, .ref 227, .ref 228, .ref 229, .ref 230, .ref 231, .ref 232, .ref 233, .ref 234, .ref 235, .ref 236, .ref 237, .ref 238, .ref 239, .ref 240, .ref 241, .ref 242, .ref 243, .ref 244, .ref 245, .ref 246, .ref 247, .ref 248, .ref 249, .ref 250, .ref 251, .ref 252, .ref 253, .ref 254, .ref 255, .ref 256, .ref 257], vm := .none },
  { cls := 13, slots := #[.int (-128)], vm := .none },
  { cls := 13, slots := #[.int (-127)], vm := .none },
  { cls := 13, slots := #[.int (-126)], vm := .none },
  { cls := 13, slots := #[.int (-125)], vm := .none },
  { cls := 13, slots := #[.int (-124)], vm := .none },
  { cls := 13, slots := #[.int (-123)], vm := .none },
  { cls := 13, slots := #[.int (-122)], vm := .none },
  { cls := 13, slots := #[.int (-121)], vm := .none },
  { cls := 13, slots := #[.int (-120)], vm := .none },
  { cls := 13, slots := #[.int (-119)], vm := .none },
  { cls := 13, slots := #[.int (-118)], vm := .none },
  { cls := 13, slots := #[.int (-117)], vm := .none },
  { cls := 13, slots := #[.int (-116)], vm := .none },
  { cls := 13, slots := #[.int (-115)], vm := .none },
  { cls := 13, slots := #[.int (-114)], vm := .none },
  { cls := 13, slots := #[.int (-113)], vm := .none },
  { cls := 13, slots := #[.int (-112)], vm := .none },
  { cls := 13, slots := #[.int (-111)], vm := .none },
  { cls := 13, slots := #[.int (-110)], vm := .none },
  { cls := 13, slots := #[.int (-109)], vm := .none },
  { cls := 13, slots := #[.int (-108)], vm := .none },
  { cls := 13, slots := #[.int (-107)], vm := .none },
  { cls := 13, slots := #[.int (-106)], vm := .none },
  { cls := 13, slots := #[.int (-105)], vm := .none },
  { cls := 13, slots := #[.int (-104)], vm := .none },
  { cls := 13, slots := #[.int (-103)], vm := .none },
  { cls := 13, slots := #[.int (-102)], vm := .none },
  { cls := 13, slots := #[.int (-101)], vm := .none },
  { cls := 13, slots := #[.int (-100)], vm := .none },
  { cls := 13, slots := #[.int (-99)], vm := .none },
  { cls := 13, slots := #[.int (-98)], vm := .none },
  { cls := 13, slots := #[.int (-97)], vm := .none },
  { cls := 13, slots := #[.int (-96)], vm := .none },
  { cls := 13, slots := #[.int (-95)], vm := .none },
  { cls := 13, slots := #[.int (-94)], vm := .none },
  { cls := 13, slots := #[.int (-93)], vm := .none },
  { cls := 13, slots := #[.int (-92)], vm := .none },
  { cls := 13, slots := #[.int (-91)], vm := .none },
  { cls := 13, slots := #[.int (-90)], vm := .none },
  { cls := 13, slots := #[.int (-89)], vm := .none },
  { cls := 13, slots := #[.int (-88)], vm := .none },
  { cls := 13, slots := #[.int (-87)], vm := .none },
  { cls := 13, slots := #[.int (-86)], vm := .none },
  { cls := 13, slots := #[.int (-85)], vm := .none },
  { cls := 13, slots := #[.int (-84)], vm := .none },
  { cls := 13, slots := #[.int (-83)], vm := .none },
  { cls := 13, slots := #[.int (-82)], vm := .none },
  { cls := 13, slots := #[.int (-81)], vm := .none },
  { cls := 13, slots := #[.int (-80)], vm := .none },
  { cls := 13, slots := #[.int (-79)], vm := .none },
  { cls := 13, slots := #[.int (-78)], vm := .none },
  { cls := 13, slots := #[.int (-77)], vm := .none },
  { cls := 13, slots := #[.int (-76)], vm := .none },
  { cls := 13, slots := #[.int (-75)], vm := .none },
  { cls := 13, slots := #[.int (-74)], vm := .none },
  { cls := 13, slots := #[.int (-73)], vm := .none },
  { cls := 13, slots := #[.int (-72)], vm := .none },
  { cls := 13, slots := #[.int (-71)], vm := .none },
  { cls := 13, slots := #[.int (-70)], vm := .none },
  { cls := 13, slots := #[.int (-69)], vm := .none },
  { cls := 13, slots := #[.int (-68)], vm := .none },
  { cls := 13, slots := #[.int (-67)], vm := .none },
  { cls := 13, slots := #[.int (-66)], vm := .none },
  { cls := 13, slots := #[.int (-65)], vm := .none },
  { cls := 13, slots := #[.int (-64)], vm := .none },
  { cls := 13, slots := #[.int (-63)], vm := .none },
  { cls := 13, slots := #[.int (-62)], vm := .none },
  { cls := 13, slots := #[.int (-61)], vm := .none },
  { cls := 13, slots := #[.int (-60)], vm := .none },
  { cls := 13, slots := #[.int (-59)], vm := .none },
  { cls := 13, slots := #[.int (-58)], vm := .none },
  { cls := 13, slots := #[.int (-57)], vm := .none },
  { cls := 13, slots := #[.int (-56)], vm := .none },
  { cls := 13, slots := #[.int (-55)], vm := .none },
  { cls := 13, slots := #[.int (-54)], vm := .none },
  { cls := 13, slots := #[.int (-53)], vm := .none },
  { cls := 13, slots := #[.int (-52)], vm := .none },
  { cls := 13, slots := #[.int (-51)], vm := .none },
  { cls := 13, slots := #[.int (-50)], vm := .none },
  { cls := 13, slots := #[.int (-49)], vm := .none },
  { cls := 13, slots := #[.int (-48)], vm := .none },
  { cls := 13, slots := #[.int (-47)], vm := .none },
  { cls := 13, slots := #[.int (-46)], vm := .none },
  { cls := 13, slots := #[.int (-45)], vm := .none },
  { cls := 13, slots := #[.int (-44)], vm := .none },
  { cls := 13, slots := #[.int (-43)], vm := .none },
  { cls := 13, slots := #[.int (-42)], vm := .none },
  { cls := 13, slots := #[.int (-41)], vm := .none },
  { cls := 13, slots := #[.int (-40)], vm := .none },
  { cls := 13, slots := #[.int (-39)], vm := .none },
  { cls := 13, slots := #[.int (-38)], vm := .none },
  { cls := 13, slots := #[.int (-37)], vm := .none },
  { cls := 13, slots := #[.int (-36)], vm := .none },
  { cls := 13, slots := #[.int (-35)], vm := .none },
  { cls := 13, slots := #[.int (-34)], vm := .none },
  { cls := 13, slots := #[.int (-33)], vm := .none },
  { cls := 13, slots := #[.int (-32)], vm := .none },
  { cls := 13, slots := #[.int (-31)], vm := .none },
  { cls := 13, slots := #[.int (-30)], vm := .none },
  { cls := 13, slots := #[.int (-29)], vm := .none },
  { cls := 13, slots := #[.int (-28)], vm := .none },
  { cls := 13, slots := #[.int (-27)], vm := .none },
  { cls := 13, slots := #[.int (-26)], vm := .none },
  { cls := 13, slots := #[.int (-25)], vm := .none },
  { cls := 13, slots := #[.int (-24)], vm := .none },
  { cls := 13, slots := #[.int (-23)], vm := .none },
  { cls := 13, slots := #[.int (-22)], vm := .none },
  { cls := 13, slots := #[.int (-21)], vm := .none },
  { cls := 13, slots := #[.int (-20)], vm := .none },
  { cls := 13, slots := #[.int (-19)], vm := .none },
  { cls := 13, slots := #[.int (-18)], vm := .none },
  { cls := 13, slots := #[.int (-17)], vm := .none },
  { cls := 13, slots := #[.int (-16)], vm := .none },
  { cls := 13, slots := #[.int (-15)], vm := .none },
  { cls := 13, slots := #[.int (-14)], vm := .none },
  { cls := 13, slots := #[.int (-13)], vm := .none },
  { cls := 13, slots := #[.int (-12)], vm := .none },
  { cls := 13, slots := #[.int (-11)], vm := .none },
  { cls := 13, slots := #[.int (-10)], vm := .none },
  { cls := 13, slots := #[.int (-9)], vm := .none },
  { cls := 13, slots := #[.int (-8)], vm := .none },
  { cls := 13, slots := #[.int (-7)], vm := .none },
  { cls := 13, slots := #[.int (-6)], vm := .none },
  { cls := 13, slots := #[.int (-5)], vm := .none },
  { cls := 13, slots := #[.int (-4)], vm := .none },
  { cls := 13, slots := #[.int (-3)], vm := .none },
  { cls := 13, slots := #[.int (-2)], vm := .none },
  { cls := 13, slots := #[.int (-1)], vm := .none },
  { cls := 13, slots := #[.int (0)], vm := .none },
  { cls := 13, slots := #[.int (1)], vm := .none },
  { cls := 13, slots := #[.int (2)], vm := .none },
  { cls := 13, slots := #[.int (3)], vm := .none },
  { cls := 13, slots := #[.int (4)], vm := .none },
  { cls := 13, slots := #[.int (5)], vm := .none },
  { cls := 13, slots := #[.int (6)], vm := .none },
  { cls := 13, slots := #[.int (7)], vm := .none },
  { cls := 13, slots := #[.int (8)], vm := .none },
  { cls := 13, slots := #[.int (9)], vm := .none },
  { cls := 13, slots := #[.int (10)], vm := .none },
  { cls := 13, slots := #[.int (11)], vm := .none },
  { cls := 13, slots := #[.int (12)], vm := .none },
  { cls := 13, slots := #[.int (13)], vm := .none },
  { cls := 13, slots := #[.int (14)], vm := .none },
  { cls := 13, slots := #[.int (15)], vm := .none },
  { cls := 13, slots := #[.int (16)], vm := .none },
  { cls := 13, slots := #[.int (17)], vm := .none },
  { cls := 13, slots := #[.int (18)], vm := .none },
  { cls := 13, slots := #[.int (19)], vm := .none },
  { cls := 13, slots := #[.int (20)], vm := .none },
  { cls := 13, slots := #[.int (21)], vm := .none },
  { cls := 13, slots := #[.int (22)], vm := .none },
  { cls := 13, slots := #[.int (23)], vm := .none },
  { cls := 13, slots := #[.int (24)], vm := .none },
  { cls := 13, slots := #[.int (25)], vm := .none },
  { cls := 13, slots := #[.int (26)], vm := .none },
  { cls := 13, slots := #[.int (27)], vm := .none },
  { cls := 13, slots := #[.int (28)], vm := .none },
  { cls := 13, slots := #[.int (29)], vm := .none },
  { cls := 13, slots := #[.int (30)], vm := .none },
  { cls := 13, slots := #[.int (31)], vm := .none },
  { cls := 13, slots := #[.int (32)], vm := .none },
  { cls := 13, slots := #[.int (33)], vm := .none },
  { cls := 13, slots := #[.int (34)], vm := .none },
  { cls := 13, slots := #[.int (35)], vm := .none },
  { cls := 13, slots := #[.int (36)], vm := .none },
  { cls := 13, slots := #[.int (37)], vm := .none },
  { cls := 13, slots := #[.int (38)], vm := .none },
  { cls := 13, slots := #[.int (39)], vm := .none },
  { cls := 13, slots := #[.int (40)], vm := .none },
  { cls := 13, slots := #[.int (41)], vm := .none },
  { cls := 13, slots := #[.int (42)], vm := .none },
  { cls := 13, slots := #[.int (43)], vm := .none },
  { cls := 13, slots := #[.int (44)], vm := .none },
  { cls := 13, slots := #[.int (45)], vm := .none },
  { cls := 13, slots := #[.int (46)], vm := .none },
  { cls := 13, slots := #[.int (47)], vm := .none },
  { cls := 13, slots := #[.int (48)], vm := .none },
  { cls := 13, slots := #[.int (49)], vm := .none },
  { cls := 13, slots := #[.int (50)], vm := .none },
  { cls := 13, slots := #[.int (51)], vm := .none },
  { cls := 13, slots := #[.int (52)], vm := .none },
  { cls := 13, slots := #[.int (53)], vm := .none },
  { cls := 13, slots := #[.int (54)], vm := .none },
  { cls := 13, slots := #[.int (55)], vm := .none },
  { cls := 13, slots := #[.int (56)], vm := .none },
  { cls := 13, slots := #[.int (57)], vm := .none },
  { cls := 13, slots := #[.int (58)], vm := .none },
  { cls := 13, slots := #[.int (59)], vm := .none },
  { cls := 13, slots := #[.int (60)], vm := .none },
  { cls := 13, slots := #[.int (61)], vm := .none },
  { cls := 13, slots := #[.int (62)], vm := .none },
  { cls := 13, slots := #[.int (63)], vm := .none },
  { cls := 13, slots := #[.int (64)], vm := .none },
  { cls := 13, slots := #[.int (65)], vm := .none },
  { cls := 13, slots := #[.int (66)], vm := .none },
  { cls := 13, slots := #[.int (67)], vm := .none },
  { cls := 13, slots := #[.int (68)], vm := .none },
  { cls := 13, slots := #[.int (69)], vm := .none },
  { cls := 13, slots := #[.int (70)], vm := .none },
  { cls := 13, slots := #[.int (71)], vm := .none },
  { cls := 13, slots := #[.int (72)], vm := .none },
  { cls := 13, slots := #[.int (73)], vm := .none },
  { cls := 13, slots := #[.int (74)], vm := .none },
  { cls := 13, slots := #[.int (75)], vm := .none },
  { cls := 13, slots := #[.int (76)], vm := .none },
  { cls := 13, slots := #[.int (77)], vm := .none },
  { cls := 13, slots := #[.int (78)], vm := .none },
  { cls := 13, slots := #[.int (79)], vm := .none },
  { cls := 13, slots := #[.int (80)], vm := .none },
  { cls := 13, slots := #[.int (81)], vm := .none },
  { cls := 13, slots := #[.int (82)], vm := .none },
  { cls := 13, slots := #[.int (83)], vm := .none },
  { cls := 13, slots := #[.int (84)], vm := .none },
  { cls := 13, slots := #[.int (85)], vm := .none },
  { cls := 13, slots := #[.int (86)], vm := .none },
  { cls := 13, slots := #[.int (87)], vm := .none },
  { cls := 13, slots := #[.int (88)], vm := .none },
  { cls := 13, slots := #[.int (89)], vm := .none },
  { cls := 13, slots := #[.int (90)], vm := .none },
  { cls := 13, slots := #[.int (91)], vm := .none },
  { cls := 13, slots := #[.int (92)], vm := .none },
  { cls := 13, slots := #[.int (93)], vm := .none },
  { cls := 13, slots := #[.int (94)], vm := .none },
  { cls := 13, slots := #[.int (95)], vm := .none },
  { cls := 13, slots := #[.int (96)], vm := .none },
  { cls := 13, slots := #[.int (97)], vm := .none },
  { cls := 13, slots := #[.int (98)], vm := .none },
  { cls := 13, slots := #[.int (99)], vm := .none },
  { cls := 13, slots := #[.int (100)], vm := .none },
  { cls := 13, slots := #[.int (101)], vm := .none },
  { cls := 13, slots := #[.int (102)], vm := .none },
  { cls := 13, slots := #[.int (103)], vm := .none },
  { cls := 13, slots := #[.int (104)], vm := .none },
  { cls := 13, slots := #[.int (105)], vm := .none },
  { cls := 13, slots := #[.int (106)], vm := .none },
  { cls := 13, slots := #[.int (107)], vm := .none },
  { cls := 13, slots := #[.int (108)], vm := .none },
  { cls := 13, slots := #[.int (109)], vm := .none },
  { cls := 13, slots := #[.int (110)], vm := .none },
  { cls := 13, slots := #[.int (111)], vm := .none },
  { cls := 13, slots := #[.int (112)], vm := .none },
  { cls := 13, slots := #[.int (113)], vm := .none },
  { cls := 13, slots := #[.int (114)], vm := .none },
  { cls := 13, slots := #[.int (115)], vm := .none },
  { cls := 13, slots := #[.int (116)], vm := .none },
  { cls := 13, slots := #[.int (117)], vm := .none },
  { cls := 13, slots := #[.int (118)], vm := .none },
  { cls := 13, slots := #[.int (119)], vm := .none },
  { cls := 13, slots := #[.int (120)], vm := .none },
  { cls := 13, slots := #[.int (121)], vm := .none },
  { cls := 13, slots := #[.int (122)], vm := .none },
  { cls := 13, slots := #[.int (123)], vm := .none },
  { cls := 13, slots := #[.int (124)], vm := .none },
  { cls := 13, slots := #[.int (125)], vm := .none },
  { cls := 13, slots := #[.int (126)], vm := .none },
  { cls := 13, slots := #[.int (127)], vm := .none }]
def classes : Array Class := #[k0, k1, k2, k3, k4, k5, k6, k7, k8, k9, k10, k11, k12, k13, k14, k15, k16, k17, k18, k19, k20, k21]
def interned : List (Array UInt16 × Addr) := []
def slotsUsed : Nat := 517
def theMethod : MethodId := ⟨1, 1⟩
def args0 : Array Value := #[.int 0, .int 1, .int 2, .int 3, .int 4, .int 5]
def aboutOver (below : List Frame) : State where
  vm := { classes := classes, interned := interned.toArray }
  heap := heap
  slotsUsed := slotsUsed
  threads := #[{ frames := .invoking theMethod args0 :: below }]
def below0 : List Frame := [.native { method := ⟨0, 0⟩, args := #[] }]
def about1 : State := aboutOver below0
def p0 : Program := .bare "" "" ""
def e0 : Env := launch0.env 0 0 0
theorem w_frames : about1.frames = Frame.invoking theMethod args0 :: below0 := rfl
set_option maxRecDepth 65536 in
theorem w_args : argsFit about1.vm theMethod args0 = true := by decide +kernel
set_option maxRecDepth 65536 in
theorem w_heap : heapFits about1 = true := by decide +kernel
set_option maxRecDepth 65536 in
theorem w_runnable : about1.curStatus? = some .runnable := by decide +kernel
set_option maxRecDepth 65536 in
theorem w_alone : about1.alone = true := by decide +kernel
set_option maxRecDepth 65536 in
theorem w_named : about1.methodNamed? x = some theMethod := by decide +kernel
set_option maxRecDepth 65536 in
theorem w_hears : about1.hears theMethod below0 = true := by decide +kernel
set_option maxRecDepth 65536 in
theorem w_ripe : about1.ripe theMethod args0 below0 = true := by decide +kernel
theorem w_running : about1.status = .running := rfl
set_option maxRecDepth 65536 in
theorem w_room : about1.hasRoom e0.platform room_1 = true :=
  launch0.hasRoom_least _ room_1 (by decide +kernel) (by decide +kernel) (by decide +kernel) (by decide +kernel) (by decide +kernel) (by decide +kernel)
theorem allAtoms_all (ts : List Jvm.Cond) (a : Array Jvm.Value) (st : Jvm.State) : (allAtoms ts).before a st = ts.all (fun c => c.before a st) := by
  induction ts with
  | nil => rfl
  | cons c t ih =>
    show (Jvm.Cond.and c (allAtoms t)).before a st = _
    rw [Jvm.Cond.before_and, ih, List.all_cons]
def words1 : List Jvm.Cond := Jvm.Cond.code x code maxLocals ret :: tables_1
/-- a 'code' word, met by the world's own term for the bytes: nothing is compared byte by byte -/
theorem code_word {y : MethodName} {bytes : ByteArray} {mx : Nat} {rt : Option FieldType} {a : Array Value} {s : State} {m : MethodId} {meth : Method} {c : Code} (h1 : s.methodNamed? y = some m) (h2 : s.vm.method? m = some meth) (h3 : meth.code = some c) (h4 : c.code = bytes)
    (h5 : (c.maxLocals == mx && c.exceptionTable.isEmpty && decide (c.maxStack ≤ mostOperands) && decide (meth.sig.returnType = rt) && !meth.locks && decide (parseMethodDescriptor y.desc = some meth.sig)) = true) : (Jvm.Cond.code y bytes mx rt).before a s = true := by
  simp only [Bool.and_eq_true, beq_iff_eq, Bool.not_eq_true', decide_eq_true_eq] at h5
  obtain ⟨⟨⟨⟨⟨g1, g2⟩, g3⟩, g4⟩, g5⟩, g6⟩ := h5
  simp [Cond.before, Cond.holds, Cond.value, h1, h2, h3, h4, g1, g2, g3, g4, g5, g6]
def isCode : Jvm.Cond → Bool
  | .code _ _ _ _ => true
  | _ => false
theorem all_split {L : List Jvm.Cond} {P : Jvm.Cond → Bool} (h1 : L.all (fun c => isCode c || P c) = true) (h2 : ∀ c ∈ L.filter isCode, P c = true) : L.all P = true := by
  refine List.all_eq_true.mpr fun c hc => ?_
  have h := List.all_eq_true.mp h1 c hc
  rcases Bool.eq_false_or_eq_true (isCode c) with hi | hi
  · exact h2 c (List.mem_filter.mpr ⟨hc, hi⟩)
  · simpa [hi] using h
set_option maxRecDepth 65536 in
theorem w_c0 : (Jvm.Cond.code x code maxLocals ret).before args0 about1 = true := code_word (m := ⟨1, 1⟩) (meth := k1m1) (c := k1c1) (by decide +kernel) rfl rfl rfl (by decide +kernel)
set_option maxRecDepth 65536 in
theorem w_c1 : (Jvm.Cond.code ({ cls := "com/example/quadrille/quadrille/formats/Chain", name := "<init>", desc := "()V" } : Jvm.MethodName) prog_55_method_1_code (1 : Nat) (Option.none : Option Jvm.ClassFile.FieldType)).before args0 about1 = true := code_word (m := ⟨5, 0⟩) (meth := k5m0) (c := k5c0) (by decide +kernel) rfl rfl rfl (by decide +kernel)
set_option maxRecDepth 65536 in
theorem w_c2 : (Jvm.Cond.code ({ cls := "java/util/AbstractCollection", name := "<init>", desc := "()V" } : Jvm.MethodName) jdk_22_method_1_code (1 : Nat) (Option.none : Option Jvm.ClassFile.FieldType)).before args0 about1 = true := code_word (m := ⟨4, 0⟩) (meth := k4m0) (c := k4c0) (by decide +kernel) rfl rfl rfl (by decide +kernel)
set_option maxRecDepth 65536 in
theorem w_c3 : (Jvm.Cond.code ({ cls := "java/lang/Object", name := "<init>", desc := "()V" } : Jvm.MethodName) object_method_1_code (1 : Nat) (Option.none : Option Jvm.ClassFile.FieldType)).before args0 about1 = true := code_word (m := ⟨0, 0⟩) (meth := k0m0) (c := k0c0) (by decide +kernel) rfl rfl rfl (by decide +kernel)
set_option maxRecDepth 65536 in
theorem w_c4 : (Jvm.Cond.code ({ cls := "com/example/quadrille/quadrille/formats/Chain", name := "moveAll", desc := "(Lcom/example/quadrille/quadrille/formats/Chain;)V" } : Jvm.MethodName) prog_55_method_3_code (2 : Nat) (Option.none : Option Jvm.ClassFile.FieldType)).before args0 about1 = true := code_word (m := ⟨5, 2⟩) (meth := k5m2) (c := k5c2) (by decide +kernel) rfl rfl rfl (by decide +kernel)
set_option maxRecDepth 65536 in
theorem w_c5 : (Jvm.Cond.code ({ cls := "com/example/quadrille/quadrille/formats/Chain", name := "size", desc := "()I" } : Jvm.MethodName) prog_55_method_5_code (1 : Nat) (Option.some Jvm.ClassFile.FieldType.int)).before args0 about1 = true := code_word (m := ⟨5, 4⟩) (meth := k5m4) (c := k5c4) (by decide +kernel) rfl rfl rfl (by decide +kernel)
set_option maxRecDepth 65536 in
theorem w_c6 : (Jvm.Cond.code ({ cls := "com/example/quadrille/quadrille/formats/Chain", name := "iterator", desc := "()Ljava/util/Iterator;" } : Jvm.MethodName) prog_55_method_4_code (1 : Nat) (Option.some (Jvm.ClassFile.FieldType.object "java/util/Iterator"))).before args0 about1 = true := code_word (m := ⟨5, 3⟩) (meth := k5m3) (c := k5c3) (by decide +kernel) rfl rfl rfl (by decide +kernel)
set_option maxRecDepth 65536 in
theorem w_c7 : (Jvm.Cond.code ({ cls := "com/example/quadrille/quadrille/formats/Chain$1", name := "<init>", desc := "(Lcom/example/quadrille/quadrille/formats/Chain;)V" } : Jvm.MethodName) prog_56_method_1_code (2 : Nat) (Option.none : Option Jvm.ClassFile.FieldType)).before args0 about1 = true := code_word (m := ⟨7, 0⟩) (meth := k7m0) (c := k7c0) (by decide +kernel) rfl rfl rfl (by decide +kernel)
set_option maxRecDepth 65536 in
theorem w_c8 : (Jvm.Cond.code ({ cls := "com/example/quadrille/quadrille/formats/Chain$1", name := "hasNext", desc := "()Z" } : Jvm.MethodName) prog_56_method_2_code (1 : Nat) (Option.some Jvm.ClassFile.FieldType.boolean)).before args0 about1 = true := code_word (m := ⟨7, 1⟩) (meth := k7m1) (c := k7c1) (by decide +kernel) rfl rfl rfl (by decide +kernel)
set_option maxRecDepth 65536 in
theorem w_c9 : (Jvm.Cond.code ({ cls := "java/lang/Integer", name := "valueOf", desc := "(I)Ljava/lang/Integer;" } : Jvm.MethodName) jdk_33_method_22_code (1 : Nat) (Option.some (Jvm.ClassFile.FieldType.object "java/lang/Integer"))).before args0 about1 = true := code_word (m := ⟨13, 0⟩) (meth := k13m0) (c := k13c0) (by decide +kernel) rfl rfl rfl (by decide +kernel)
set_option maxRecDepth 65536 in
theorem w_c10 : (Jvm.Cond.code ({ cls := "com/example/quadrille/quadrille/formats/Chain", name := "add", desc := "(Ljava/lang/Object;)Z" } : Jvm.MethodName) prog_55_method_2_code (3 : Nat) (Option.some Jvm.ClassFile.FieldType.boolean)).before args0 about1 = true := code_word (m := ⟨5, 1⟩) (meth := k5m1) (c := k5c1) (by decide +kernel) rfl rfl rfl (by decide +kernel)
set_option maxRecDepth 65536 in
theorem w_c11 : (Jvm.Cond.code ({ cls := "com/example/quadrille/quadrille/formats/Chain$Link", name := "<init>", desc := "(Ljava/lang/Object;)V" } : Jvm.MethodName) prog_57_method_1_code (2 : Nat) (Option.none : Option Jvm.ClassFile.FieldType)).before args0 about1 = true := code_word (m := ⟨15, 0⟩) (meth := k15m0) (c := k15c0) (by decide +kernel) rfl rfl rfl (by decide +kernel)
set_option maxRecDepth 65536 in
theorem w_c12 : (Jvm.Cond.code ({ cls := "com/example/quadrille/quadrille/formats/ChainMoveAllPinLaw", name := "step", desc := "(Ljava/util/Iterator;ZI)Z" } : Jvm.MethodName) method_3_code (3 : Nat) (Option.some Jvm.ClassFile.FieldType.boolean)).before args0 about1 = true := code_word (m := ⟨1, 2⟩) (meth := k1m2) (c := k1c2) (by decide +kernel) rfl rfl rfl (by decide +kernel)
set_option maxRecDepth 65536 in
theorem w_c13 : (Jvm.Cond.code ({ cls := "com/example/quadrille/quadrille/formats/Chain$1", name := "next", desc := "()Ljava/lang/Object;" } : Jvm.MethodName) prog_56_method_3_code (2 : Nat) (Option.some (Jvm.ClassFile.FieldType.object "java/lang/Object"))).before args0 about1 = true := code_word (m := ⟨7, 2⟩) (meth := k7m2) (c := k7c2) (by decide +kernel) rfl rfl rfl (by decide +kernel)
set_option maxRecDepth 65536 in
theorem w_c14 : (Jvm.Cond.code ({ cls := "java/lang/Integer", name := "intValue", desc := "()I" } : Jvm.MethodName) jdk_33_method_27_code (1 : Nat) (Option.some Jvm.ClassFile.FieldType.int)).before args0 about1 = true := code_word (m := ⟨13, 2⟩) (meth := k13m2) (c := k13c2) (by decide +kernel) rfl rfl rfl (by decide +kernel)
set_option maxRecDepth 65536 in
theorem w_c15 : (Jvm.Cond.code ({ cls := "java/lang/Integer", name := "<init>", desc := "(I)V" } : Jvm.MethodName) jdk_33_method_23_code (2 : Nat) (Option.none : Option Jvm.ClassFile.FieldType)).before args0 about1 = true := code_word (m := ⟨13, 1⟩) (meth := k13m1) (c := k13c1) (by decide +kernel) rfl rfl rfl (by decide +kernel)
set_option maxRecDepth 65536 in
theorem w_c16 : (Jvm.Cond.code ({ cls := "java/lang/Number", name := "<init>", desc := "()V" } : Jvm.MethodName) jdk_18_method_1_code (1 : Nat) (Option.none : Option Jvm.ClassFile.FieldType)).before args0 about1 = true := code_word (m := ⟨9, 0⟩) (meth := k9m0) (c := k9c0) (by decide +kernel) rfl rfl rfl (by decide +kernel)
def codes1 : List Jvm.Cond := [Jvm.Cond.code x code maxLocals ret, Jvm.Cond.code ({ cls := "com/example/quadrille/quadrille/formats/Chain", name := "<init>", desc := "()V" } : Jvm.MethodName) prog_55_method_1_code (1 : Nat) (Option.none : Option Jvm.ClassFile.FieldType), Jvm.Cond.code ({ cls := "java/util/AbstractCollection", name := "<init>", desc := "()V" } : Jvm.MethodName) jdk_22_method_1_code (1 : Nat) (Option.none : Option Jvm.ClassFile.FieldType), Jvm.Cond.code ({ cls := "java/lang/Object", name := "<init>", desc := "()V" } : Jvm.MethodName) object_method_1_code (1 : Nat) (Option.none : Option Jvm.ClassFile.FieldType), Jvm.Cond.code ({ cls := "com/example/quadrille/quadrille/formats/Chain", name := "moveAll", desc := "(Lcom/example/quadrille/quadrille/formats/Chain;)V" } : Jvm.MethodName) prog_55_method_3_code (2 : Nat) (Option.none : Option Jvm.ClassFile.FieldType), Jvm.Cond.code ({ cls := "com/example/quadrille/quadrille/formats/Chain", name := "size", desc := "()I" } : Jvm.MethodName) prog_55_method_5_code (1 : Nat) (Option.some Jvm.ClassFile.FieldType.int), Jvm.Cond.code ({ cls := "com/example/quadrille/quadrille/formats/Chain", name := "iterator", desc := "()Ljava/util/Iterator;" } : Jvm.MethodName) prog_55_method_4_code (1 : Nat) (Option.some (Jvm.ClassFile.FieldType.object "java/util/Iterator")), Jvm.Cond.code ({ cls := "com/example/quadrille/quadrille/formats/Chain$1", name := "<init>", desc := "(Lcom/example/quadrille/quadrille/formats/Chain;)V" } : Jvm.MethodName) prog_56_method_1_code (2 : Nat) (Option.none : Option Jvm.ClassFile.FieldType), Jvm.Cond.code ({ cls := "com/example/quadrille/quadrille/formats/Chain$1", name := "hasNext", desc := "()Z" } : Jvm.MethodName) prog_56_method_2_code (1 : Nat) (Option.some Jvm.ClassFile.FieldType.boolean), Jvm.Cond.code ({ cls := "java/lang/Integer", name := "valueOf", desc := "(I)Ljava/lang/Integer;" } : Jvm.MethodName) jdk_33_method_22_code (1 : Nat) (Option.some (Jvm.ClassFile.FieldType.object "java/lang/Integer")), Jvm.Cond.code ({ cls := "com/example/quadrille/quadrille/formats/Chain", name := "add", desc := "(Ljava/lang/Object;)Z" } : Jvm.MethodName) prog_55_method_2_code (3 : Nat) (Option.some Jvm.ClassFile.FieldType.boolean), Jvm.Cond.code ({ cls := "com/example/quadrille/quadrille/formats/Chain$Link", name := "<init>", desc := "(Ljava/lang/Object;)V" } : Jvm.MethodName) prog_57_method_1_code (2 : Nat) (Option.none : Option Jvm.ClassFile.FieldType), Jvm.Cond.code ({ cls := "com/example/quadrille/quadrille/formats/ChainMoveAllPinLaw", name := "step", desc := "(Ljava/util/Iterator;ZI)Z" } : Jvm.MethodName) method_3_code (3 : Nat) (Option.some Jvm.ClassFile.FieldType.boolean), Jvm.Cond.code ({ cls := "com/example/quadrille/quadrille/formats/Chain$1", name := "next", desc := "()Ljava/lang/Object;" } : Jvm.MethodName) prog_56_method_3_code (2 : Nat) (Option.some (Jvm.ClassFile.FieldType.object "java/lang/Object")), Jvm.Cond.code ({ cls := "java/lang/Integer", name := "intValue", desc := "()I" } : Jvm.MethodName) jdk_33_method_27_code (1 : Nat) (Option.some Jvm.ClassFile.FieldType.int), Jvm.Cond.code ({ cls := "java/lang/Integer", name := "<init>", desc := "(I)V" } : Jvm.MethodName) jdk_33_method_23_code (2 : Nat) (Option.none : Option Jvm.ClassFile.FieldType), Jvm.Cond.code ({ cls := "java/lang/Number", name := "<init>", desc := "()V" } : Jvm.MethodName) jdk_18_method_1_code (1 : Nat) (Option.none : Option Jvm.ClassFile.FieldType)]
set_option maxRecDepth 65536 in
theorem codes_eq : words1.filter isCode = codes1 := rfl
theorem w_codes : ∀ c ∈ words1.filter isCode, c.before args0 about1 = true := by
  rw [codes_eq]
  intro c hc
  simp only [codes1, List.mem_cons, List.not_mem_nil, or_false] at hc
  rcases hc with rfl | rfl | rfl | rfl | rfl | rfl | rfl | rfl | rfl | rfl | rfl | rfl | rfl | rfl | rfl | rfl | rfl
  · exact w_c0
  · exact w_c1
  · exact w_c2
  · exact w_c3
  · exact w_c4
  · exact w_c5
  · exact w_c6
  · exact w_c7
  · exact w_c8
  · exact w_c9
  · exact w_c10
  · exact w_c11
  · exact w_c12
  · exact w_c13
  · exact w_c14
  · exact w_c15
  · exact w_c16
set_option maxRecDepth 65536 in
theorem w_t1 : (words1.take 24).all (fun c => isCode c || c.before args0 about1) = true := by decide +kernel
set_option maxRecDepth 65536 in
theorem w_t2 : ((words1.drop 24).take 24).all (fun c => isCode c || c.before args0 about1) = true := by decide +kernel
set_option maxRecDepth 65536 in
theorem w_t3 : (((words1.drop 24).drop 24).take 24).all (fun c => isCode c || c.before args0 about1) = true := by decide +kernel
set_option maxRecDepth 65536 in
theorem w_t4 : ((((words1.drop 24).drop 24).drop 24).take 24).all (fun c => isCode c || c.before args0 about1) = true := by decide +kernel
set_option maxRecDepth 65536 in
theorem w_t5 : ((((words1.drop 24).drop 24).drop 24).drop 24).all (fun c => isCode c || c.before args0 about1) = true := by decide +kernel
theorem w_tables : (allAtoms (Jvm.Cond.code x code maxLocals ret :: tables_1)).before args0 about1 = true := by
  rw [allAtoms_all]
  show words1.all (fun c => c.before args0 about1) = true
  refine all_split ?_ w_codes
  rw [← List.take_append_drop 24 words1, List.all_append, w_t1, ← List.take_append_drop 24 (words1.drop 24), List.all_append, w_t2, ← List.take_append_drop 24 ((words1.drop 24).drop 24), List.all_append, w_t3, ← List.take_append_drop 24 (((words1.drop 24).drop 24).drop 24), List.all_append, w_t4, w_t5]
  rfl
set_option maxRecDepth 65536 in
theorem w_rest : rest_1_c.before args0 about1 = true := by decide +kernel
set_option maxRecDepth 65536 in
theorem w_case : (Jvm.Cond.and given_1 narrow_1).before args0 about1 = true := by decide +kernel
theorem w_applies : (headSpec (Jvm.Cond.code x code maxLocals ret :: tables_1) room_1).applies x e0.platform about1 = true :=
  (Spec.applies_iff w_frames).mpr ⟨w_running, w_runnable, w_alone, w_named, w_hears, w_ripe, w_room, w_tables⟩
theorem atStart : AtStart classFile x code maxLocals ret World_1 tables_1 room_1 Calls_1 rest_1 Pre_1 launch0 p0 e0 about1 theMethod args0 below0 :=
  ⟨lists_1, trivial, launch0.admits_env _ _ _, launch0.least_env, fairChoices_fair.cas, fairChoices_fair.clock, w_frames, w_args, w_heap, w_applies, trivial, w_rest, w_case⟩
end start1
theorem witness_1 : WitnessClaimed_1 := ⟨start1.p0, start1.e0, start1.about1, start1.theMethod, start1.args0, start1.below0, start1.atStart⟩
end Jvm.Pilot.@@N@@
