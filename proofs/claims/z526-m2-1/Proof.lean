import JvmDerived
import JvmDerived.Pilot.@@N@@Statement
import JvmDerived.Pilot.@@N@@Code
set_option linter.unusedVariables false
set_option linter.unusedSimpArgs false
namespace Jvm.Wk
open Sem ClassFile Op Lib Jvm.Stand Jvm.Free Jvm.LawKit Jvm.RoadKit
/-- a boolean as an int -/
def b2 (P : Prop) [Decidable P] : Int32 := if P then 1 else 0
theorem b2_t {P : Prop} [Decidable P] (h : P) : b2 P = 1 := if_pos h
theorem b2_f {P : Prop} [Decidable P] (h : ¬ P) : b2 P = 0 := if_neg h
theorem b2_01 (P : Prop) [Decidable P] : b2 P = 0 ∨ b2 P = 1 := by by_cases h : P <;> simp [b2, h]
theorem b2_congr {P P' : Prop} [Decidable P] [Decidable P'] (h : P ↔ P') : b2 P = b2 P' := by simp only [b2, h]
theorem b2_int (P : Prop) [Decidable P] : (b2 P).toInt = if P then 1 else 0 := by by_cases h : P <;> simp [b2, h]
theorem b2_ne0 (P : Prop) [Decidable P] : (b2 P).toInt ≠ 0 ↔ P := by by_cases h : P <;> simp [b2, h]
theorem b2_eq0 (P : Prop) [Decidable P] : (b2 P).toInt = 0 ↔ ¬ P := by by_cases h : P <;> simp [b2, h]
theorem b2_inj (P P' : Prop) [Decidable P] [Decidable P'] : (b2 P).toInt = (b2 P').toInt ↔ (P ↔ P') := by by_cases h : P <;> by_cases h' : P' <;> simp [b2, h, h']
theorem eqI {x y : Int32} (h : x.toInt = y.toInt) : x = y := Int32.toInt_inj.mp h
theorem eqL {x y : Int64} (h : x.toInt = y.toInt) : x = y := Int64.toInt_inj.mp h
/-- from the frame f, with the heap h and so many cells and slots made, the body ends as Q says -/
def Go (p : Program) (l : Launch) (e : Env) (R : Room) (s : State) (m : MethodId) (args : Array Value) (below : List Frame) (meth : Method) (c : Code) (n0 : Nat) (Q : Option Value → Heap → Prop) (h : Heap) (kc ks : Nat) (f : JFrame) : Prop :=
  ∀ (T : State) (locs : List Loc), Stand p l e R s m args below meth c T locs kc ks → T.heap = h → Fr n0 locs →
    ∃ s₂ o, Steps p.tables e below (T.setTop f) s₂ ∧ s₂.status = .running ∧ Ended s₂ below o ∧ ∃ v L, o = .returned v ∧ (Q v s₂.heap ∧ Fr n0 L) ∧ FrameEnd s o s₂ L R.cells R.slots
/-- the ambient of a body's walk, hidden behind G -/
def Cx (l : Launch) (R : Room) (Z : State) (n0 : Nat) (Q : Option Value → Heap → Prop) (own nm : String) (bytes : ByteArray) (maxL : Nat) (ret : Option FieldType) (m : MethodId) (G : Heap → Nat → Nat → JFrame → Prop) : Prop :=
  ∃ (p : Program) (e : Env) (s : State) (args : Array Value) (below : List Frame) (meth : Method) (c : Code), G = Go p l e R s m args below meth c n0 Q ∧ p.tables.exec = Jvm.exec ∧ c.code = bytes ∧ c.maxLocals = maxL ∧ s.vm.findClass own = some m.cls ∧ Z.Warmed39 s.vm ∧ meth.sig.returnType = ret ∧ meth.locks = false ∧ meth.name = nm
/-- the contract of a body, asked with these arguments at this heap -/
def MeetsW (l : Launch) (Z : State) (n0 : Nat) (y : MethodName) (bytes : ByteArray) (maxL : Nat) (ret : Option FieldType) (rm : Room) (as' : Array Value) (h0 : Heap) (Q : Option Value → Heap → Prop) : Prop :=
  ∀ ws : List Cond, MetFree l y (head1 (Cond.code y bytes maxL ret :: ws) rm) (fun a U => a = as' ∧ Z.Warmed39 U.vm ∧ U.heap = h0) (fun _ _ _ _ _ => True) (fun _ U o U' => ∃ v L, o = .returned v ∧ (Q v U'.heap ∧ Fr n0 L) ∧ FrameEnd U o U' L rm.cells rm.slots)
/-- an array with just these values -/
def Ary (Z : State) (h : Heap) (a : Addr) (ty : FieldType) (vs : List Value) : Prop := ∃ c : Cell, Arr Z h a c ty ∧ c.slots.toList = vs ∧ vs.length < 2 ^ 31
section Facts
variable {Z : State} {h h' : Heap} {a b : Addr} {ty : FieldType} {vs : List Value} {v : Value} {sl : Nat} {ws : List Addr}
theorem Ary.lt (A : Ary Z h a ty vs) : a < h.size := by obtain ⟨c, A, -⟩ := A; exact A.lt
theorem Ary.ext (A : Ary Z h a ty vs) (E : Ext h h') : Ary Z h' a ty vs := by obtain ⟨c, A, r⟩ := A; exact ⟨c, A.ext E, r⟩
theorem Ary.other (A : Ary Z h b ty vs) (W : Wr h h' a sl v) (q : b ≠ a) : Ary Z h' b ty vs := by obtain ⟨c, A, r⟩ := A; exact ⟨c, A.other W q, r⟩
theorem Ary.keep (A : Ary Z h a ty vs) (K : Keep h h' ws) (q : a ∉ ws) : Ary Z h' a ty vs := by obtain ⟨c, A, r⟩ := A; exact ⟨c, ⟨K.2.1 a c A.1 q, A.2⟩, r⟩
theorem Ary.same (A : Ary Z h a ty vs) (W : Wr h h' a sl v) : Ary Z h' a ty (vs.set sl v) := by
  obtain ⟨c, A, r, r'⟩ := A
  refine ⟨_, A.same W, ?_, by rw [List.length_set]; exact r'⟩
  show (c.slots.setIfInBounds sl v).toList = _
  rw [Array.toList_setIfInBounds, r]
theorem clamp_of {j : Int32} {i : Nat} (hj : j.toInt = i) : j.toNatClampNeg = i := by simp only [Int32.toNatClampNeg, hj]; rfl
theorem in_of {c : Cell} {j : Int32} {i : Nat} (hj : j.toInt = i) (hi : i < c.slots.toList.length) : ¬ (j < 0 ∨ c.slots.size ≤ j.toNatClampNeg) := by
  rw [clamp_of hj]
  have h0 : ¬ j < 0 := by rw [Int32.lt_iff_toInt_lt, hj, show (0 : Int32).toInt = 0 from rfl]; omega
  rw [Array.length_toList] at hi
  intro q; rcases q with q | q
  · exact h0 q
  · omega
theorem at_of {c : Cell} {j : Int32} {i : Nat} {v : Value} (hj : j.toInt = i) (hv : c.slots.toList[i]? = some v) : c.slots[j.toNatClampNeg]? = some v := by
  rw [clamp_of hj, ← Array.getElem?_toList]; exact hv
theorem len_int {n : Nat} (h : n < 2 ^ 31) : n.toInt32.toInt = n := len_toInt h
theorem nar_byte_of {x : Int32} (h : -128 ≤ x.toInt ∧ x.toInt < 128) : nar .byte x = x := by
  apply Int32.toInt_inj.mp
  have q := c_i2b x
  show x.toInt8.toInt32.toInt = _
  omega
theorem nar_char_of {x : Int32} (h : 0 ≤ x.toInt ∧ x.toInt < 65536) : nar .char x = x := by
  apply Int32.toInt_inj.mp
  have q := c_i2c x
  show x.toUInt32.toUInt16.toUInt32.toInt32.toInt = _
  omega
theorem Ary.toArv {d : Value} (A : Ary Z h a ty vs) (hf : ∀ v ∈ vs, fits ty v = true) (hd : fits ty d = true) : ∃ (k : ClassId) (z : Int32), z.toInt = ((vs.length : Nat) : Int) ∧ Arv Z h a k ty z vs d := by
  obtain ⟨c, Ar, rfl, hlt⟩ := A
  have hl : c.slots.size < 2 ^ 31 := by rwa [Array.length_toList] at hlt
  refine ⟨c.cls, c.slots.size.toInt32, by rw [Array.length_toList]; exact len_int hl, c, Ar, rfl, by rw [clamp_of (len_int hl)], ?_, ?_, ?_⟩
  · rw [Int32.lt_iff_toInt_lt, len_int hl, show (0 : Int32).toInt = 0 from rfl]; omega
  · intro k hk; simp [List.getD_eq_getElem?_getD, hk]
  · intro i hi
    have q : c.slots.toList.getD i d = c.slots[i] := by simp [List.getD_eq_getElem?_getD, hi]
    rw [q]; exact hf _ (by simp)
theorem Arv.toAry {d : Value} {k : ClassId} {z : Int32} (F : Arv Z h a k ty z vs d) (hz : z.toInt = (vs.length : Nat)) : Ary Z h a ty vs := by
  obtain ⟨c, Ar, -, S, -, H, -⟩ := F
  rw [clamp_of hz] at S
  refine ⟨c, Ar, ?_, by have := z.toInt_lt; omega⟩
  apply List.ext_getElem?
  intro i
  by_cases hi : i < c.slots.size
  · rw [Array.getElem?_toList, H i hi, List.getD_eq_getElem?_getD]
    have hi' : i < vs.length := by omega
    simp [hi']
  · rw [List.getElem?_eq_none (by rw [Array.length_toList]; omega), List.getElem?_eq_none (by omega)]
theorem Fld.keepO {C n d : String} (F : Fld Z h a C n d v) (K : Keep h h' ws) (q : a ∉ ws) : Fld Z h' a C n d v := F.keep K q
theorem Keep.of_ext (E : Ext h h') : Keep h h' ws := (Keep.refl h ws).ext E
end Facts
section Steps
variable {l : Launch} {R : Room} {Z : State} {n0 : Nat} {Q : Option Value → Heap → Prop} {own nm : String} {bytes : ByteArray} {maxL : Nat} {ret : Option FieldType} {m : MethodId} {G : Heap → Nat → Nat → JFrame → Prop} {h : Heap} {kc ks pc pc' pc1 pc2 : Nat} {L L' : Array Slot} {S : List Value} {a0 : Array Value}
theorem MeetsW.intro {y : MethodName} {rm : Room} {as' : Array Value} {h0 : Heap} (hpl : plainFor y = true) {L0 : Array Slot} (hef : ∀ m, entryFrame m as' maxL = mkF m 0 L0 [])
    (body : ∀ m G, Cx l rm Z n0 Q y.cls y.name bytes maxL ret m G → G h0 0 0 (mkF m 0 L0 [])) : MeetsW l Z n0 y bytes maxL ret rm as' h0 Q := by
  intro ws
  refine MetFree.of_bodySF hpl hisR ?_
  intro p e s m args below meth c s₁ Bd hml0 hP hK
  obtain ⟨rfl, hZ, hh⟩ := hP
  have hnm := (name_of_methodNamed Bd.named Bd.method).1
  have X0 : Stand p l e rm s m args below meth c s₁ [] 0 0 := Stand.of_body Bd
  have e0 : s₁.heap = h0 := by rw [← hh, Bd.state]; rfl
  have q := body m _ ⟨p, e, s, args, below, meth, c, rfl, Bd.exec, Bd.bytes, hml0, findClass_of_methodNamed Bd.named, hZ, Bd.returns, Bd.notSynchronized, hnm⟩ s₁ [] X0 e0 (Fr.nil n0)
  rw [hef]; exact q
theorem Cx.step (K : Cx l R Z n0 Q own nm bytes maxL ret m G) {f f' : JFrame}
    (hs : ∀ (p : Program) (e : Env) (below : List Frame) (T : State) (c : Code), At T m c below → p.tables.exec = Jvm.exec → c.code = bytes → ∀ t, Steps p.tables e below (T.setTop f') t → Steps p.tables e below (T.setTop f) t)
    (hr : G h kc ks f') : G h kc ks f := by
  obtain ⟨p, e, s, args, below, meth, c, rfl, hx, hby, hml, hown, hZ, hret, hlk, hn⟩ := K
  intro T locs X eT N
  obtain ⟨s₂, o, h1, h2⟩ := hr T locs X eT N
  exact ⟨s₂, o, hs p e below T c X.here hx hby _ h1, h2⟩
theorem Cx.stepX (K : Cx l R Z n0 Q own nm bytes maxL ret m G) {f f' : JFrame} {h' : Heap}
    (hs : ∀ (p : Program) (e : Env) (s : State) (args : Array Value) (below : List Frame) (meth : Method) (c : Code) (T : State) (locs : List Loc), Stand p l e R s m args below meth c T locs kc ks → T.heap = h → p.tables.exec = Jvm.exec → c.code = bytes → s.vm.findClass own = some m.cls → Z.Warmed39 s.vm → ∃ T', Stand p l e R s m args below meth c T' locs kc ks ∧ T'.heap = h ∧ ∀ t, Steps p.tables e below (T'.setTop f') t → Steps p.tables e below (T.setTop f) t)
    (hr : G h kc ks f') : G h kc ks f := by
  obtain ⟨p, e, s, args, below, meth, c, rfl, hx, hby, hml, hown, hZ, hret, hlk, hn⟩ := K
  intro T locs X eT N
  obtain ⟨T', X', e', st⟩ := hs p e s args below meth c T locs X eT hx hby hown hZ
  obtain ⟨s₂, o, h1, h2⟩ := hr T' locs X' e' N
  exact ⟨s₂, o, st _ h1, h2⟩
theorem Cx.cast (K : Cx l R Z n0 Q own nm bytes maxL ret m G) {f f' : JFrame} (q : f = f') (hr : G h kc ks f') : G h kc ks f := q ▸ hr
theorem Cx.iloadN (K : Cx l R Z n0 Q own nm bytes maxL ret m G) {k : Fin 4} {v : Int32} (hd : decode bytes pc = .ok (.iload_n k, 1)) (hp : pc + 1 = pc') (hl : L[k.val]? = some (.val (.int v))) (hr : G h kc ks (mkF m pc' L (.int v :: S))) : G h kc ks (mkF m pc L (S)) := by
  subst hp
  exact K.step (fun p e below T c h hx hb0 t hr => XS.iloadN h hx rfl (hb hb0 hd) hl hr) hr
theorem Cx.iload (K : Cx l R Z n0 Q own nm bytes maxL ret m G) {k : Nat} {v : Int32} (hd : decode bytes pc = .ok (.iload k, 2)) (hp : pc + 2 = pc') (hl : L[k]? = some (.val (.int v))) (hr : G h kc ks (mkF m pc' L (.int v :: S))) : G h kc ks (mkF m pc L (S)) := by
  subst hp
  exact K.step (fun p e below T c h hx hb0 t hr => XS.iload h hx rfl (hb hb0 hd) hl hr) hr
theorem Cx.istoreN (K : Cx l R Z n0 Q own nm bytes maxL ret m G) {k : Fin 4} {x : Int32} (hd : decode bytes pc = .ok (.istore_n k, 1)) (hp : pc + 1 = pc') (hl : storeLocals L k.val (.int x) = some L') (hr : G h kc ks (mkF m pc' L' (S))) : G h kc ks (mkF m pc L (.int x :: S)) := by
  subst hp
  exact K.step (fun p e below T c h hx hb0 t hr => XS.istoreN h hx rfl (hb hb0 hd) rfl hl hr) hr
theorem Cx.istore (K : Cx l R Z n0 Q own nm bytes maxL ret m G) {k : Nat} {x : Int32} (hd : decode bytes pc = .ok (.istore k, 2)) (hp : pc + 2 = pc') (hl : storeLocals L k (.int x) = some L') (hr : G h kc ks (mkF m pc' L' (S))) : G h kc ks (mkF m pc L (.int x :: S)) := by
  subst hp
  exact K.step (fun p e below T c h hx hb0 t hr => XS.istore h hx rfl (hb hb0 hd) rfl hl hr) hr
theorem Cx.lloadN (K : Cx l R Z n0 Q own nm bytes maxL ret m G) {k : Fin 4} {v : Int64} (hd : decode bytes pc = .ok (.lload_n k, 1)) (hp : pc + 1 = pc') (hl : L[k.val]? = some (.val (.long v))) (hr : G h kc ks (mkF m pc' L (.long v :: S))) : G h kc ks (mkF m pc L (S)) := by
  subst hp
  exact K.step (fun p e below T c h hx hb0 t hr => XS.lloadN h hx rfl (hb hb0 hd) hl hr) hr
theorem Cx.lload (K : Cx l R Z n0 Q own nm bytes maxL ret m G) {k : Nat} {v : Int64} (hd : decode bytes pc = .ok (.lload k, 2)) (hp : pc + 2 = pc') (hl : L[k]? = some (.val (.long v))) (hr : G h kc ks (mkF m pc' L (.long v :: S))) : G h kc ks (mkF m pc L (S)) := by
  subst hp
  exact K.step (fun p e below T c h hx hb0 t hr => XS.lload h hx rfl (hb hb0 hd) hl hr) hr
theorem Cx.lstoreN (K : Cx l R Z n0 Q own nm bytes maxL ret m G) {k : Fin 4} {x : Int64} (hd : decode bytes pc = .ok (.lstore_n k, 1)) (hp : pc + 1 = pc') (hl : storeLocals L k.val (.long x) = some L') (hr : G h kc ks (mkF m pc' L' (S))) : G h kc ks (mkF m pc L (.long x :: S)) := by
  subst hp
  exact K.step (fun p e below T c h hx hb0 t hr => XS.lstoreN h hx rfl (hb hb0 hd) rfl hl hr) hr
theorem Cx.lstore (K : Cx l R Z n0 Q own nm bytes maxL ret m G) {k : Nat} {x : Int64} (hd : decode bytes pc = .ok (.lstore k, 2)) (hp : pc + 2 = pc') (hl : storeLocals L k (.long x) = some L') (hr : G h kc ks (mkF m pc' L' (S))) : G h kc ks (mkF m pc L (.long x :: S)) := by
  subst hp
  exact K.step (fun p e below T c h hx hb0 t hr => XS.lstore h hx rfl (hb hb0 hd) rfl hl hr) hr
theorem Cx.aloadN (K : Cx l R Z n0 Q own nm bytes maxL ret m G) {k : Fin 4} {v : Value} (hd : decode bytes pc = .ok (.aload_n k, 1)) (hp : pc + 1 = pc') (hl : L[k.val]? = some (.val v)) (hv : v.isRef = true) (hr : G h kc ks (mkF m pc' L (v :: S))) : G h kc ks (mkF m pc L (S)) := by
  subst hp
  exact K.step (fun p e below T c h hx hb0 t hr => XS.aloadN h hx rfl (hb hb0 hd) hl hv hr) hr
theorem Cx.aload (K : Cx l R Z n0 Q own nm bytes maxL ret m G) {k : Nat} {v : Value} (hd : decode bytes pc = .ok (.aload k, 2)) (hp : pc + 2 = pc') (hl : L[k]? = some (.val v)) (hv : v.isRef = true) (hr : G h kc ks (mkF m pc' L (v :: S))) : G h kc ks (mkF m pc L (S)) := by
  subst hp
  exact K.step (fun p e below T c h hx hb0 t hr => XS.aload h hx rfl (hb hb0 hd) hl hv hr) hr
theorem Cx.astoreN (K : Cx l R Z n0 Q own nm bytes maxL ret m G) {k : Fin 4} {x : Value} (hd : decode bytes pc = .ok (.astore_n k, 1)) (hp : pc + 1 = pc') (hv : x.isRef = true) (hl : storeLocals L k.val x = some L') (hr : G h kc ks (mkF m pc' L' (S))) : G h kc ks (mkF m pc L (x :: S)) := by
  subst hp
  exact K.step (fun p e below T c h hx hb0 t hr => XS.astoreN h hx rfl (hb hb0 hd) rfl hv hl hr) hr
theorem Cx.astore (K : Cx l R Z n0 Q own nm bytes maxL ret m G) {k : Nat} {x : Value} (hd : decode bytes pc = .ok (.astore k, 2)) (hp : pc + 2 = pc') (hv : x.isRef = true) (hl : storeLocals L k x = some L') (hr : G h kc ks (mkF m pc' L' (S))) : G h kc ks (mkF m pc L (x :: S)) := by
  subst hp
  exact K.step (fun p e below T c h hx hb0 t hr => XS.astore h hx rfl (hb hb0 hd) rfl hv hl hr) hr
theorem Cx.dloadN (K : Cx l R Z n0 Q own nm bytes maxL ret m G) {k : Fin 4} {v : UInt64} (hd : decode bytes pc = .ok (.dload_n k, 1)) (hp : pc + 1 = pc') (hl : L[k.val]? = some (.val (.double v))) (hr : G h kc ks (mkF m pc' L (.double v :: S))) : G h kc ks (mkF m pc L (S)) := by
  subst hp
  exact K.step (fun p e below T c h hx hb0 t hr => XS.dloadN h hx rfl (hb hb0 hd) hl hr) hr
theorem Cx.dload (K : Cx l R Z n0 Q own nm bytes maxL ret m G) {k : Nat} {v : UInt64} (hd : decode bytes pc = .ok (.dload k, 2)) (hp : pc + 2 = pc') (hl : L[k]? = some (.val (.double v))) (hr : G h kc ks (mkF m pc' L (.double v :: S))) : G h kc ks (mkF m pc L (S)) := by
  subst hp
  exact K.step (fun p e below T c h hx hb0 t hr => XS.dload h hx rfl (hb hb0 hd) hl hr) hr
theorem Cx.dstoreN (K : Cx l R Z n0 Q own nm bytes maxL ret m G) {k : Fin 4} {x : UInt64} (hd : decode bytes pc = .ok (.dstore_n k, 1)) (hp : pc + 1 = pc') (hl : storeLocals L k.val (.double x) = some L') (hr : G h kc ks (mkF m pc' L' (S))) : G h kc ks (mkF m pc L (.double x :: S)) := by
  subst hp
  exact K.step (fun p e below T c h hx hb0 t hr => XS.dstoreN h hx rfl (hb hb0 hd) rfl hl hr) hr
theorem Cx.dstore (K : Cx l R Z n0 Q own nm bytes maxL ret m G) {k : Nat} {x : UInt64} (hd : decode bytes pc = .ok (.dstore k, 2)) (hp : pc + 2 = pc') (hl : storeLocals L k (.double x) = some L') (hr : G h kc ks (mkF m pc' L' (S))) : G h kc ks (mkF m pc L (.double x :: S)) := by
  subst hp
  exact K.step (fun p e below T c h hx hb0 t hr => XS.dstore h hx rfl (hb hb0 hd) rfl hl hr) hr
theorem Cx.dconst0 (K : Cx l R Z n0 Q own nm bytes maxL ret m G) {z : UInt64} (hd : decode bytes pc = .ok (.dconst 0, 1)) (hp : pc + 1 = pc') (hz : FP.dconst0 = z) (hr : G h kc ks (mkF m pc' L (.double z :: S))) : G h kc ks (mkF m pc L (S)) := by
  subst hp hz
  exact K.step (fun p e below T c h hx hb0 t hr => XS.dconst0 h hx rfl (hb hb0 hd) rfl hr) hr
theorem Cx.dconst1 (K : Cx l R Z n0 Q own nm bytes maxL ret m G) {z : UInt64} (hd : decode bytes pc = .ok (.dconst 1, 1)) (hp : pc + 1 = pc') (hz : FP.dconst1 = z) (hr : G h kc ks (mkF m pc' L (.double z :: S))) : G h kc ks (mkF m pc L (S)) := by
  subst hp hz
  exact K.step (fun p e below T c h hx hb0 t hr => XS.dconst1 h hx rfl (hb hb0 hd) rfl hr) hr
theorem Cx.i2d (K : Cx l R Z n0 Q own nm bytes maxL ret m G) {x : Int32} {z : UInt64} (hd : decode bytes pc = .ok (.i2d, 1)) (hp : pc + 1 = pc') (hz : FP.i2d x = z) (hr : G h kc ks (mkF m pc' L (.double z :: S))) : G h kc ks (mkF m pc L (.int x :: S)) := by
  subst hp hz
  exact K.step (fun p e below T c h hx hb0 t hr => XS.i2dS h hx rfl (hb hb0 hd) rfl rfl hr) hr
theorem Cx.l2d (K : Cx l R Z n0 Q own nm bytes maxL ret m G) {x : Int64} {z : UInt64} (hd : decode bytes pc = .ok (.l2d, 1)) (hp : pc + 1 = pc') (hz : FP.l2d x = z) (hr : G h kc ks (mkF m pc' L (.double z :: S))) : G h kc ks (mkF m pc L (.long x :: S)) := by
  subst hp hz
  exact K.step (fun p e below T c h hx hb0 t hr => XS.l2dS h hx rfl (hb hb0 hd) rfl rfl hr) hr
theorem Cx.d2l (K : Cx l R Z n0 Q own nm bytes maxL ret m G) {x : UInt64} {z : Int64} (hd : decode bytes pc = .ok (.d2l, 1)) (hp : pc + 1 = pc') (hz : FP.d2l x = z) (hr : G h kc ks (mkF m pc' L (.long z :: S))) : G h kc ks (mkF m pc L (.double x :: S)) := by
  subst hp hz
  exact K.step (fun p e below T c h hx hb0 t hr => XS.d2lS h hx rfl (hb hb0 hd) rfl rfl hr) hr
theorem Cx.dadd (K : Cx l R Z n0 Q own nm bytes maxL ret m G) {x y z : UInt64} (hd : decode bytes pc = .ok (.dadd, 1)) (hp : pc + 1 = pc') (hn : Jvm.Free.Fl.NoNaN64 (FP.dadd x y)) (hz : FP.dadd x y = z) (hr : G h kc ks (mkF m pc' L (.double z :: S))) : G h kc ks (mkF m pc L (.double y :: .double x :: S)) := by
  subst hp hz
  exact K.step (fun p e below T c h hx hb0 t hr => XS.daddS h hx rfl (hb hb0 hd) rfl hn rfl hr) hr
theorem Cx.dmul (K : Cx l R Z n0 Q own nm bytes maxL ret m G) {x y z : UInt64} (hd : decode bytes pc = .ok (.dmul, 1)) (hp : pc + 1 = pc') (hn : Jvm.Free.Fl.NoNaN64 (FP.dmul x y)) (hz : FP.dmul x y = z) (hr : G h kc ks (mkF m pc' L (.double z :: S))) : G h kc ks (mkF m pc L (.double y :: .double x :: S)) := by
  subst hp hz
  exact K.step (fun p e below T c h hx hb0 t hr => XS.dmulS h hx rfl (hb hb0 hd) rfl hn rfl hr) hr
theorem Cx.ddiv (K : Cx l R Z n0 Q own nm bytes maxL ret m G) {x y z : UInt64} (hd : decode bytes pc = .ok (.ddiv, 1)) (hp : pc + 1 = pc') (hn : Jvm.Free.Fl.NoNaN64 (FP.ddiv x y)) (hz : FP.ddiv x y = z) (hr : G h kc ks (mkF m pc' L (.double z :: S))) : G h kc ks (mkF m pc L (.double y :: .double x :: S)) := by
  subst hp hz
  exact K.step (fun p e below T c h hx hb0 t hr => XS.ddivS h hx rfl (hb hb0 hd) rfl hn rfl hr) hr
theorem Cx.dsub (K : Cx l R Z n0 Q own nm bytes maxL ret m G) {x y z : UInt64} (hd : decode bytes pc = .ok (.dsub, 1)) (hp : pc + 1 = pc') (hn : Jvm.Free.Fl.NoNaN64 (FP.dsub x y)) (hz : FP.dsub x y = z) (hr : G h kc ks (mkF m pc' L (.double z :: S))) : G h kc ks (mkF m pc L (.double y :: .double x :: S)) := by
  subst hp hz
  exact K.step (fun p e below T c h hx hb0 t hr => XS.dsubS h hx rfl (hb hb0 hd) rfl hn rfl hr) hr
theorem Cx.dcmp (K : Cx l R Z n0 Q own nm bytes maxL ret m G) {o : CmpOp} {x y : UInt64} {z : Int32} (hd : decode bytes pc = .ok (.dcmp o, 1)) (hp : pc + 1 = pc') (hz : cmpValue (FP.dcmp x y) o = z) (hr : G h kc ks (mkF m pc' L (.int z :: S))) : G h kc ks (mkF m pc L (.double y :: .double x :: S)) := by
  subst hp hz
  exact K.step (fun p e below T c h hx hb0 t hr => XS.dcmpS h hx rfl (hb hb0 hd) rfl rfl hr) hr
theorem Cx.iconst (K : Cx l R Z n0 Q own nm bytes maxL ret m G) {i : Int} {z : Int32} (hd : decode bytes pc = .ok (.iconst i, 1)) (hp : pc + 1 = pc') (hz : Int32.ofInt i = z) (hr : G h kc ks (mkF m pc' L (.int z :: S))) : G h kc ks (mkF m pc L (S)) := by
  subst hp hz
  exact K.step (fun p e below T c h hx hb0 t hr => XS.iconst h hx rfl (hb hb0 hd) hr) hr
theorem Cx.bipush (K : Cx l R Z n0 Q own nm bytes maxL ret m G) {i : Int} {z : Int32} (hd : decode bytes pc = .ok (.bipush i, 2)) (hp : pc + 2 = pc') (hz : (Int8.ofInt i).toInt32 = z) (hr : G h kc ks (mkF m pc' L (.int z :: S))) : G h kc ks (mkF m pc L (S)) := by
  subst hp hz
  exact K.step (fun p e below T c h hx hb0 t hr => XS.bipush h hx rfl (hb hb0 hd) hr) hr
theorem Cx.sipush (K : Cx l R Z n0 Q own nm bytes maxL ret m G) {i : Int} {z : Int32} (hd : decode bytes pc = .ok (.sipush i, 3)) (hp : pc + 3 = pc') (hz : (Int16.ofInt i).toInt32 = z) (hr : G h kc ks (mkF m pc' L (.int z :: S))) : G h kc ks (mkF m pc L (S)) := by
  subst hp hz
  exact K.step (fun p e below T c h hx hb0 t hr => XS.sipush h hx rfl (hb hb0 hd) hr) hr
theorem Cx.lconst (K : Cx l R Z n0 Q own nm bytes maxL ret m G) {k : Fin 2} {z : Int64} (hd : decode bytes pc = .ok (.lconst k, 1)) (hp : pc + 1 = pc') (hz : Int64.ofNat k = z) (hr : G h kc ks (mkF m pc' L (.long z :: S))) : G h kc ks (mkF m pc L (S)) := by
  subst hp hz
  exact K.step (fun p e below T c h hx hb0 t hr => XS.lconst h hx rfl (hb hb0 hd) hr) hr
theorem Cx.anull (K : Cx l R Z n0 Q own nm bytes maxL ret m G) (hd : decode bytes pc = .ok (.aconst_null, 1)) (hp : pc + 1 = pc')  (hr : G h kc ks (mkF m pc' L (.null :: S))) : G h kc ks (mkF m pc L (S)) := by
  subst hp
  exact K.step (fun p e below T c h hx hb0 t hr => XS.aconstNull h hx rfl (hb hb0 hd) hr) hr
theorem Cx.iadd (K : Cx l R Z n0 Q own nm bytes maxL ret m G) {x y z : Int32} (hd : decode bytes pc = .ok (.iadd, 1)) (hp : pc + 1 = pc') (hz : x + y = z) (hr : G h kc ks (mkF m pc' L (.int z :: S))) : G h kc ks (mkF m pc L (.int y :: .int x :: S)) := by
  subst hp hz
  exact K.step (fun p e below T c h hx hb0 t hr => XS.iadd h hx rfl (hb hb0 hd) rfl hr) hr
theorem Cx.ladd (K : Cx l R Z n0 Q own nm bytes maxL ret m G) {x y z : Int64} (hd : decode bytes pc = .ok (.ladd, 1)) (hp : pc + 1 = pc') (hz : x + y = z) (hr : G h kc ks (mkF m pc' L (.long z :: S))) : G h kc ks (mkF m pc L (.long y :: .long x :: S)) := by
  subst hp hz
  exact K.step (fun p e below T c h hx hb0 t hr => XS.ladd h hx rfl (hb hb0 hd) rfl hr) hr
theorem Cx.isub (K : Cx l R Z n0 Q own nm bytes maxL ret m G) {x y z : Int32} (hd : decode bytes pc = .ok (.isub, 1)) (hp : pc + 1 = pc') (hz : x - y = z) (hr : G h kc ks (mkF m pc' L (.int z :: S))) : G h kc ks (mkF m pc L (.int y :: .int x :: S)) := by
  subst hp hz
  exact K.step (fun p e below T c h hx hb0 t hr => XS.isub h hx rfl (hb hb0 hd) rfl hr) hr
theorem Cx.lsub (K : Cx l R Z n0 Q own nm bytes maxL ret m G) {x y z : Int64} (hd : decode bytes pc = .ok (.lsub, 1)) (hp : pc + 1 = pc') (hz : x - y = z) (hr : G h kc ks (mkF m pc' L (.long z :: S))) : G h kc ks (mkF m pc L (.long y :: .long x :: S)) := by
  subst hp hz
  exact K.step (fun p e below T c h hx hb0 t hr => XS.lsub h hx rfl (hb hb0 hd) rfl hr) hr
theorem Cx.imul (K : Cx l R Z n0 Q own nm bytes maxL ret m G) {x y z : Int32} (hd : decode bytes pc = .ok (.imul, 1)) (hp : pc + 1 = pc') (hz : x * y = z) (hr : G h kc ks (mkF m pc' L (.int z :: S))) : G h kc ks (mkF m pc L (.int y :: .int x :: S)) := by
  subst hp hz
  exact K.step (fun p e below T c h hx hb0 t hr => XS.imul h hx rfl (hb hb0 hd) rfl hr) hr
theorem Cx.lmul (K : Cx l R Z n0 Q own nm bytes maxL ret m G) {x y z : Int64} (hd : decode bytes pc = .ok (.lmul, 1)) (hp : pc + 1 = pc') (hz : x * y = z) (hr : G h kc ks (mkF m pc' L (.long z :: S))) : G h kc ks (mkF m pc L (.long y :: .long x :: S)) := by
  subst hp hz
  exact K.step (fun p e below T c h hx hb0 t hr => XS.lmul h hx rfl (hb hb0 hd) rfl hr) hr
theorem Cx.iand (K : Cx l R Z n0 Q own nm bytes maxL ret m G) {x y z : Int32} (hd : decode bytes pc = .ok (.iand, 1)) (hp : pc + 1 = pc') (hz : x &&& y = z) (hr : G h kc ks (mkF m pc' L (.int z :: S))) : G h kc ks (mkF m pc L (.int y :: .int x :: S)) := by
  subst hp hz
  exact K.step (fun p e below T c h hx hb0 t hr => XS.iand h hx rfl (hb hb0 hd) rfl hr) hr
theorem Cx.land (K : Cx l R Z n0 Q own nm bytes maxL ret m G) {x y z : Int64} (hd : decode bytes pc = .ok (.land, 1)) (hp : pc + 1 = pc') (hz : x &&& y = z) (hr : G h kc ks (mkF m pc' L (.long z :: S))) : G h kc ks (mkF m pc L (.long y :: .long x :: S)) := by
  subst hp hz
  exact K.step (fun p e below T c h hx hb0 t hr => XS.land h hx rfl (hb hb0 hd) rfl hr) hr
theorem Cx.ior (K : Cx l R Z n0 Q own nm bytes maxL ret m G) {x y z : Int32} (hd : decode bytes pc = .ok (.ior, 1)) (hp : pc + 1 = pc') (hz : x ||| y = z) (hr : G h kc ks (mkF m pc' L (.int z :: S))) : G h kc ks (mkF m pc L (.int y :: .int x :: S)) := by
  subst hp hz
  exact K.step (fun p e below T c h hx hb0 t hr => XS.ior h hx rfl (hb hb0 hd) rfl hr) hr
theorem Cx.lor (K : Cx l R Z n0 Q own nm bytes maxL ret m G) {x y z : Int64} (hd : decode bytes pc = .ok (.lor, 1)) (hp : pc + 1 = pc') (hz : x ||| y = z) (hr : G h kc ks (mkF m pc' L (.long z :: S))) : G h kc ks (mkF m pc L (.long y :: .long x :: S)) := by
  subst hp hz
  exact K.step (fun p e below T c h hx hb0 t hr => XS.lor h hx rfl (hb hb0 hd) rfl hr) hr
theorem Cx.ixor (K : Cx l R Z n0 Q own nm bytes maxL ret m G) {x y z : Int32} (hd : decode bytes pc = .ok (.ixor, 1)) (hp : pc + 1 = pc') (hz : x ^^^ y = z) (hr : G h kc ks (mkF m pc' L (.int z :: S))) : G h kc ks (mkF m pc L (.int y :: .int x :: S)) := by
  subst hp hz
  exact K.step (fun p e below T c h hx hb0 t hr => XS.ixor h hx rfl (hb hb0 hd) rfl hr) hr
theorem Cx.lxor (K : Cx l R Z n0 Q own nm bytes maxL ret m G) {x y z : Int64} (hd : decode bytes pc = .ok (.lxor, 1)) (hp : pc + 1 = pc') (hz : x ^^^ y = z) (hr : G h kc ks (mkF m pc' L (.long z :: S))) : G h kc ks (mkF m pc L (.long y :: .long x :: S)) := by
  subst hp hz
  exact K.step (fun p e below T c h hx hb0 t hr => XS.lxor h hx rfl (hb hb0 hd) rfl hr) hr
theorem Cx.ishl (K : Cx l R Z n0 Q own nm bytes maxL ret m G) {x y z : Int32} (hd : decode bytes pc = .ok (.ishl, 1)) (hp : pc + 1 = pc') (hz : x <<< (y &&& 31) = z) (hr : G h kc ks (mkF m pc' L (.int z :: S))) : G h kc ks (mkF m pc L (.int y :: .int x :: S)) := by
  subst hp hz
  exact K.step (fun p e below T c h hx hb0 t hr => XS.ishl h hx rfl (hb hb0 hd) rfl hr) hr
theorem Cx.ishr (K : Cx l R Z n0 Q own nm bytes maxL ret m G) {x y z : Int32} (hd : decode bytes pc = .ok (.ishr, 1)) (hp : pc + 1 = pc') (hz : x >>> (y &&& 31) = z) (hr : G h kc ks (mkF m pc' L (.int z :: S))) : G h kc ks (mkF m pc L (.int y :: .int x :: S)) := by
  subst hp hz
  exact K.step (fun p e below T c h hx hb0 t hr => XS.ishr h hx rfl (hb hb0 hd) rfl hr) hr
theorem Cx.iushr (K : Cx l R Z n0 Q own nm bytes maxL ret m G) {x y z : Int32} (hd : decode bytes pc = .ok (.iushr, 1)) (hp : pc + 1 = pc') (hz : (x.toUInt32 >>> (y &&& 31).toUInt32).toInt32 = z) (hr : G h kc ks (mkF m pc' L (.int z :: S))) : G h kc ks (mkF m pc L (.int y :: .int x :: S)) := by
  subst hp hz
  exact K.step (fun p e below T c h hx hb0 t hr => XS.iushr h hx rfl (hb hb0 hd) rfl hr) hr
theorem Cx.lshl (K : Cx l R Z n0 Q own nm bytes maxL ret m G) {x z : Int64} {y : Int32} (hd : decode bytes pc = .ok (.lshl, 1)) (hp : pc + 1 = pc') (hz : x <<< (y &&& 0x3f).toInt64 = z) (hr : G h kc ks (mkF m pc' L (.long z :: S))) : G h kc ks (mkF m pc L (.int y :: .long x :: S)) := by
  subst hp hz
  exact K.step (fun p e below T c h hx hb0 t hr => XS.lshl h hx rfl (hb hb0 hd) rfl hr) hr
theorem Cx.lshr (K : Cx l R Z n0 Q own nm bytes maxL ret m G) {x z : Int64} {y : Int32} (hd : decode bytes pc = .ok (.lshr, 1)) (hp : pc + 1 = pc') (hz : x >>> (y &&& 0x3f).toInt64 = z) (hr : G h kc ks (mkF m pc' L (.long z :: S))) : G h kc ks (mkF m pc L (.int y :: .long x :: S)) := by
  subst hp hz
  exact K.step (fun p e below T c h hx hb0 t hr => XS.lshr h hx rfl (hb hb0 hd) rfl hr) hr
theorem Cx.lushr (K : Cx l R Z n0 Q own nm bytes maxL ret m G) {x z : Int64} {y : Int32} (hd : decode bytes pc = .ok (.lushr, 1)) (hp : pc + 1 = pc') (hz : (x.toUInt64 >>> (y &&& 0x3f).toInt64.toUInt64).toInt64 = z) (hr : G h kc ks (mkF m pc' L (.long z :: S))) : G h kc ks (mkF m pc L (.int y :: .long x :: S)) := by
  subst hp hz
  exact K.step (fun p e below T c h hx hb0 t hr => XS.lushr h hx rfl (hb hb0 hd) rfl hr) hr
theorem Cx.idiv (K : Cx l R Z n0 Q own nm bytes maxL ret m G) {x y z : Int32} (hd : decode bytes pc = .ok (.idiv, 1)) (hp : pc + 1 = pc') (hy : y ≠ 0) (hz : x / y = z) (hr : G h kc ks (mkF m pc' L (.int z :: S))) : G h kc ks (mkF m pc L (.int y :: .int x :: S)) := by
  subst hp hz
  exact K.step (fun p e below T c h hx hb0 t hr => XS.idiv h hx rfl (hb hb0 hd) rfl hy hr) hr
theorem Cx.ldiv (K : Cx l R Z n0 Q own nm bytes maxL ret m G) {x y z : Int64} (hd : decode bytes pc = .ok (.ldiv, 1)) (hp : pc + 1 = pc') (hy : y ≠ 0) (hz : x / y = z) (hr : G h kc ks (mkF m pc' L (.long z :: S))) : G h kc ks (mkF m pc L (.long y :: .long x :: S)) := by
  subst hp hz
  exact K.step (fun p e below T c h hx hb0 t hr => XS.ldiv h hx rfl (hb hb0 hd) rfl hy hr) hr
theorem Cx.irem (K : Cx l R Z n0 Q own nm bytes maxL ret m G) {x y z : Int32} (hd : decode bytes pc = .ok (.irem, 1)) (hp : pc + 1 = pc') (hy : y ≠ 0) (hz : x % y = z) (hr : G h kc ks (mkF m pc' L (.int z :: S))) : G h kc ks (mkF m pc L (.int y :: .int x :: S)) := by
  subst hp hz
  exact K.step (fun p e below T c h hx hb0 t hr => XS.irem h hx rfl (hb hb0 hd) rfl hy (by rw [irem_eq_mod]; exact hr)) hr
theorem Cx.lrem (K : Cx l R Z n0 Q own nm bytes maxL ret m G) {x y z : Int64} (hd : decode bytes pc = .ok (.lrem, 1)) (hp : pc + 1 = pc') (hy : y ≠ 0) (hz : x % y = z) (hr : G h kc ks (mkF m pc' L (.long z :: S))) : G h kc ks (mkF m pc L (.long y :: .long x :: S)) := by
  subst hp hz
  exact K.step (fun p e below T c h hx hb0 t hr => XS.lrem h hx rfl (hb hb0 hd) rfl hy (by rw [lrem_mod]; exact hr)) hr
theorem Cx.ineg (K : Cx l R Z n0 Q own nm bytes maxL ret m G) {x z : Int32} (hd : decode bytes pc = .ok (.ineg, 1)) (hp : pc + 1 = pc') (hz : -x = z) (hr : G h kc ks (mkF m pc' L (.int z :: S))) : G h kc ks (mkF m pc L (.int x :: S)) := by
  subst hp hz
  exact K.step (fun p e below T c h hx hb0 t hr => XS.ineg h hx rfl (hb hb0 hd) rfl hr) hr
theorem Cx.lneg (K : Cx l R Z n0 Q own nm bytes maxL ret m G) {x z : Int64} (hd : decode bytes pc = .ok (.lneg, 1)) (hp : pc + 1 = pc') (hz : -x = z) (hr : G h kc ks (mkF m pc' L (.long z :: S))) : G h kc ks (mkF m pc L (.long x :: S)) := by
  subst hp hz
  exact K.step (fun p e below T c h hx hb0 t hr => XS.lneg h hx rfl (hb hb0 hd) rfl hr) hr
theorem Cx.i2b (K : Cx l R Z n0 Q own nm bytes maxL ret m G) {x : Int32} {z : Int32} (hd : decode bytes pc = .ok (.i2b, 1)) (hp : pc + 1 = pc') (hz : x.toInt8.toInt32 = z) (hr : G h kc ks (mkF m pc' L (.int z :: S))) : G h kc ks (mkF m pc L (.int x :: S)) := by
  subst hp hz
  exact K.step (fun p e below T c h hx hb0 t hr => XS.i2b h hx rfl (hb hb0 hd) rfl hr) hr
theorem Cx.i2c (K : Cx l R Z n0 Q own nm bytes maxL ret m G) {x : Int32} {z : Int32} (hd : decode bytes pc = .ok (.i2c, 1)) (hp : pc + 1 = pc') (hz : x.toUInt32.toUInt16.toUInt32.toInt32 = z) (hr : G h kc ks (mkF m pc' L (.int z :: S))) : G h kc ks (mkF m pc L (.int x :: S)) := by
  subst hp hz
  exact K.step (fun p e below T c h hx hb0 t hr => XS.i2c h hx rfl (hb hb0 hd) rfl hr) hr
theorem Cx.i2s (K : Cx l R Z n0 Q own nm bytes maxL ret m G) {x : Int32} {z : Int32} (hd : decode bytes pc = .ok (.i2s, 1)) (hp : pc + 1 = pc') (hz : x.toInt16.toInt32 = z) (hr : G h kc ks (mkF m pc' L (.int z :: S))) : G h kc ks (mkF m pc L (.int x :: S)) := by
  subst hp hz
  exact K.step (fun p e below T c h hx hb0 t hr => XS.i2s h hx rfl (hb hb0 hd) rfl hr) hr
theorem Cx.i2l (K : Cx l R Z n0 Q own nm bytes maxL ret m G) {x : Int32} {z : Int64} (hd : decode bytes pc = .ok (.i2l, 1)) (hp : pc + 1 = pc') (hz : x.toInt64 = z) (hr : G h kc ks (mkF m pc' L (.long z :: S))) : G h kc ks (mkF m pc L (.int x :: S)) := by
  subst hp hz
  exact K.step (fun p e below T c h hx hb0 t hr => XS.i2l h hx rfl (hb hb0 hd) rfl hr) hr
theorem Cx.l2i (K : Cx l R Z n0 Q own nm bytes maxL ret m G) {x : Int64} {z : Int32} (hd : decode bytes pc = .ok (.l2i, 1)) (hp : pc + 1 = pc') (hz : x.toInt32 = z) (hr : G h kc ks (mkF m pc' L (.int z :: S))) : G h kc ks (mkF m pc L (.long x :: S)) := by
  subst hp hz
  exact K.step (fun p e below T c h hx hb0 t hr => XS.l2i h hx rfl (hb hb0 hd) rfl hr) hr
theorem Cx.iinc (K : Cx l R Z n0 Q own nm bytes maxL ret m G) {k : Nat} {cst : Int} {x z : Int32} (hd : decode bytes pc = .ok (.iinc k cst, 3)) (hp : pc + 3 = pc') (hl : L[k]? = some (.val (.int x))) (hz : x + Int32.ofInt cst = z) (hl' : storeLocals L k (.int z) = some L') (hr : G h kc ks (mkF m pc' L' (S))) : G h kc ks (mkF m pc L (S)) := by
  subst hp hz
  exact K.step (fun p e below T c h hx hb0 t hr => XS.iinc h hx rfl (hb hb0 hd) hl hl' hr) hr
theorem Cx.dup (K : Cx l R Z n0 Q own nm bytes maxL ret m G) {x : Value} (hd : decode bytes pc = .ok (.dup, 1)) (hp : pc + 1 = pc') (hc : x.category = 1) (hr : G h kc ks (mkF m pc' L (x :: x :: S))) : G h kc ks (mkF m pc L (x :: S)) := by
  subst hp
  exact K.step (fun p e below T c h hx hb0 t hr => XS.dup h hx rfl (hb hb0 hd) rfl hc hr) hr
theorem Cx.pop (K : Cx l R Z n0 Q own nm bytes maxL ret m G) {x : Value} (hd : decode bytes pc = .ok (.pop, 1)) (hp : pc + 1 = pc') (hc : x.category = 1) (hr : G h kc ks (mkF m pc' L (S))) : G h kc ks (mkF m pc L (x :: S)) := by
  subst hp
  exact K.step (fun p e below T c h hx hb0 t hr => XS.pop h hx rfl (hb hb0 hd) rfl hc hr) hr
theorem Cx.dupX1 (K : Cx l R Z n0 Q own nm bytes maxL ret m G) {x y : Value} (hd : decode bytes pc = .ok (.dup_x1, 1)) (hp : pc + 1 = pc') (hc : x.category = 1) (hc2 : y.category = 1) (hr : G h kc ks (mkF m pc' L (x :: y :: x :: S))) : G h kc ks (mkF m pc L (x :: y :: S)) := by
  subst hp
  exact K.step (fun p e below T c h hx hb0 t hr => XS.dupX1 h hx rfl (hb hb0 hd) rfl hc hc2 hr) hr
theorem Cx.goto (K : Cx l R Z n0 Q own nm bytes maxL ret m G) {o : Int} (hd : decode bytes pc = .ok (.goto o, 3)) (ho : 0 ≤ (pc : Int) + o) (hp : ((pc : Int) + o).toNat = pc') (hr : G h kc ks (mkF m pc' L S)) : G h kc ks (mkF m pc L S) :=
  K.step (fun p e below T c h hx hb0 t hr => XS.goto h hx rfl (pc0 := pc) (pc' := pc') rfl (hb hb0 hd) ho hp hr) hr
theorem icmpW (cd : ClassFile.Cond) {x y : Int32} {a b : Int} (ha : x.toInt = a) (hb : y.toInt = b) : if_icmp.holds cd x y = (match cd with | .lt => decide (a < b) | .ge => decide (b ≤ a) | .gt => decide (b < a) | .le => decide (a ≤ b) | .eq => decide (a = b) | .ne => decide (a ≠ b)) := by
  subst ha hb
  cases cd <;> rw [Bool.eq_iff_iff] <;> simp [if_icmp.holds, Int32.lt_iff_toInt_lt, Int32.le_iff_toInt_le, Int32.toInt_inj]
theorem lcmpW0 (cd : ClassFile.Cond) {x y : Int64} {a b : Int} (ha : x.toInt = a) (hb : y.toInt = b) : ifCond.holds cd (if x > y then 1 else if x = y then 0 else -1) = (match cd with | .lt => decide (a < b) | .ge => decide (b ≤ a) | .gt => decide (b < a) | .le => decide (a ≤ b) | .eq => decide (a = b) | .ne => decide (a ≠ b)) := by
  subst ha hb
  rcases Int.lt_trichotomy x.toInt y.toInt with h | h | h
  · have e : (if x > y then (1 : Int32) else if x = y then 0 else -1) = -1 := by rw [if_neg (by rw [gt_iff_lt, Int64.lt_iff_toInt_lt]; omega), if_neg (by rw [← Int64.toInt_inj]; omega)]
    rw [e, if0, icmpW cd (a := -1) (b := 0) rfl rfl]
    cases cd <;> exact decide_eq_decide.mpr (by omega)
  · have e : (if x > y then (1 : Int32) else if x = y then 0 else -1) = 0 := by rw [if_neg (by rw [gt_iff_lt, Int64.lt_iff_toInt_lt]; omega), if_pos (by rw [← Int64.toInt_inj]; omega)]
    rw [e, if0, icmpW cd (a := 0) (b := 0) rfl rfl]
    cases cd <;> exact decide_eq_decide.mpr (by omega)
  · have e : (if x > y then (1 : Int32) else if x = y then 0 else -1) = 1 := by rw [if_pos (by rw [gt_iff_lt, Int64.lt_iff_toInt_lt]; omega)]
    rw [e, if0, icmpW cd (a := 1) (b := 0) rfl rfl]
    cases cd <;> exact decide_eq_decide.mpr (by omega)
theorem Cx.icmp_lt (K : Cx l R Z n0 Q own nm bytes maxL ret m G) {o : Int} {x y : Int32} {a b : Int} (hd : decode bytes pc = .ok (.if_icmp .lt o, 3)) (hp : pc + 3 = pc1) (ho : 0 ≤ (pc : Int) + o) (hq : ((pc : Int) + o).toNat = pc2) (ha : x.toInt = a) (hb' : y.toInt = b) (ht : a < b → G h kc ks (mkF m pc2 L S)) (hf : b ≤ a → G h kc ks (mkF m pc1 L S)) : G h kc ks (mkF m pc L (.int y :: .int x :: S)) := by
  subst hp
  have q := icmpW .lt ha hb'
  by_cases hc : a < b
  · exact K.step (fun p e below T c h hx hb0 t hr => XS.icmpYes h hx rfl (pc0 := pc) (pc' := pc2) rfl (hb hb0 hd) rfl (q.trans (decide_eq_true hc)) ho hq hr) (ht hc)
  · exact K.step (fun p e below T c h hx hb0 t hr => XS.icmpNo h hx rfl (hb hb0 hd) rfl (q.trans (decide_eq_false hc)) hr) (hf (by omega))
theorem Cx.if_lt (K : Cx l R Z n0 Q own nm bytes maxL ret m G) {o : Int} {x : Int32} {a : Int} (hd : decode bytes pc = .ok (.ifCond .lt o, 3)) (hp : pc + 3 = pc1) (ho : 0 ≤ (pc : Int) + o) (hq : ((pc : Int) + o).toNat = pc2) (ha : x.toInt = a) (ht : a < 0 → G h kc ks (mkF m pc2 L S)) (hf : 0 ≤ a → G h kc ks (mkF m pc1 L S)) : G h kc ks (mkF m pc L (.int x :: S)) := by
  subst hp
  have q := (if0 .lt x).trans (icmpW .lt ha (b := 0) rfl)
  by_cases hc : a < 0
  · exact K.step (fun p e below T c h hx hb0 t hr => XS.ifYes h hx rfl (pc0 := pc) (pc' := pc2) rfl (hb hb0 hd) rfl (q.trans (decide_eq_true hc)) ho hq hr) (ht hc)
  · exact K.step (fun p e below T c h hx hb0 t hr => XS.ifNo h hx rfl (hb hb0 hd) rfl (q.trans (decide_eq_false hc)) hr) (hf (by omega))
theorem Cx.lcmp_lt (K : Cx l R Z n0 Q own nm bytes maxL ret m G) {o : Int} {x y : Int64} {a b : Int} (hd0 : decode bytes pc = .ok (.lcmp, 1)) (hd : decode bytes (pc + 1) = .ok (.ifCond .lt o, 3)) (hp : pc + 4 = pc1) (ho : 0 ≤ ((pc + 1 : Nat) : Int) + o) (hq : (((pc + 1 : Nat) : Int) + o).toNat = pc2) (ha : x.toInt = a) (hb' : y.toInt = b) (ht : a < b → G h kc ks (mkF m pc2 L S)) (hf : b ≤ a → G h kc ks (mkF m pc1 L S)) : G h kc ks (mkF m pc L (.long y :: .long x :: S)) := by
  subst hp
  have q := lcmpW0 .lt ha hb'
  refine K.step (f' := mkF m (pc + 1) L (.int (if x > y then 1 else if x = y then 0 else -1) :: S)) (fun p e below T c h hx hb0 t hr => XS.lcmp h hx rfl (hb hb0 hd0) rfl hr) ?_
  by_cases hc : a < b
  · exact K.step (fun p e below T c h hx hb0 t hr => XS.ifYes h hx rfl (pc0 := pc + 1) (pc' := pc2) rfl (hb hb0 hd) rfl (q.trans (decide_eq_true hc)) ho hq hr) (ht hc)
  · exact K.step (fun p e below T c h hx hb0 t hr => XS.ifNo h hx rfl (hb hb0 hd) rfl (q.trans (decide_eq_false hc)) hr) (hf (by omega))
theorem Cx.icmp_ge (K : Cx l R Z n0 Q own nm bytes maxL ret m G) {o : Int} {x y : Int32} {a b : Int} (hd : decode bytes pc = .ok (.if_icmp .ge o, 3)) (hp : pc + 3 = pc1) (ho : 0 ≤ (pc : Int) + o) (hq : ((pc : Int) + o).toNat = pc2) (ha : x.toInt = a) (hb' : y.toInt = b) (ht : b ≤ a → G h kc ks (mkF m pc2 L S)) (hf : a < b → G h kc ks (mkF m pc1 L S)) : G h kc ks (mkF m pc L (.int y :: .int x :: S)) := by
  subst hp
  have q := icmpW .ge ha hb'
  by_cases hc : b ≤ a
  · exact K.step (fun p e below T c h hx hb0 t hr => XS.icmpYes h hx rfl (pc0 := pc) (pc' := pc2) rfl (hb hb0 hd) rfl (q.trans (decide_eq_true hc)) ho hq hr) (ht hc)
  · exact K.step (fun p e below T c h hx hb0 t hr => XS.icmpNo h hx rfl (hb hb0 hd) rfl (q.trans (decide_eq_false hc)) hr) (hf (by omega))
theorem Cx.if_ge (K : Cx l R Z n0 Q own nm bytes maxL ret m G) {o : Int} {x : Int32} {a : Int} (hd : decode bytes pc = .ok (.ifCond .ge o, 3)) (hp : pc + 3 = pc1) (ho : 0 ≤ (pc : Int) + o) (hq : ((pc : Int) + o).toNat = pc2) (ha : x.toInt = a) (ht : 0 ≤ a → G h kc ks (mkF m pc2 L S)) (hf : a < 0 → G h kc ks (mkF m pc1 L S)) : G h kc ks (mkF m pc L (.int x :: S)) := by
  subst hp
  have q := (if0 .ge x).trans (icmpW .ge ha (b := 0) rfl)
  by_cases hc : 0 ≤ a
  · exact K.step (fun p e below T c h hx hb0 t hr => XS.ifYes h hx rfl (pc0 := pc) (pc' := pc2) rfl (hb hb0 hd) rfl (q.trans (decide_eq_true hc)) ho hq hr) (ht hc)
  · exact K.step (fun p e below T c h hx hb0 t hr => XS.ifNo h hx rfl (hb hb0 hd) rfl (q.trans (decide_eq_false hc)) hr) (hf (by omega))
theorem Cx.lcmp_ge (K : Cx l R Z n0 Q own nm bytes maxL ret m G) {o : Int} {x y : Int64} {a b : Int} (hd0 : decode bytes pc = .ok (.lcmp, 1)) (hd : decode bytes (pc + 1) = .ok (.ifCond .ge o, 3)) (hp : pc + 4 = pc1) (ho : 0 ≤ ((pc + 1 : Nat) : Int) + o) (hq : (((pc + 1 : Nat) : Int) + o).toNat = pc2) (ha : x.toInt = a) (hb' : y.toInt = b) (ht : b ≤ a → G h kc ks (mkF m pc2 L S)) (hf : a < b → G h kc ks (mkF m pc1 L S)) : G h kc ks (mkF m pc L (.long y :: .long x :: S)) := by
  subst hp
  have q := lcmpW0 .ge ha hb'
  refine K.step (f' := mkF m (pc + 1) L (.int (if x > y then 1 else if x = y then 0 else -1) :: S)) (fun p e below T c h hx hb0 t hr => XS.lcmp h hx rfl (hb hb0 hd0) rfl hr) ?_
  by_cases hc : b ≤ a
  · exact K.step (fun p e below T c h hx hb0 t hr => XS.ifYes h hx rfl (pc0 := pc + 1) (pc' := pc2) rfl (hb hb0 hd) rfl (q.trans (decide_eq_true hc)) ho hq hr) (ht hc)
  · exact K.step (fun p e below T c h hx hb0 t hr => XS.ifNo h hx rfl (hb hb0 hd) rfl (q.trans (decide_eq_false hc)) hr) (hf (by omega))
theorem Cx.icmp_gt (K : Cx l R Z n0 Q own nm bytes maxL ret m G) {o : Int} {x y : Int32} {a b : Int} (hd : decode bytes pc = .ok (.if_icmp .gt o, 3)) (hp : pc + 3 = pc1) (ho : 0 ≤ (pc : Int) + o) (hq : ((pc : Int) + o).toNat = pc2) (ha : x.toInt = a) (hb' : y.toInt = b) (ht : b < a → G h kc ks (mkF m pc2 L S)) (hf : a ≤ b → G h kc ks (mkF m pc1 L S)) : G h kc ks (mkF m pc L (.int y :: .int x :: S)) := by
  subst hp
  have q := icmpW .gt ha hb'
  by_cases hc : b < a
  · exact K.step (fun p e below T c h hx hb0 t hr => XS.icmpYes h hx rfl (pc0 := pc) (pc' := pc2) rfl (hb hb0 hd) rfl (q.trans (decide_eq_true hc)) ho hq hr) (ht hc)
  · exact K.step (fun p e below T c h hx hb0 t hr => XS.icmpNo h hx rfl (hb hb0 hd) rfl (q.trans (decide_eq_false hc)) hr) (hf (by omega))
theorem Cx.if_gt (K : Cx l R Z n0 Q own nm bytes maxL ret m G) {o : Int} {x : Int32} {a : Int} (hd : decode bytes pc = .ok (.ifCond .gt o, 3)) (hp : pc + 3 = pc1) (ho : 0 ≤ (pc : Int) + o) (hq : ((pc : Int) + o).toNat = pc2) (ha : x.toInt = a) (ht : 0 < a → G h kc ks (mkF m pc2 L S)) (hf : a ≤ 0 → G h kc ks (mkF m pc1 L S)) : G h kc ks (mkF m pc L (.int x :: S)) := by
  subst hp
  have q := (if0 .gt x).trans (icmpW .gt ha (b := 0) rfl)
  by_cases hc : 0 < a
  · exact K.step (fun p e below T c h hx hb0 t hr => XS.ifYes h hx rfl (pc0 := pc) (pc' := pc2) rfl (hb hb0 hd) rfl (q.trans (decide_eq_true hc)) ho hq hr) (ht hc)
  · exact K.step (fun p e below T c h hx hb0 t hr => XS.ifNo h hx rfl (hb hb0 hd) rfl (q.trans (decide_eq_false hc)) hr) (hf (by omega))
theorem Cx.lcmp_gt (K : Cx l R Z n0 Q own nm bytes maxL ret m G) {o : Int} {x y : Int64} {a b : Int} (hd0 : decode bytes pc = .ok (.lcmp, 1)) (hd : decode bytes (pc + 1) = .ok (.ifCond .gt o, 3)) (hp : pc + 4 = pc1) (ho : 0 ≤ ((pc + 1 : Nat) : Int) + o) (hq : (((pc + 1 : Nat) : Int) + o).toNat = pc2) (ha : x.toInt = a) (hb' : y.toInt = b) (ht : b < a → G h kc ks (mkF m pc2 L S)) (hf : a ≤ b → G h kc ks (mkF m pc1 L S)) : G h kc ks (mkF m pc L (.long y :: .long x :: S)) := by
  subst hp
  have q := lcmpW0 .gt ha hb'
  refine K.step (f' := mkF m (pc + 1) L (.int (if x > y then 1 else if x = y then 0 else -1) :: S)) (fun p e below T c h hx hb0 t hr => XS.lcmp h hx rfl (hb hb0 hd0) rfl hr) ?_
  by_cases hc : b < a
  · exact K.step (fun p e below T c h hx hb0 t hr => XS.ifYes h hx rfl (pc0 := pc + 1) (pc' := pc2) rfl (hb hb0 hd) rfl (q.trans (decide_eq_true hc)) ho hq hr) (ht hc)
  · exact K.step (fun p e below T c h hx hb0 t hr => XS.ifNo h hx rfl (hb hb0 hd) rfl (q.trans (decide_eq_false hc)) hr) (hf (by omega))
theorem Cx.icmp_le (K : Cx l R Z n0 Q own nm bytes maxL ret m G) {o : Int} {x y : Int32} {a b : Int} (hd : decode bytes pc = .ok (.if_icmp .le o, 3)) (hp : pc + 3 = pc1) (ho : 0 ≤ (pc : Int) + o) (hq : ((pc : Int) + o).toNat = pc2) (ha : x.toInt = a) (hb' : y.toInt = b) (ht : a ≤ b → G h kc ks (mkF m pc2 L S)) (hf : b < a → G h kc ks (mkF m pc1 L S)) : G h kc ks (mkF m pc L (.int y :: .int x :: S)) := by
  subst hp
  have q := icmpW .le ha hb'
  by_cases hc : a ≤ b
  · exact K.step (fun p e below T c h hx hb0 t hr => XS.icmpYes h hx rfl (pc0 := pc) (pc' := pc2) rfl (hb hb0 hd) rfl (q.trans (decide_eq_true hc)) ho hq hr) (ht hc)
  · exact K.step (fun p e below T c h hx hb0 t hr => XS.icmpNo h hx rfl (hb hb0 hd) rfl (q.trans (decide_eq_false hc)) hr) (hf (by omega))
theorem Cx.if_le (K : Cx l R Z n0 Q own nm bytes maxL ret m G) {o : Int} {x : Int32} {a : Int} (hd : decode bytes pc = .ok (.ifCond .le o, 3)) (hp : pc + 3 = pc1) (ho : 0 ≤ (pc : Int) + o) (hq : ((pc : Int) + o).toNat = pc2) (ha : x.toInt = a) (ht : a ≤ 0 → G h kc ks (mkF m pc2 L S)) (hf : 0 < a → G h kc ks (mkF m pc1 L S)) : G h kc ks (mkF m pc L (.int x :: S)) := by
  subst hp
  have q := (if0 .le x).trans (icmpW .le ha (b := 0) rfl)
  by_cases hc : a ≤ 0
  · exact K.step (fun p e below T c h hx hb0 t hr => XS.ifYes h hx rfl (pc0 := pc) (pc' := pc2) rfl (hb hb0 hd) rfl (q.trans (decide_eq_true hc)) ho hq hr) (ht hc)
  · exact K.step (fun p e below T c h hx hb0 t hr => XS.ifNo h hx rfl (hb hb0 hd) rfl (q.trans (decide_eq_false hc)) hr) (hf (by omega))
theorem Cx.lcmp_le (K : Cx l R Z n0 Q own nm bytes maxL ret m G) {o : Int} {x y : Int64} {a b : Int} (hd0 : decode bytes pc = .ok (.lcmp, 1)) (hd : decode bytes (pc + 1) = .ok (.ifCond .le o, 3)) (hp : pc + 4 = pc1) (ho : 0 ≤ ((pc + 1 : Nat) : Int) + o) (hq : (((pc + 1 : Nat) : Int) + o).toNat = pc2) (ha : x.toInt = a) (hb' : y.toInt = b) (ht : a ≤ b → G h kc ks (mkF m pc2 L S)) (hf : b < a → G h kc ks (mkF m pc1 L S)) : G h kc ks (mkF m pc L (.long y :: .long x :: S)) := by
  subst hp
  have q := lcmpW0 .le ha hb'
  refine K.step (f' := mkF m (pc + 1) L (.int (if x > y then 1 else if x = y then 0 else -1) :: S)) (fun p e below T c h hx hb0 t hr => XS.lcmp h hx rfl (hb hb0 hd0) rfl hr) ?_
  by_cases hc : a ≤ b
  · exact K.step (fun p e below T c h hx hb0 t hr => XS.ifYes h hx rfl (pc0 := pc + 1) (pc' := pc2) rfl (hb hb0 hd) rfl (q.trans (decide_eq_true hc)) ho hq hr) (ht hc)
  · exact K.step (fun p e below T c h hx hb0 t hr => XS.ifNo h hx rfl (hb hb0 hd) rfl (q.trans (decide_eq_false hc)) hr) (hf (by omega))
theorem Cx.icmp_eq (K : Cx l R Z n0 Q own nm bytes maxL ret m G) {o : Int} {x y : Int32} {a b : Int} (hd : decode bytes pc = .ok (.if_icmp .eq o, 3)) (hp : pc + 3 = pc1) (ho : 0 ≤ (pc : Int) + o) (hq : ((pc : Int) + o).toNat = pc2) (ha : x.toInt = a) (hb' : y.toInt = b) (ht : a = b → G h kc ks (mkF m pc2 L S)) (hf : a ≠ b → G h kc ks (mkF m pc1 L S)) : G h kc ks (mkF m pc L (.int y :: .int x :: S)) := by
  subst hp
  have q := icmpW .eq ha hb'
  by_cases hc : a = b
  · exact K.step (fun p e below T c h hx hb0 t hr => XS.icmpYes h hx rfl (pc0 := pc) (pc' := pc2) rfl (hb hb0 hd) rfl (q.trans (decide_eq_true hc)) ho hq hr) (ht hc)
  · exact K.step (fun p e below T c h hx hb0 t hr => XS.icmpNo h hx rfl (hb hb0 hd) rfl (q.trans (decide_eq_false hc)) hr) (hf (by omega))
theorem Cx.if_eq (K : Cx l R Z n0 Q own nm bytes maxL ret m G) {o : Int} {x : Int32} {a : Int} (hd : decode bytes pc = .ok (.ifCond .eq o, 3)) (hp : pc + 3 = pc1) (ho : 0 ≤ (pc : Int) + o) (hq : ((pc : Int) + o).toNat = pc2) (ha : x.toInt = a) (ht : a = 0 → G h kc ks (mkF m pc2 L S)) (hf : a ≠ 0 → G h kc ks (mkF m pc1 L S)) : G h kc ks (mkF m pc L (.int x :: S)) := by
  subst hp
  have q := (if0 .eq x).trans (icmpW .eq ha (b := 0) rfl)
  by_cases hc : a = 0
  · exact K.step (fun p e below T c h hx hb0 t hr => XS.ifYes h hx rfl (pc0 := pc) (pc' := pc2) rfl (hb hb0 hd) rfl (q.trans (decide_eq_true hc)) ho hq hr) (ht hc)
  · exact K.step (fun p e below T c h hx hb0 t hr => XS.ifNo h hx rfl (hb hb0 hd) rfl (q.trans (decide_eq_false hc)) hr) (hf (by omega))
theorem Cx.lcmp_eq (K : Cx l R Z n0 Q own nm bytes maxL ret m G) {o : Int} {x y : Int64} {a b : Int} (hd0 : decode bytes pc = .ok (.lcmp, 1)) (hd : decode bytes (pc + 1) = .ok (.ifCond .eq o, 3)) (hp : pc + 4 = pc1) (ho : 0 ≤ ((pc + 1 : Nat) : Int) + o) (hq : (((pc + 1 : Nat) : Int) + o).toNat = pc2) (ha : x.toInt = a) (hb' : y.toInt = b) (ht : a = b → G h kc ks (mkF m pc2 L S)) (hf : a ≠ b → G h kc ks (mkF m pc1 L S)) : G h kc ks (mkF m pc L (.long y :: .long x :: S)) := by
  subst hp
  have q := lcmpW0 .eq ha hb'
  refine K.step (f' := mkF m (pc + 1) L (.int (if x > y then 1 else if x = y then 0 else -1) :: S)) (fun p e below T c h hx hb0 t hr => XS.lcmp h hx rfl (hb hb0 hd0) rfl hr) ?_
  by_cases hc : a = b
  · exact K.step (fun p e below T c h hx hb0 t hr => XS.ifYes h hx rfl (pc0 := pc + 1) (pc' := pc2) rfl (hb hb0 hd) rfl (q.trans (decide_eq_true hc)) ho hq hr) (ht hc)
  · exact K.step (fun p e below T c h hx hb0 t hr => XS.ifNo h hx rfl (hb hb0 hd) rfl (q.trans (decide_eq_false hc)) hr) (hf (by omega))
theorem Cx.icmp_ne (K : Cx l R Z n0 Q own nm bytes maxL ret m G) {o : Int} {x y : Int32} {a b : Int} (hd : decode bytes pc = .ok (.if_icmp .ne o, 3)) (hp : pc + 3 = pc1) (ho : 0 ≤ (pc : Int) + o) (hq : ((pc : Int) + o).toNat = pc2) (ha : x.toInt = a) (hb' : y.toInt = b) (ht : a ≠ b → G h kc ks (mkF m pc2 L S)) (hf : a = b → G h kc ks (mkF m pc1 L S)) : G h kc ks (mkF m pc L (.int y :: .int x :: S)) := by
  subst hp
  have q := icmpW .ne ha hb'
  by_cases hc : a ≠ b
  · exact K.step (fun p e below T c h hx hb0 t hr => XS.icmpYes h hx rfl (pc0 := pc) (pc' := pc2) rfl (hb hb0 hd) rfl (q.trans (decide_eq_true hc)) ho hq hr) (ht hc)
  · exact K.step (fun p e below T c h hx hb0 t hr => XS.icmpNo h hx rfl (hb hb0 hd) rfl (q.trans (decide_eq_false hc)) hr) (hf (by omega))
theorem Cx.if_ne (K : Cx l R Z n0 Q own nm bytes maxL ret m G) {o : Int} {x : Int32} {a : Int} (hd : decode bytes pc = .ok (.ifCond .ne o, 3)) (hp : pc + 3 = pc1) (ho : 0 ≤ (pc : Int) + o) (hq : ((pc : Int) + o).toNat = pc2) (ha : x.toInt = a) (ht : a ≠ 0 → G h kc ks (mkF m pc2 L S)) (hf : a = 0 → G h kc ks (mkF m pc1 L S)) : G h kc ks (mkF m pc L (.int x :: S)) := by
  subst hp
  have q := (if0 .ne x).trans (icmpW .ne ha (b := 0) rfl)
  by_cases hc : a ≠ 0
  · exact K.step (fun p e below T c h hx hb0 t hr => XS.ifYes h hx rfl (pc0 := pc) (pc' := pc2) rfl (hb hb0 hd) rfl (q.trans (decide_eq_true hc)) ho hq hr) (ht hc)
  · exact K.step (fun p e below T c h hx hb0 t hr => XS.ifNo h hx rfl (hb hb0 hd) rfl (q.trans (decide_eq_false hc)) hr) (hf (by omega))
theorem Cx.lcmp_ne (K : Cx l R Z n0 Q own nm bytes maxL ret m G) {o : Int} {x y : Int64} {a b : Int} (hd0 : decode bytes pc = .ok (.lcmp, 1)) (hd : decode bytes (pc + 1) = .ok (.ifCond .ne o, 3)) (hp : pc + 4 = pc1) (ho : 0 ≤ ((pc + 1 : Nat) : Int) + o) (hq : (((pc + 1 : Nat) : Int) + o).toNat = pc2) (ha : x.toInt = a) (hb' : y.toInt = b) (ht : a ≠ b → G h kc ks (mkF m pc2 L S)) (hf : a = b → G h kc ks (mkF m pc1 L S)) : G h kc ks (mkF m pc L (.long y :: .long x :: S)) := by
  subst hp
  have q := lcmpW0 .ne ha hb'
  refine K.step (f' := mkF m (pc + 1) L (.int (if x > y then 1 else if x = y then 0 else -1) :: S)) (fun p e below T c h hx hb0 t hr => XS.lcmp h hx rfl (hb hb0 hd0) rfl hr) ?_
  by_cases hc : a ≠ b
  · exact K.step (fun p e below T c h hx hb0 t hr => XS.ifYes h hx rfl (pc0 := pc + 1) (pc' := pc2) rfl (hb hb0 hd) rfl (q.trans (decide_eq_true hc)) ho hq hr) (ht hc)
  · exact K.step (fun p e below T c h hx hb0 t hr => XS.ifNo h hx rfl (hb hb0 hd) rfl (q.trans (decide_eq_false hc)) hr) (hf (by omega))
theorem Cx.ifneB (K : Cx l R Z n0 Q own nm bytes maxL ret m G) {o : Int} {P : Prop} [Decidable P] (hd : decode bytes pc = .ok (.ifCond .ne o, 3)) (hp : pc + 3 = pc1) (ho : 0 ≤ (pc : Int) + o) (hq : ((pc : Int) + o).toNat = pc2) (ht : P → G h kc ks (mkF m pc2 L S)) (hf : ¬ P → G h kc ks (mkF m pc1 L S)) : G h kc ks (mkF m pc L (.int (b2 P) :: S)) :=
  K.if_ne hd hp ho hq rfl (fun q => ht ((b2_ne0 P).mp q)) (fun q => hf ((b2_eq0 P).mp q))
theorem Cx.ifeqB (K : Cx l R Z n0 Q own nm bytes maxL ret m G) {o : Int} {P : Prop} [Decidable P] (hd : decode bytes pc = .ok (.ifCond .eq o, 3)) (hp : pc + 3 = pc1) (ho : 0 ≤ (pc : Int) + o) (hq : ((pc : Int) + o).toNat = pc2) (ht : ¬ P → G h kc ks (mkF m pc2 L S)) (hf : P → G h kc ks (mkF m pc1 L S)) : G h kc ks (mkF m pc L (.int (b2 P) :: S)) :=
  K.if_eq hd hp ho hq rfl (fun q => ht ((b2_eq0 P).mp q)) (fun q => hf ((b2_ne0 P).mp q))
theorem Cx.icmpneB (K : Cx l R Z n0 Q own nm bytes maxL ret m G) {o : Int} {P P' : Prop} [Decidable P] [Decidable P'] (hd : decode bytes pc = .ok (.if_icmp .ne o, 3)) (hp : pc + 3 = pc1) (ho : 0 ≤ (pc : Int) + o) (hq : ((pc : Int) + o).toNat = pc2) (ht : ¬ (P ↔ P') → G h kc ks (mkF m pc2 L S)) (hf : (P ↔ P') → G h kc ks (mkF m pc1 L S)) : G h kc ks (mkF m pc L (.int (b2 P') :: .int (b2 P) :: S)) :=
  K.icmp_ne hd hp ho hq rfl rfl (fun q => ht (fun z => q ((b2_inj P P').mpr z))) (fun q => hf ((b2_inj P P').mp q))
theorem Cx.icmpeqB (K : Cx l R Z n0 Q own nm bytes maxL ret m G) {o : Int} {P P' : Prop} [Decidable P] [Decidable P'] (hd : decode bytes pc = .ok (.if_icmp .eq o, 3)) (hp : pc + 3 = pc1) (ho : 0 ≤ (pc : Int) + o) (hq : ((pc : Int) + o).toNat = pc2) (ht : (P ↔ P') → G h kc ks (mkF m pc2 L S)) (hf : ¬ (P ↔ P') → G h kc ks (mkF m pc1 L S)) : G h kc ks (mkF m pc L (.int (b2 P') :: .int (b2 P) :: S)) :=
  K.icmp_eq hd hp ho hq rfl rfl (fun q => ht ((b2_inj P P').mp q)) (fun q => hf (fun z => q ((b2_inj P P').mpr z)))
theorem Cx.ifnull0 (K : Cx l R Z n0 Q own nm bytes maxL ret m G) {o : Int} (hd : decode bytes pc = .ok (.ifnull o, 3)) (ho : 0 ≤ (pc : Int) + o) (hq : ((pc : Int) + o).toNat = pc2) (hr : G h kc ks (mkF m pc2 L S)) : G h kc ks (mkF m pc L (.null :: S)) :=
  K.step (fun p e below T c h hx hb0 t hr => XS.ifnullYes h hx rfl (pc0 := pc) (pc' := pc2) rfl (hb hb0 hd) rfl ho hq hr) hr
theorem Cx.ifnull1 (K : Cx l R Z n0 Q own nm bytes maxL ret m G) {o : Int} {b : Addr} (hd : decode bytes pc = .ok (.ifnull o, 3)) (hp : pc + 3 = pc') (hr : G h kc ks (mkF m pc' L S)) : G h kc ks (mkF m pc L (.ref b :: S)) := by
  subst hp
  exact K.step (fun p e below T c h hx hb0 t hr => XS.ifnullNo h hx rfl (hb hb0 hd) rfl hr) hr
theorem Cx.ifnonnull1 (K : Cx l R Z n0 Q own nm bytes maxL ret m G) {o : Int} {b : Addr} (hd : decode bytes pc = .ok (.ifnonnull o, 3)) (ho : 0 ≤ (pc : Int) + o) (hq : ((pc : Int) + o).toNat = pc2) (hr : G h kc ks (mkF m pc2 L S)) : G h kc ks (mkF m pc L (.ref b :: S)) :=
  K.step (fun p e below T c h hx hb0 t hr => XS.ifnonnullYes h hx rfl (pc0 := pc) (pc' := pc2) rfl (hb hb0 hd) rfl ho hq hr) hr
theorem Cx.ifnonnull0 (K : Cx l R Z n0 Q own nm bytes maxL ret m G) {o : Int} (hd : decode bytes pc = .ok (.ifnonnull o, 3)) (hp : pc + 3 = pc') (hr : G h kc ks (mkF m pc' L S)) : G h kc ks (mkF m pc L (.null :: S)) := by
  subst hp
  exact K.step (fun p e below T c h hx hb0 t hr => XS.ifnonnullNo h hx rfl (hb hb0 hd) rfl hr) hr
theorem Cx.acmpNe (K : Cx l R Z n0 Q own nm bytes maxL ret m G) {o : Int} {a b : Addr} (hd : decode bytes pc = .ok (.if_acmp .ne o, 3)) (hp : pc + 3 = pc1) (ho : 0 ≤ (pc : Int) + o) (hq : ((pc : Int) + o).toNat = pc2) (ht : a ≠ b → G h kc ks (mkF m pc2 L S)) (hf : a = b → G h kc ks (mkF m pc1 L S)) : G h kc ks (mkF m pc L (.ref b :: .ref a :: S)) := by
  subst hp
  by_cases hc : a = b
  · exact K.step (fun p e below T c h hx hb0 t hr => XS.acmpNo h hx rfl (hb hb0 hd) rfl (by simp [if_acmp.holds, hc]) hr) (hf hc)
  · exact K.step (fun p e below T c h hx hb0 t hr => XS.acmpYes h hx rfl (pc0 := pc) (pc' := pc2) rfl (hb hb0 hd) rfl (by simp [if_acmp.holds, hc]) ho hq hr) (ht hc)
theorem Cx.acmpEq (K : Cx l R Z n0 Q own nm bytes maxL ret m G) {o : Int} {a b : Addr} (hd : decode bytes pc = .ok (.if_acmp .eq o, 3)) (hp : pc + 3 = pc1) (ho : 0 ≤ (pc : Int) + o) (hq : ((pc : Int) + o).toNat = pc2) (ht : a = b → G h kc ks (mkF m pc2 L S)) (hf : a ≠ b → G h kc ks (mkF m pc1 L S)) : G h kc ks (mkF m pc L (.ref b :: .ref a :: S)) := by
  subst hp
  by_cases hc : a = b
  · exact K.step (fun p e below T c h hx hb0 t hr => XS.acmpYes h hx rfl (pc0 := pc) (pc' := pc2) rfl (hb hb0 hd) rfl (by simp [if_acmp.holds, hc]) ho hq hr) (ht hc)
  · exact K.step (fun p e below T c h hx hb0 t hr => XS.acmpNo h hx rfl (hb hb0 hd) rfl (by simp [if_acmp.holds, hc]) hr) (hf hc)
theorem Cx.lsHit (K : Cx l R Z n0 Q own nm bytes maxL ret m G) {dflt : Int} {pairs : Array (Int × Int)} {len : Nat} {k : Int32} {a off : Int} (hd : decode bytes pc = .ok (.lookupswitch dflt pairs, len)) (hsorted : (pairs.toList.zip (pairs.toList.drop 1)).all (fun (a, next) => a.1 < next.1) = true) (hfind : pairs.find? (·.1 == k.toInt) = some (a, off)) (ho : 0 ≤ (pc : Int) + off) (hq : ((pc : Int) + off).toNat = pc2) (hr : G h kc ks (mkF m pc2 L S)) : G h kc ks (mkF m pc L (.int k :: S)) := by
  subst hq
  exact K.stepX (h' := h) (fun p e s args below meth c T locs X eT hx hb0 hown hZ => ⟨T, X, eT, fun t hr => X.lookupswitchHit hx (g := mkF m pc L (.int k :: S)) rfl rfl (hb hb0 hd) hsorted hfind ho _ hr⟩) hr
theorem Cx.lsMiss (K : Cx l R Z n0 Q own nm bytes maxL ret m G) {dflt : Int} {pairs : Array (Int × Int)} {len : Nat} {k : Int32} (hd : decode bytes pc = .ok (.lookupswitch dflt pairs, len)) (hsorted : (pairs.toList.zip (pairs.toList.drop 1)).all (fun (a, next) => a.1 < next.1) = true) (hfind : ∀ p ∈ pairs.toList, p.1 ≠ k.toInt) (ho : 0 ≤ (pc : Int) + dflt) (hq : ((pc : Int) + dflt).toNat = pc2) (hr : G h kc ks (mkF m pc2 L S)) : G h kc ks (mkF m pc L (.int k :: S)) := by
  subst hq
  exact K.stepX (h' := h) (fun p e s args below meth c T locs X eT hx hb0 hown hZ => ⟨T, X, eT, fun t hr => X.lookupswitchMiss hx (g := mkF m pc L (.int k :: S)) rfl rfl (hb hb0 hd) hsorted (find_miss hfind) ho _ hr⟩) hr
theorem Cx.ldcI (K : Cx l R Z n0 Q own nm bytes maxL ret m G) {index : Nat} {v : Int32} (hd : decode bytes pc = .ok (.ldc index, 2)) (hp : pc + 2 = pc') (w : (Cond.constant own index v).before a0 Z = true) (hr : G h kc ks (mkF m pc' L (.int v :: S))) : G h kc ks (mkF m pc L S) := by
  subst hp
  exact K.stepX (h' := h) (fun p e s args below meth c T locs X eT hx hb0 hown hZ => ⟨T, X, eT, X.ldcInt hx hown (mvT hZ w) (g := mkF m pc L S) rfl (hb hb0 hd)⟩) hr
theorem Cx.ldcwI (K : Cx l R Z n0 Q own nm bytes maxL ret m G) {index : Nat} {v : Int32} (hd : decode bytes pc = .ok (.ldc_w index, 3)) (hp : pc + 3 = pc') (w : (Cond.constant own index v).before a0 Z = true) (hr : G h kc ks (mkF m pc' L (.int v :: S))) : G h kc ks (mkF m pc L S) := by
  subst hp
  exact K.stepX (h' := h) (fun p e s args below meth c T locs X eT hx hb0 hown hZ => ⟨T, X, eT, X.ldcwInt hx hown (mvT hZ w) (g := mkF m pc L S) rfl (hb hb0 hd)⟩) hr
theorem Cx.ldc2J (K : Cx l R Z n0 Q own nm bytes maxL ret m G) {index : Nat} {v : Int64} (hd : decode bytes pc = .ok (.ldc2_w index, 3)) (hp : pc + 3 = pc') (w : (Cond.constantLong own index v).before a0 Z = true) (hr : G h kc ks (mkF m pc' L (.long v :: S))) : G h kc ks (mkF m pc L S) := by
  subst hp
  exact K.stepX (h' := h) (fun p e s args below meth c T locs X eT hx hb0 hown hZ => ⟨T, X, eT, X.ldc2Long hx hown (mvT hZ w) (g := mkF m pc L S) rfl (hb hb0 hd)⟩) hr
theorem Cx.ldc2D (K : Cx l R Z n0 Q own nm bytes maxL ret m G) {index : Nat} {v : UInt64} (hd : decode bytes pc = .ok (.ldc2_w index, 3)) (hp : pc + 3 = pc') (w : (Cond.constantDouble own index v).before a0 Z = true) (hr : G h kc ks (mkF m pc' L (.double v :: S))) : G h kc ks (mkF m pc L S) := by
  subst hp
  exact K.stepX (h' := h) (fun p e s args below meth c T locs X eT hx hb0 hown hZ => ⟨T, X, eT, X.ldc2DoubleC hx hown (mvT hZ w) (g := mkF m pc L S) rfl (hb hb0 hd)⟩) hr
theorem Cx.getf (K : Cx l R Z n0 Q own nm bytes maxL ret m G) {R0 O n d host : String} {index : Nat} {a : Addr} {v : Value} (hd : decode bytes pc = .ok (.getfield index, 3)) (hp : pc + 3 = pc') (w : (Cond.fieldLink own index R0 n d).before a0 Z = true ∨ (Cond.fieldLinkNest own index R0 n d host).before a0 Z = true) (via : Via Z R0 O n d) (F : Fld Z h a O n d v) (hr : G h kc ks (mkF m pc' L (v :: S))) : G h kc ks (mkF m pc L (.ref a :: S)) := by
  subst hp
  exact K.stepX (h' := h) (fun p e s args below meth c T locs X eT hx hb0 hown hZ => RoadKit.getF X hx hZ hown w via eT F (g := mkF m pc L (.ref a :: S)) rfl rfl (hb hb0 hd)) hr
theorem Cx.gets (K : Cx l R Z n0 Q own nm bytes maxL ret m G) {R0 O n d host : String} {index : Nat} {v : Value} (hd : decode bytes pc = .ok (.getstatic index, 3)) (hp : pc + 3 = pc') (w : (Cond.fieldLink own index R0 n d).before a0 Z = true ∨ (Cond.fieldLinkNest own index R0 n d host).before a0 Z = true) (via : Via Z R0 O n d) (F : Sta Z h O n d v) (hr : G h kc ks (mkF m pc' L (v :: S))) : G h kc ks (mkF m pc L S) := by
  subst hp
  exact K.stepX (h' := h) (fun p e s args below meth c T locs X eT hx hb0 hown hZ => RoadKit.getS2 X hx hZ hown w via eT F (g := mkF m pc L S) rfl (hb hb0 hd)) hr
theorem Cx.putf (K : Cx l R Z n0 Q own nm bytes maxL ret m G) {R0 O n d host C : String} {index kk : Nat} {ty : FieldType} {a : Addr} {v old : Value} (hd : decode bytes pc = .ok (.putfield index, 3)) (hp : pc + 3 = pc') (w : (Cond.fieldLink own index R0 n d).before a0 Z = true ∨ (Cond.fieldLinkNest own index R0 n d host).before a0 Z = true) (via : Via Z R0 O n d) (F : Fld Z h a O n d old) (E : Exa Z h a C)
    (LL : (Cond.lays C O n d).before a0 Z = true ∨ ((Cond.laysFinal C O n d).before a0 Z = true ∧ own = O ∧ nm = "<init>")) (wi : (Cond.instantiable C kk).before a0 Z = true) (hty : parseFieldDescriptor d = some ty) (hn : narrow ty v = v) (hf : fits ty v = true) (ga : n0 ≤ a)
    (hr : ∀ h', Wr h h' a (Jvm.RoadKit.slotOf Z O n d) v → G h' kc ks (mkF m pc' L S)) : G h kc ks (mkF m pc L (v :: .ref a :: S)) := by
  obtain ⟨p, e, s, args, below, meth, c, rfl, hx, hby, hml, hown, hZ, hret, hlk, hnm⟩ := K
  subst hp
  intro T locs X eT N
  obtain ⟨T', h', X', e', W, st⟩ := RoadKit.putF X hx hZ hown w via eT F E (LL.imp id fun q => ⟨q.1, q.2.1, hnm.trans q.2.2⟩) wi hty hn hf (g := mkF m pc L (v :: .ref a :: S)) rfl rfl (hb hby hd)
  obtain ⟨s₂, o, h1, h2⟩ := hr h' W T' _ X' e' (Fr.snoc X' N ga)
  exact ⟨s₂, o, st _ h1, h2⟩
theorem Cx.newo (K : Cx l R Z n0 Q own nm bytes maxL ret m G) {C : String} {index n : Nat} (hd : decode bytes pc = .ok (.new index, 3)) (hp : pc + 3 = pc') (w : (Cond.classLink own index C).before a0 Z = true) (wi : (Cond.instantiable C n).before a0 Z = true) (wz : (Cond.initialized C).before a0 Z = true) (hc : kc + 1 ≤ R.cells) (hl : ks + n ≤ R.slots)
    (hr : ∀ h' a, a = h.size → Ext h h' → Exa Z h' a C → (∀ {O nm d : String} {ty : FieldType}, Laid Z a0 C O nm d → parseFieldDescriptor d = some ty → Fld Z h' a O nm d (defaultValue ty)) → G h' (kc + 1) (ks + n) (mkF m pc' L (.ref a :: S))) : G h kc ks (mkF m pc L S) := by
  obtain ⟨p, e, s, args, below, meth, c, rfl, hx, hby, hml, hown, hZ, hret, hlk, hnm⟩ := K
  subst hp
  intro T locs X eT N
  obtain ⟨T', h', X', e', E, A, D, -, st⟩ := RoadKit.newO X hx hZ hown w wi wz eT (g := mkF m pc L S) rfl (hb hby hd) hc hl
  obtain ⟨s₂, o, h1, h2⟩ := hr h' _ rfl E A D T' _ X' e' N
  exact ⟨s₂, o, st _ h1, h2⟩
theorem Cx.newa (K : Cx l R Z n0 Q own nm bytes maxL ret m G) {aty : ArrayType} {n : Int32} {k cap : Nat} (hd : decode bytes pc = .ok (.newarray aty, 2)) (hp : pc + 2 = pc') (w : (Cond.arrayClass (newarray.typeOf aty)).before a0 Z = true) (hn : n.toInt = (k : Nat)) (hk : k ≤ cap) (hbig : cap * 8 ≤ 536870912) (hc : kc + 1 ≤ R.cells) (hl : ks + cap ≤ R.slots) {ad : String} (had : "[" ++ (newarray.typeOf aty).toString = ad)
    (hr : ∀ h' a, a = h.size → Ext h h' → Ary Z h' a (newarray.typeOf aty) (List.replicate k (defaultValue (newarray.typeOf aty))) → Exa Z h' a ad → G h' (kc + 1) (ks + cap) (mkF m pc' L (.ref a :: S))) : G h kc ks (mkF m pc L (.int n :: S)) := by
  obtain ⟨p, e, s, args, below, meth, c, rfl, hx, hby, hml, hown, hZ, hret, hlk, hnm⟩ := K
  subst hp
  intro T locs X eT N
  have hn0 : ¬ n < 0 := by rw [Int32.lt_iff_toInt_lt, hn, show (0 : Int32).toInt = 0 from rfl]; omega
  obtain ⟨T', h', cA, X', e', E, A, EX, st⟩ := RoadKit.newPE X hx hZ w eT (g := mkF m pc L (.int n :: S)) rfl (hb hby hd) rfl hn0 (cap := cap) (by rw [clamp_of hn]; exact hk) hbig hc hl had
  obtain ⟨s₂, o, h1, h2⟩ := hr h' _ rfl E ⟨_, A, by simp [newA, clamp_of hn], by rw [List.length_replicate]; have := n.toInt_lt; omega⟩ EX T' _ X' e' N
  exact ⟨s₂, o, st _ h1, h2⟩
theorem Cx.iald (K : Cx l R Z n0 Q own nm bytes maxL ret m G) {a : Addr} {vs : List Value} {j : Int32} {i : Nat} {v : Value} (hd : decode bytes pc = .ok (.iaload, 1)) (hp : pc + 1 = pc') (A : Ary Z h a .int vs) (hj : j.toInt = (i : Nat)) (hv : vs[i]? = some v) (hr : G h kc ks (mkF m pc' L (v :: S))) : G h kc ks (mkF m pc L (.int j :: .ref a :: S)) := by
  subst hp
  obtain ⟨cl, Ar, rfl, hlt⟩ := A
  have hi : i < cl.slots.toList.length := (List.getElem?_eq_some_iff.mp hv).1
  exact K.stepX (h' := h) (fun p e s args below meth c T locs X eT hx hb0 hown hZ => ⟨T, X, eT, fun t hr => X.iaload hx (j := j) (v := v) (by rw [eT]; exact Ar.1) (State.isArrayOf_alike hZ.alike Ar.2.1) Ar.2.2 (in_of hj hi) (at_of hj hv) (g := mkF m pc L (.int j :: .ref a :: S)) rfl rfl (hb hb0 hd) _ hr⟩) hr
theorem Cx.lald (K : Cx l R Z n0 Q own nm bytes maxL ret m G) {a : Addr} {vs : List Value} {j : Int32} {i : Nat} {v : Value} (hd : decode bytes pc = .ok (.laload, 1)) (hp : pc + 1 = pc') (A : Ary Z h a .long vs) (hj : j.toInt = (i : Nat)) (hv : vs[i]? = some v) (hr : G h kc ks (mkF m pc' L (v :: S))) : G h kc ks (mkF m pc L (.int j :: .ref a :: S)) := by
  subst hp
  obtain ⟨cl, Ar, rfl, hlt⟩ := A
  have hi : i < cl.slots.toList.length := (List.getElem?_eq_some_iff.mp hv).1
  exact K.stepX (h' := h) (fun p e s args below meth c T locs X eT hx hb0 hown hZ => ⟨T, X, eT, fun t hr => X.laload hx (j := j) (v := v) (by rw [eT]; exact Ar.1) (State.isArrayOf_alike hZ.alike Ar.2.1) Ar.2.2 (in_of hj hi) (at_of hj hv) (g := mkF m pc L (.int j :: .ref a :: S)) rfl rfl (hb hb0 hd) _ hr⟩) hr
theorem Cx.cald (K : Cx l R Z n0 Q own nm bytes maxL ret m G) {a : Addr} {vs : List Value} {j : Int32} {i : Nat} {v : Value} (hd : decode bytes pc = .ok (.caload, 1)) (hp : pc + 1 = pc') (A : Ary Z h a .char vs) (hj : j.toInt = (i : Nat)) (hv : vs[i]? = some v) (hr : G h kc ks (mkF m pc' L (v :: S))) : G h kc ks (mkF m pc L (.int j :: .ref a :: S)) := by
  subst hp
  obtain ⟨cl, Ar, rfl, hlt⟩ := A
  have hi : i < cl.slots.toList.length := (List.getElem?_eq_some_iff.mp hv).1
  exact K.stepX (h' := h) (fun p e s args below meth c T locs X eT hx hb0 hown hZ => ⟨T, X, eT, fun t hr => X.caload hx (j := j) (v := v) (by rw [eT]; exact Ar.1) (State.isArrayOf_alike hZ.alike Ar.2.1) Ar.2.2 (in_of hj hi) (at_of hj hv) (g := mkF m pc L (.int j :: .ref a :: S)) rfl rfl (hb hb0 hd) _ hr⟩) hr
theorem Cx.bald (K : Cx l R Z n0 Q own nm bytes maxL ret m G) {a : Addr} {vs : List Value} {j : Int32} {i : Nat} {v : Value} (hd : decode bytes pc = .ok (.baload, 1)) (hp : pc + 1 = pc') (A : Ary Z h a .byte vs) (hj : j.toInt = (i : Nat)) (hv : vs[i]? = some v) (hr : G h kc ks (mkF m pc' L (v :: S))) : G h kc ks (mkF m pc L (.int j :: .ref a :: S)) := by
  subst hp
  obtain ⟨cl, Ar, rfl, hlt⟩ := A
  have hi : i < cl.slots.toList.length := (List.getElem?_eq_some_iff.mp hv).1
  exact K.stepX (h' := h) (fun p e s args below meth c T locs X eT hx hb0 hown hZ => ⟨T, X, eT, fun t hr => X.baloadBytes hx (j := j) (v := v) (by rw [eT]; exact Ar.1) (State.isArrayOf_alike hZ.alike Ar.2.1) Ar.2.2 (in_of hj hi) (at_of hj hv) (g := mkF m pc L (.int j :: .ref a :: S)) rfl rfl (hb hb0 hd) _ hr⟩) hr
theorem Cx.alen (K : Cx l R Z n0 Q own nm bytes maxL ret m G) {a : Addr} {vs : List Value} {ty : FieldType} (hd : decode bytes pc = .ok (.arraylength, 1)) (hp : pc + 1 = pc') (A : Ary Z h a ty vs) (hr : ∀ z : Int32, z.toInt = (vs.length : Nat) → G h kc ks (mkF m pc' L (.int z :: S))) : G h kc ks (mkF m pc L (.ref a :: S)) := by
  subst hp
  obtain ⟨cl, Ar, rfl, hlt⟩ := A
  refine K.stepX (h' := h) (f' := mkF m (pc + 1) L (.int cl.slots.size.toInt32 :: S)) (fun p e s args below meth c T locs X eT hx hb0 hown hZ => ⟨T, X, eT, fun t hr => X.arraylength hx (by rw [eT]; exact Ar.1) (State.isArrayOf_alike hZ.alike Ar.2.1) (g := mkF m pc L (.ref a :: S)) rfl rfl (hb hb0 hd) _ hr⟩) (hr _ ?_)
  rw [Array.length_toList] at hlt ⊢
  exact len_int hlt
theorem Cx.iast (K : Cx l R Z n0 Q own nm bytes maxL ret m G) {a : Addr} {vs : List Value} {j : Int32} {x : Int32} {i : Nat} (hd : decode bytes pc = .ok (.iastore, 1)) (hp : pc + 1 = pc') (A : Ary Z h a .int vs) (hj : j.toInt = (i : Nat)) (hi : i < vs.length) (ga : n0 ≤ a) (hr : ∀ h', Wr h h' a i (.int x) → Ary Z h' a .int (vs.set i (.int x)) → G h' kc ks (mkF m pc' L S)) : G h kc ks (mkF m pc L (.int x :: .int j :: .ref a :: S)) := by
  obtain ⟨p, e, s, args, below, meth, c, rfl, hx, hby, hml, hown, hZ, hret, hlk, hnm⟩ := K
  subst hp
  intro T locs X eT N
  have A0 := A
  obtain ⟨cl, Ar, rfl, hlt⟩ := A
  obtain ⟨T', h', X', e', W, st⟩ := RoadKit.stI X hx hZ eT Ar (j := j) (in_of hj hi) (g := mkF m pc L (.int x :: .int j :: .ref a :: S)) rfl rfl (hb hby hd)
  have W' := W
  rw [clamp_of hj] at W'
  obtain ⟨s₂, o, h1, h2⟩ := hr h' W' (A0.same W') T' _ X' e' (Fr.snoc X' N ga)
  exact ⟨s₂, o, st _ h1, h2⟩
theorem Cx.last (K : Cx l R Z n0 Q own nm bytes maxL ret m G) {a : Addr} {vs : List Value} {j : Int32} {x : Int64} {i : Nat} (hd : decode bytes pc = .ok (.lastore, 1)) (hp : pc + 1 = pc') (A : Ary Z h a .long vs) (hj : j.toInt = (i : Nat)) (hi : i < vs.length) (ga : n0 ≤ a) (hr : ∀ h', Wr h h' a i (.long x) → Ary Z h' a .long (vs.set i (.long x)) → G h' kc ks (mkF m pc' L S)) : G h kc ks (mkF m pc L (.long x :: .int j :: .ref a :: S)) := by
  obtain ⟨p, e, s, args, below, meth, c, rfl, hx, hby, hml, hown, hZ, hret, hlk, hnm⟩ := K
  subst hp
  intro T locs X eT N
  have A0 := A
  obtain ⟨cl, Ar, rfl, hlt⟩ := A
  obtain ⟨T', h', X', e', W, st⟩ := RoadKit.stJ X hx hZ eT Ar (j := j) (in_of hj hi) (g := mkF m pc L (.long x :: .int j :: .ref a :: S)) rfl rfl (hb hby hd)
  have W' := W
  rw [clamp_of hj] at W'
  obtain ⟨s₂, o, h1, h2⟩ := hr h' W' (A0.same W') T' _ X' e' (Fr.snoc X' N ga)
  exact ⟨s₂, o, st _ h1, h2⟩
theorem Cx.cast_ (K : Cx l R Z n0 Q own nm bytes maxL ret m G) {a : Addr} {vs : List Value} {j : Int32} {x : Int32} {i : Nat} (hd : decode bytes pc = .ok (.castore, 1)) (hp : pc + 1 = pc') (A : Ary Z h a .char vs) (hj : j.toInt = (i : Nat)) (hi : i < vs.length) (ga : n0 ≤ a) (hr : ∀ h', Wr h h' a i (.int (nar .char x)) → Ary Z h' a .char (vs.set i (.int (nar .char x))) → G h' kc ks (mkF m pc' L S)) : G h kc ks (mkF m pc L (.int x :: .int j :: .ref a :: S)) := by
  obtain ⟨p, e, s, args, below, meth, c, rfl, hx, hby, hml, hown, hZ, hret, hlk, hnm⟩ := K
  subst hp
  intro T locs X eT N
  have A0 := A
  obtain ⟨cl, Ar, rfl, hlt⟩ := A
  obtain ⟨T', h', X', e', W, st⟩ := RoadKit.stC X hx hZ eT Ar (j := j) (in_of hj hi) (g := mkF m pc L (.int x :: .int j :: .ref a :: S)) rfl rfl (hb hby hd)
  have W' := W
  rw [clamp_of hj] at W'
  obtain ⟨s₂, o, h1, h2⟩ := hr h' W' (A0.same W') T' _ X' e' (Fr.snoc X' N ga)
  exact ⟨s₂, o, st _ h1, h2⟩
theorem Cx.bast (K : Cx l R Z n0 Q own nm bytes maxL ret m G) {a : Addr} {vs : List Value} {j : Int32} {x : Int32} {i : Nat} (hd : decode bytes pc = .ok (.bastore, 1)) (hp : pc + 1 = pc') (A : Ary Z h a .byte vs) (hj : j.toInt = (i : Nat)) (hi : i < vs.length) (ga : n0 ≤ a) (hr : ∀ h', Wr h h' a i (.int (nar .byte x)) → Ary Z h' a .byte (vs.set i (.int (nar .byte x))) → G h' kc ks (mkF m pc' L S)) : G h kc ks (mkF m pc L (.int x :: .int j :: .ref a :: S)) := by
  obtain ⟨p, e, s, args, below, meth, c, rfl, hx, hby, hml, hown, hZ, hret, hlk, hnm⟩ := K
  subst hp
  intro T locs X eT N
  have A0 := A
  obtain ⟨cl, Ar, rfl, hlt⟩ := A
  obtain ⟨T', h', X', e', W, st⟩ := RoadKit.stB X hx hZ eT Ar (j := j) (in_of hj hi) (g := mkF m pc L (.int x :: .int j :: .ref a :: S)) rfl rfl (hb hby hd)
  have W' := W
  rw [clamp_of hj] at W'
  obtain ⟨s₂, o, h1, h2⟩ := hr h' W' (A0.same W') T' _ X' e' (Fr.snoc X' N ga)
  exact ⟨s₂, o, st _ h1, h2⟩
theorem Cx.init0 (K : Cx l R Z n0 Q own nm bytes maxL ret m G) {idx W : Nat} {a : Addr} (hd : decode bytes pc = .ok (.invokespecial idx, 3)) (hp : pc + 3 = pc') (w1 : (Cond.methodLink own idx Lib.objectInit).before a0 Z = true) (w2 : (Cond.instanceMethod Lib.objectInit).before a0 Z = true) (w3 : (Cond.code Lib.objectInit ⟨#[0xb1]⟩ 1 none).before a0 Z = true) (hL : L.size = maxL) (hf : 1 ≤ R.frames) (hW : (S.map fun v => v.category).sum ≤ W) (hl : W + 12 ≤ R.locals)
    (hr : G h kc ks (mkF m pc' L S)) : G h kc ks (mkF m pc L (.ref a :: S)) := by
  obtain ⟨p, e, s, args, below, meth, c, rfl, hx, hby, hml, hown, hZ, hret, hlk, hnm⟩ := K
  subst hp
  intro T locs X eT N
  obtain ⟨T', X', e', st⟩ := RoadKit.initO X hx hZ hown w1 w2 w3 eT (g := mkF m pc L (.ref a :: S)) rfl (by rw [hml]; exact hL) rfl (hb hby hd) hf (W := W) (by show 2 * 0 + _ ≤ _; omega) hl
  obtain ⟨s₂, o, h1, h2⟩ := hr T' _ X' e' N
  exact ⟨s₂, o, st _ h1, h2⟩
theorem Cx.calls (K : Cx l R Z n0 Q own nm bytes maxL ret m G) {y : MethodName} {b' : ByteArray} {ml' : Nat} {rt' r : Option FieldType} {rm : Room} {Qc : Option Value → Heap → Prop} {index : Nat} {argsL rest : List Value} {W : Nat} {ps : List FieldType} (hd : decode bytes pc = .ok (.invokestatic index, 3)) (hp : pc + 3 = pc') (M : MeetsW l Z n0 y b' ml' rt' rm argsL.toArray h Qc) (w1 : (Cond.methodLink own index y).before a0 Z = true) (w2 : (Cond.static y).before a0 Z = true) (w3 : (Cond.initialized y.cls).before a0 Z = true) (w4 : (Cond.code y b' ml' rt').before a0 Z = true) (hy : y.cls ≠ "java/lang/invoke/MethodHandle" ∧ y.cls ≠ "java/lang/invoke/VarHandle") (hpd : parseMethodDescriptor y.desc = some ⟨ps, r⟩) (hlen : argsL.length = ps.length) (hL : L.size = maxL) (hW : (rest.map fun v => v.category).sum ≤ W) (hf : rm.frames + 1 ≤ R.frames) (hl : W + (ml' + 11) + rm.locals ≤ R.locals) (hc : kc + rm.cells ≤ R.cells) (hsl : ks + rm.slots ≤ R.slots) (hr : ∀ v h', Qc v h' → G h' (kc + rm.cells) (ks + rm.slots) (mkF m pc' L (v.toList ++ rest))) : G h kc ks (mkF m pc L (argsL.reverse ++ rest)) := by
  obtain ⟨p, e, s, args, below, meth, c, rfl, hx, hby, hml, hown, hZ, hret, hlk, hnm⟩ := K
  subst hp
  intro T locs X eT N
  obtain ⟨v, _, ⟨T', Lo, ko, no⟩, -, X', ⟨Lc, hQ, l', y', z'⟩, st⟩ := Jvm.LawKit.callS X hx (y := y) hown (mvT hZ w1) (mvT hZ w2) (mvT hZ w3) (mvT hZ w4) hy (backOf (Q := fun v h L => Qc v h ∧ Fr n0 L) (W := W) (M []) hZ w4 w3 hf hl) (g := mkF m pc L (argsL.reverse ++ rest)) rfl (by rw [hml]; exact hL) (argsL := argsL) (rest := rest) (lenOf hpd hlen) rfl (by show 2 * 0 + _ ≤ _; omega) (hb hby hd) (fun _ _ => ⟨rfl, eT, hc, hsl⟩)
  dsimp only [Pt.U, Pt.locs, Pt.cells, Pt.slots] at X' l' y' z' st hQ
  subst l' y' z'
  obtain ⟨s₂, o, h1, h2⟩ := hr v T'.heap hQ.1 T' _ X' rfl (Fr.app N hQ.2)
  exact ⟨s₂, o, st _ h1, h2⟩
theorem Cx.callc (K : Cx l R Z n0 Q own nm bytes maxL ret m G) {y : MethodName} {b' : ByteArray} {ml' : Nat} {r : Option FieldType} {rm : Room} {Qc : Option Value → Heap → Prop} {index : Nat} {argsL rest : List Value} {W : Nat} {ps : List FieldType} {a : Addr} (hd : decode bytes pc = .ok (.invokespecial index, 3)) (hp : pc + 3 = pc') (hi : y.name = "<init>") (M : MeetsW l Z n0 y b' ml' none rm (Value.ref a :: argsL).toArray h Qc) (w1 : (Cond.methodLink own index y).before a0 Z = true) (w2 : (Cond.instanceMethod y).before a0 Z = true) (w3 : (Cond.initialized y.cls).before a0 Z = true) (w4 : (Cond.code y b' ml' none).before a0 Z = true) (hy : y.cls ≠ "java/lang/invoke/MethodHandle" ∧ y.cls ≠ "java/lang/invoke/VarHandle") (hpd : parseMethodDescriptor y.desc = some ⟨ps, r⟩) (hlen : argsL.length = ps.length) (hL : L.size = maxL) (hW : (rest.map fun v => v.category).sum ≤ W) (hf : rm.frames + 1 ≤ R.frames) (hl : W + (ml' + 11) + rm.locals ≤ R.locals) (hc : kc + rm.cells ≤ R.cells) (hsl : ks + rm.slots ≤ R.slots) (hr : ∀ v h', Qc v h' → G h' (kc + rm.cells) (ks + rm.slots) (mkF m pc' L (v.toList ++ rest))) : G h kc ks (mkF m pc L (argsL.reverse ++ .ref a :: rest)) := by
  obtain ⟨p, e, s, args, below, meth, c, rfl, hx, hby, hml, hown, hZ, hret, hlk, hnm⟩ := K
  subst hp
  intro T locs X eT N
  obtain ⟨v, _, ⟨T', Lo, ko, no⟩, -, X', ⟨Lc, hQ, l', y', z'⟩, st⟩ := X.specialBack hx (y := y) hi hown (mvT hZ w1) (mvT hZ w2) (mvT hZ w4) hy (backOf (Q := fun v h L => Qc v h ∧ Fr n0 L) (W := W) (M []) hZ w4 w3 hf hl) (g := mkF m pc L (argsL.reverse ++ .ref a :: rest)) rfl (by rw [hml]; exact hL) (Steps.refl _) (a := a) (argsL := argsL) (rest := rest) (lenOf hpd hlen) rfl (by show 2 * 0 + _ ≤ _; omega) (hb hby hd) (fun _ _ => ⟨rfl, eT, hc, hsl⟩)
  dsimp only [Pt.U, Pt.locs, Pt.cells, Pt.slots] at X' l' y' z' st hQ
  subst l' y' z'
  obtain ⟨s₂, o, h1, h2⟩ := hr v T'.heap hQ.1 T' _ X' rfl (Fr.app N hQ.2)
  exact ⟨s₂, o, st.trans h1, h2⟩
theorem Cx.callv (K : Cx l R Z n0 Q own nm bytes maxL ret m G) {y z : MethodName} {b' : ByteArray} {ml' : Nat} {rt' r : Option FieldType} {rm : Room} {Qc : Option Value → Heap → Prop} {index : Nat} {argsL rest : List Value} {W : Nat} {ps : List FieldType} {C : String} {a : Addr} (hd : decode bytes pc = .ok (.invokevirtual index, 3)) (hp : pc + 3 = pc') (M : MeetsW l Z n0 z b' ml' rt' rm (Value.ref a :: argsL).toArray h Qc) (E : Exa Z h a C) (w1 : (Cond.methodLink own index y).before a0 Z = true) (w5 : (Cond.declares y).before a0 Z = true) (nf : ∀ s : State, Z.Warmed39 s.vm → NotFace s y) (w6 : (Cond.selects C y z).before a0 Z = true) (w2 : (Cond.instanceMethod z).before a0 Z = true) (w3 : (Cond.initialized z.cls).before a0 Z = true) (w4 : (Cond.code z b' ml' rt').before a0 Z = true) (hy : y.cls ≠ "java/lang/invoke/MethodHandle" ∧ y.cls ≠ "java/lang/invoke/VarHandle") (hpd : parseMethodDescriptor y.desc = some ⟨ps, r⟩) (hlen : argsL.length = ps.length) (hL : L.size = maxL) (hW : (rest.map fun v => v.category).sum ≤ W) (hf : rm.frames + 1 ≤ R.frames) (hl : W + (ml' + 11) + rm.locals ≤ R.locals) (hc : kc + rm.cells ≤ R.cells) (hsl : ks + rm.slots ≤ R.slots) (hr : ∀ v h', Qc v h' → G h' (kc + rm.cells) (ks + rm.slots) (mkF m pc' L (v.toList ++ rest))) : G h kc ks (mkF m pc L (argsL.reverse ++ .ref a :: rest)) := by
  obtain ⟨p, e, s, args, below, meth, c, rfl, hx, hby, hml, hown, hZ, hret, hlk, hnm⟩ := K
  subst hp
  intro T locs X eT N
  obtain ⟨cq, kq, qa, qb, qc⟩ := isOf hZ eT E
  obtain ⟨v, _, ⟨T', Lo, ko, no⟩, -, X', ⟨Lc, hQ, l', y', z'⟩, st⟩ := X.virtualBack hx (y := y) (z := z) hown (mvT hZ w1) (mvT hZ w5) (nf s hZ) (mvT hZ w6) (mvT hZ w2) hy (backOf (Q := fun v h L => Qc v h ∧ Fr n0 L) (W := W) (M []) hZ w4 w3 hf hl) qa qc (g := mkF m pc L (argsL.reverse ++ .ref a :: rest)) rfl (by rw [hml]; exact hL) (Steps.refl _) (argsL := argsL) (rest := rest) (lenOf hpd hlen) rfl (by show 2 * 0 + _ ≤ _; omega) (hb hby hd) (fun _ _ => ⟨rfl, eT, hc, hsl⟩)
  dsimp only [Pt.U, Pt.locs, Pt.cells, Pt.slots] at X' l' y' z' st hQ
  subst l' y' z'
  obtain ⟨s₂, o, h1, h2⟩ := hr v T'.heap hQ.1 T' _ X' rfl (Fr.app N hQ.2)
  exact ⟨s₂, o, st.trans h1, h2⟩
theorem nf_sel {y z : MethodName} {C : String} (w : (Cond.selects C y z).before a0 Z = true) (hyz : y = z) : ∀ s : State, Z.Warmed39 s.vm → NotFace s y := fun s hZ => by subst hyz; exact notFace_of_selects (args := #[]) (mvT hZ w)
theorem Cx.callp (K : Cx l R Z n0 Q own nm bytes maxL ret m G) {y : MethodName} {b' : ByteArray} {ml' : Nat} {rt' r : Option FieldType} {rm : Room} {Qc : Option Value → Heap → Prop} {index : Nat} {argsL rest : List Value} {W : Nat} {ps : List FieldType} {C : String} {a : Addr} (hd : decode bytes pc = .ok (.invokevirtual index, 3)) (hp : pc + 3 = pc') (M : MeetsW l Z n0 y b' ml' rt' rm (Value.ref a :: argsL).toArray h Qc) (E : Exa Z h a C) (w1 : (Cond.methodLink own index y).before a0 Z = true) (w2 : (Cond.instanceMethod y).before a0 Z = true) {kk : Nat} (wi : (Cond.instantiable y.cls kk).before a0 Z = true) (w7 : (Cond.privateMethod y).before a0 Z = true) (w3 : (Cond.initialized y.cls).before a0 Z = true) (w4 : (Cond.code y b' ml' rt').before a0 Z = true) (hy : y.cls ≠ "java/lang/invoke/MethodHandle" ∧ y.cls ≠ "java/lang/invoke/VarHandle") (hpd : parseMethodDescriptor y.desc = some ⟨ps, r⟩) (hlen : argsL.length = ps.length) (hL : L.size = maxL) (hW : (rest.map fun v => v.category).sum ≤ W) (hf : rm.frames + 1 ≤ R.frames) (hl : W + (ml' + 11) + rm.locals ≤ R.locals) (hc : kc + rm.cells ≤ R.cells) (hsl : ks + rm.slots ≤ R.slots) (hr : ∀ v h', Qc v h' → G h' (kc + rm.cells) (ks + rm.slots) (mkF m pc' L (v.toList ++ rest))) : G h kc ks (mkF m pc L (argsL.reverse ++ .ref a :: rest)) := by
  obtain ⟨p, e, s, args, below, meth, c, rfl, hx, hby, hml, hown, hZ, hret, hlk, hnm⟩ := K
  subst hp
  intro T locs X eT N
  obtain ⟨cq, q1, q2⟩ := E.cell
  have hpriv : s.PrivateAt y := Cond.privateMethod_at (mvP hZ w7 (args := #[]))
  obtain ⟨c0, k0, i1, i2, i3, i4, -⟩ := Cond.instantiable_spec (show (Cond.instantiable y.cls kk).before args s = true from mvT hZ wi)
  have w6 : (Cond.selects y.cls y y).before args s = true := selects_self_of_private i1 i2 (by simp only [Bool.or_eq_false_iff] at i4; exact i4.1) hpriv (mvT hZ w2) hy
  obtain ⟨v, _, ⟨T', Lo, ko, no⟩, -, X', ⟨Lc, hQ, l', y', z'⟩, st⟩ := X.privateBack hx (y := y) hown (mvT hZ w1) (mvT hZ w2) w6 hpriv (mvT hZ w4) hy (backOf (Q := fun v h L => Qc v h ∧ Fr n0 L) (W := W) (M []) hZ w4 w3 hf hl) (g := mkF m pc L (argsL.reverse ++ .ref a :: rest)) rfl (by rw [hml]; exact hL) (Steps.refl _) (a := a) (by rw [eT]; exact q1) q2 (argsL := argsL) (rest := rest) (lenOf hpd hlen) rfl (by show 2 * 0 + _ ≤ _; omega) (hb hby hd) (fun _ _ => ⟨rfl, eT, hc, hsl⟩)
  dsimp only [Pt.U, Pt.locs, Pt.cells, Pt.slots] at X' l' y' z' st hQ
  subst l' y' z'
  obtain ⟨s₂, o, h1, h2⟩ := hr v T'.heap hQ.1 T' _ X' rfl (Fr.app N hQ.2)
  exact ⟨s₂, o, st.trans h1, h2⟩
theorem Cx.acopy (K : Cx l R Z n0 Q own nm bytes maxL ret m G) {index W i j k : Nat} {a b : Addr} {ty : FieldType} {vs vd : List Value} {sp dp nn : Int32} (dv : Value) (hd : decode bytes pc = .ok (.invokestatic index, 3)) (hp : pc + 3 = pc') (w1 : (Cond.methodLink own index Jvm.Stand.acN).before a0 Z = true) (w2 : (Cond.native Jvm.Stand.acN).before a0 Z = true) (w3 : (Cond.static Jvm.Stand.acN).before a0 Z = true) (w4 : (Cond.initialized "java/lang/System").before a0 Z = true)
    (A : Ary Z h a ty vs) (B : Ary Z h b ty vd) (hpr : refKind ty = false) (hfa : ∀ v ∈ vs, fits ty v = true) (hfb : ∀ v ∈ vd, fits ty v = true) (hdv : fits ty dv = true) (hi : sp.toInt = (i : Nat)) (hj : dp.toInt = (j : Nat)) (hk : nn.toInt = (k : Nat)) (h4 : i + k ≤ vs.length) (h5 : j + k ≤ vd.length) (gb : n0 ≤ b)
    (hL : L.size = maxL) (hf : 1 ≤ R.frames) (hW : (S.map fun v => v.category).sum ≤ W) (hlo : W + (nativeFrameWords "java/lang/System" "arraycopy" 5 + 11) ≤ R.locals)
    (hr : ∀ h', Keep h h' [b] → Ary Z h' b ty (vd.take j ++ ((List.range k).map fun t => vs.getD (i + t) dv) ++ vd.drop (j + k)) → G h' kc ks (mkF m pc' L S)) : G h kc ks (mkF m pc L (.int nn :: .int dp :: .ref b :: .int sp :: .ref a :: S)) := by
  obtain ⟨p, e, s, args, below, meth, c, rfl, hx, hby, hml, hown, hZ, hret, hlk, hnm⟩ := K
  subst hp
  intro T locs X eT N
  obtain ⟨ka, za, ea, VA⟩ := A.toArv hfa hdv
  obtain ⟨kb, zb, eb, VB⟩ := B.toArv hfb hdv
  have neg : ∀ {x : Int32} {n : Nat}, x.toInt = (n : Nat) → ¬ x < 0 := fun {x n} q => by rw [Int32.lt_iff_toInt_lt, q, show (0 : Int32).toInt = 0 from rfl]; omega
  obtain ⟨T', h', Lc, X', e', N', Kp, V, st⟩ := RoadKit.cpA X hx hZ hown w1 w2 w3 w4 eT VA VB (Or.inl ⟨rfl, hpr⟩) (neg hi) (neg hj) (neg hk) (by rw [clamp_of hi, clamp_of hk, clamp_of ea]; exact h4) (by rw [clamp_of hj, clamp_of hk, clamp_of eb]; exact h5) rfl (by rw [clamp_of hj, clamp_of hk]; exact h5) N gb (g := mkF m pc L (.int nn :: .int dp :: .ref b :: .int sp :: .ref a :: S)) rfl (by rw [hml]; exact hL) rfl (hb hby hd) hf (W := W) (by show 2 * 0 + _ ≤ _; omega) hlo
  rw [clamp_of hi, clamp_of hj, clamp_of hk] at V
  obtain ⟨s₂, o, h1, h2⟩ := hr h' Kp (Arv.toAry V (by rw [eb]; simp; omega)) T' _ X' e' N'
  exact ⟨s₂, o, st _ h1, h2⟩
theorem Cx.clone (K : Cx l R Z n0 Q own nm bytes maxL ret m G) {index W cap : Nat} {a : Addr} {ad : String} {ty : FieldType} {vs : List Value} (dv : Value) (hd : decode bytes pc = .ok (.invokevirtual index, 3)) (hp : pc + 3 = pc')
    (w1 : (Cond.methodLink own index ⟨ad, "clone", "()Ljava/lang/Object;"⟩).before a0 Z = true) (w2 : (Cond.sameMethod ad "java/lang/Object" "clone" "()Ljava/lang/Object;").before a0 Z = true) (w3 : (Cond.native ⟨"java/lang/Object", "clone", "()Ljava/lang/Object;"⟩).before a0 Z = true)
    (w4 : (Cond.instanceMethod ⟨"java/lang/Object", "clone", "()Ljava/lang/Object;"⟩).before a0 Z = true) (w5 : (Cond.selects ad ⟨ad, "clone", "()Ljava/lang/Object;"⟩ ⟨"java/lang/Object", "clone", "()Ljava/lang/Object;"⟩).before a0 Z = true) (w6 : (Cond.castable ad "java/lang/Cloneable").before a0 Z = true)
    (A : Ary Z h a ty vs) (E : Exa Z h a ad) (hfv : ∀ v ∈ vs, fits ty v = true) (hdv : fits ty dv = true) (hL : L.size = maxL) (hf : 1 ≤ R.frames) (hW : (S.map fun v => v.category).sum ≤ W) (hl : W + 14 ≤ R.locals) (hcap : vs.length ≤ cap) (hc : kc + 1 ≤ R.cells) (hsl : ks + cap ≤ R.slots)
    (hr : ∀ h' b, b = h.size → Ext h h' → Ary Z h' b ty vs → Exa Z h' b ad → G h' (kc + 1) (ks + cap) (mkF m pc' L (.ref b :: S))) : G h kc ks (mkF m pc L (.ref a :: S)) := by
  obtain ⟨p, e, s, args, below, meth, c, rfl, hx, hby, hml, hown, hZ, hret, hlk, hnm⟩ := K
  subst hp
  intro T locs X eT N
  obtain ⟨ka, za, ea, VA⟩ := A.toArv hfv hdv
  obtain ⟨T', h', X', e', Ex', V, EX, st⟩ := RoadKit.cloneH X hx hZ hown w1 w2 w3 w4 w5 w6 eT VA.arh E (g := mkF m pc L (.ref a :: S)) rfl (by rw [hml]; exact hL) rfl (hb hby hd) hf (W := W) (cap := cap) (by show 2 * 0 + _ ≤ _; omega) hl (by rw [clamp_of ea]; exact hcap) hc hsl
  obtain ⟨s₂, o, h1, h2⟩ := hr h' _ rfl Ex' (Arv.toAry (show Arv Z h' h.size ka ty za vs dv from V) ea) EX T' _ X' e' N
  exact ⟨s₂, o, st _ h1, h2⟩
theorem Cx.ccast (K : Cx l R Z n0 Q own nm bytes maxL ret m G) {index : Nat} {Kc : String} {a : Addr} (hd : decode bytes pc = .ok (.checkcast index, 3)) (hp : pc + 3 = pc') (w : (Cond.classLink own index Kc).before a0 Z = true) (F : Ins Z h a Kc true) (hr : G h kc ks (mkF m pc' L (.ref a :: S))) : G h kc ks (mkF m pc L (.ref a :: S)) := by
  subst hp
  exact K.stepX (h' := h) (fun p e s args below meth c T locs X eT hx hb0 hown hZ => RoadKit.castY X hx hZ hown w eT F (g := mkF m pc L (.ref a :: S)) rfl rfl (hb hb0 hd)) hr
theorem Cx.reti (K : Cx l R Z n0 Q own nm bytes maxL (some .int) m G) {z : Int32} (hd : decode bytes pc = .ok (.ireturn, 1)) (hc : kc ≤ R.cells) (hs : ks ≤ R.slots) (hQ : Q (some (.int z)) h) : G h kc ks (mkF m pc L (.int z :: S)) := by
  obtain ⟨p, e, s, args, below, meth, c, rfl, hx, hby, hml, hown, hZ, hret, hlk, hnm⟩ := K
  intro T locs X eT N
  obtain ⟨fs, hr, hrun, hended, hW, hsame⟩ := X.leave (v := some (.int z)) (fun h => by rw [hret] at h; cases h) hlk
  refine ⟨_, _, ?_, hrun, hended, _, _, rfl, ⟨?_, N⟩, ⟨_, rfl⟩, hW, hsame.mono hc hs⟩
  · exact retOut X hx hret rfl (Or.inl ⟨rfl, Or.inl rfl, _, rfl⟩) (hb hby hd) hr
  · show Q _ T.heap
    rw [eT]; exact hQ
theorem Cx.retz (K : Cx l R Z n0 Q own nm bytes maxL (some .boolean) m G) {z : Int32} (hd : decode bytes pc = .ok (.ireturn, 1)) (hz : z = 0 ∨ z = 1) (hc : kc ≤ R.cells) (hs : ks ≤ R.slots) (hQ : Q (some (.int z)) h) : G h kc ks (mkF m pc L (.int z :: S)) := by
  obtain ⟨p, e, s, args, below, meth, c, rfl, hx, hby, hml, hown, hZ, hret, hlk, hnm⟩ := K
  intro T locs X eT N
  obtain ⟨fs, hr, hrun, hended, hW, hsame⟩ := X.leave (v := some (.int z)) (fun h => by rw [hret] at h; cases h) hlk
  refine ⟨_, _, ?_, hrun, hended, _, _, rfl, ⟨?_, N⟩, ⟨_, rfl⟩, hW, hsame.mono hc hs⟩
  · exact retOut X hx hret (by rcases hz with rfl | rfl <;> rfl) (Or.inl ⟨rfl, Or.inr (Or.inl rfl), _, rfl⟩) (hb hby hd) hr
  · show Q _ T.heap
    rw [eT]; exact hQ
theorem Cx.retl (K : Cx l R Z n0 Q own nm bytes maxL (some .long) m G) {z : Int64} (hd : decode bytes pc = .ok (.lreturn, 1)) (hc : kc ≤ R.cells) (hs : ks ≤ R.slots) (hQ : Q (some (.long z)) h) : G h kc ks (mkF m pc L (.long z :: S)) := by
  obtain ⟨p, e, s, args, below, meth, c, rfl, hx, hby, hml, hown, hZ, hret, hlk, hnm⟩ := K
  intro T locs X eT N
  obtain ⟨fs, hr, hrun, hended, hW, hsame⟩ := X.leave (v := some (.long z)) (fun h => by rw [hret] at h; cases h) hlk
  refine ⟨_, _, ?_, hrun, hended, _, _, rfl, ⟨?_, N⟩, ⟨_, rfl⟩, hW, hsame.mono hc hs⟩
  · exact retOut X hx hret rfl (Or.inr (Or.inl ⟨rfl, rfl, _, rfl⟩)) (hb hby hd) hr
  · show Q _ T.heap
    rw [eT]; exact hQ
theorem Cx.reta {t : FieldType} (K : Cx l R Z n0 Q own nm bytes maxL (some t) m G) {v : Value} (hd : decode bytes pc = .ok (.areturn, 1)) (ht : t.isReference = true) (hn : narrow t v = v) (hv : v.isRef = true) (hc : kc ≤ R.cells) (hs : ks ≤ R.slots) (hQ : Q (some v) h) : G h kc ks (mkF m pc L (v :: S)) := by
  obtain ⟨p, e, s, args, below, meth, c, rfl, hx, hby, hml, hown, hZ, hret, hlk, hnm⟩ := K
  intro T locs X eT N
  obtain ⟨fs, hr, hrun, hended, hW, hsame⟩ := X.leave (v := some v) (fun h => by rw [hret] at h; cases h) hlk
  refine ⟨_, _, ?_, hrun, hended, _, _, rfl, ⟨?_, N⟩, ⟨_, rfl⟩, hW, hsame.mono hc hs⟩
  · exact retOut X hx hret hn (Or.inr (Or.inr (Or.inr (Or.inr ⟨rfl, ht, hv⟩)))) (hb hby hd) hr
  · show Q _ T.heap
    rw [eT]; exact hQ
theorem Cx.retd (K : Cx l R Z n0 Q own nm bytes maxL (some .double) m G) {z : UInt64} (hd : decode bytes pc = .ok (.dreturn, 1)) (hc : kc ≤ R.cells) (hs : ks ≤ R.slots) (hQ : Q (some (.double z)) h) : G h kc ks (mkF m pc L (.double z :: S)) := by
  obtain ⟨p, e, s, args, below, meth, c, rfl, hx, hby, hml, hown, hZ, hret, hlk, hnm⟩ := K
  intro T locs X eT N
  obtain ⟨fs, hr, hrun, hended, hW, hsame⟩ := X.leave (v := some (.double z)) (fun h => by rw [hret] at h; cases h) hlk
  refine ⟨_, _, ?_, hrun, hended, _, _, rfl, ⟨?_, N⟩, ⟨_, rfl⟩, hW, hsame.mono hc hs⟩
  · exact retOut X hx hret rfl (Or.inr (Or.inr (Or.inl ⟨rfl, rfl, _, rfl⟩))) (hb hby hd) hr
  · show Q _ T.heap
    rw [eT]; exact hQ
theorem Cx.ret0 (K : Cx l R Z n0 Q own nm bytes maxL none m G) (hd : decode bytes pc = .ok (.return_, 1)) (hc : kc ≤ R.cells) (hs : ks ≤ R.slots) (hQ : Q none h) : G h kc ks (mkF m pc L []) := by
  obtain ⟨p, e, s, args, below, meth, c, rfl, hx, hby, hml, hown, hZ, hret, hlk, hnm⟩ := K
  intro T locs X eT N
  obtain ⟨fs, hr, hrun, hended, hW, hsame⟩ := X.leave (v := none) (fun h => rfl) hlk
  refine ⟨_, _, ?_, hrun, hended, _, _, rfl, ⟨?_, N⟩, ⟨_, rfl⟩, hW, hsame.mono hc hs⟩
  · exact X.returnOut hx hret (hb hby hd) hr
  · show Q _ T.heap
    rw [eT]; exact hQ
end Steps
end Jvm.Wk
namespace Jvm.Pilot.@@N@@
open Jvm Jvm.ClassFile Sem Op Lib Jvm.Free Jvm.Stand Jvm.LawKit Jvm.RoadKit Jvm.Wk Bundle Jvm.Pilot.@@N@@.Jvm.D
theorem d1_0 : decode prog_25_method_1_code 0 = .ok (.aload_n 0, 1) := by decide +kernel
theorem d1_1 : decode prog_25_method_1_code 1 = .ok (.invokespecial 1, 3) := by decide +kernel
theorem d1_4 : decode prog_25_method_1_code 4 = .ok (.aload_n 0, 1) := by decide +kernel
theorem d1_5 : decode prog_25_method_1_code 5 = .ok (.iconst 4, 1) := by decide +kernel
theorem d1_6 : decode prog_25_method_1_code 6 = .ok (.newarray .int, 2) := by decide +kernel
theorem d1_8 : decode prog_25_method_1_code 8 = .ok (.putfield 7, 3) := by decide +kernel
theorem d1_11 : decode prog_25_method_1_code 11 = .ok (.return_, 1) := by decide +kernel
theorem pn_com_example_index_rank_fuse_indexrankfuse_IntList : plainName "com/example/index_rank_fuse/indexrankfuse/IntList" = true := by first | (simp [plainName, overriddenIn]; done) | decide +kernel
set_option maxRecDepth 65536 in
set_option maxHeartbeats 40000000 in
theorem c_new (l : Launch) (Z : State) (a0 : Array Value) (hw : ∀ d ∈ tables_1, d.before a0 Z = true) (n0 : Nat) (h : Heap) (a : Addr) (P1 : Exa Z h a "com/example/index_rank_fuse/indexrankfuse/IntList") (Z0 : n0 ≤ h.size) (P3 : Fld Z h a "com/example/index_rank_fuse/indexrankfuse/IntList" "values" "[I" .null) (P4 : Fld Z h a "com/example/index_rank_fuse/indexrankfuse/IntList" "size" "I" (.int (0 : Int32))) (P5 : n0 ≤ a) : MeetsW l Z n0 (⟨"com/example/index_rank_fuse/indexrankfuse/IntList", "<init>", "()V"⟩ : MethodName) prog_25_method_1_code 1 none ({ frames := 1, cells := 1, slots := 4, locals := 12 } : Room) #[(.ref a)] h (fun v h' => ∃ (b : Addr), v = none ∧ Keep h h' [a] ∧ h.size ≤ b ∧ n0 ≤ b ∧ Fld Z h' a "com/example/index_rank_fuse/indexrankfuse/IntList" "values" "[I" (.ref b) ∧ Fld Z h' a "com/example/index_rank_fuse/indexrankfuse/IntList" "size" "I" (.int (0 : Int32)) ∧ Ary Z h' b .int [(.int (0 : Int32)), (.int (0 : Int32)), (.int (0 : Int32)), (.int (0 : Int32))] ∧ b ≠ a) := by
  refine MeetsW.intro (plainFor_of_name pn_com_example_index_rank_fuse_indexrankfuse_IntList) (L0 := #[.val (.ref a)]) (fun m => by first | (simp [entryFrame, mkF, argsToLocals, Value.category]; done) | rfl) ?_
  intro m G K0
  have K : Cx l ({ frames := 1, cells := 1, slots := 4, locals := 12 } : Room) Z n0 _ "com/example/index_rank_fuse/indexrankfuse/IntList" "<init>" prog_25_method_1_code 1 none m G := K0
  refine K.aloadN d1_0 (pc' := 1) rfl rfl rfl ?_
  refine K.init0 d1_1 (pc' := 4) rfl (hw _ (List.mem_of_getElem? (i := 7) rfl)) (hw _ (List.mem_of_getElem? (i := 8) rfl)) (hw _ (List.mem_of_getElem? (i := 9) rfl)) rfl (by decide) (W := 0) (by simp [Value.category]) (by decide) ?_
  refine K.aloadN d1_4 (pc' := 5) rfl rfl rfl ?_
  refine K.iconst d1_5 (pc' := 6) rfl (z := 4) rfl ?_
  refine K.newa d1_6 (pc' := 8) rfl (hw _ (List.mem_of_getElem? (i := 10) rfl)) (k := 4) (cap := 4) rfl (by decide) (by decide) (by decide) (by decide) (ad := "[I") (by decide) (fun h_2 a_1 g_a_1 E_3 A_4 x_a_1 => ?_)
  have ne_a_a_1 : a ≠ a_1 := Nat.ne_of_lt (g_a_1 ▸ P1.lt)
  have ge_a_1 : n0 ≤ a_1 := g_a_1 ▸ Z0
  have sb_a_1 : h.size ≤ a_1 := g_a_1 ▸ (Keep.refl h [a]).1
  have f_5 : Exa Z h_2 a "com/example/index_rank_fuse/indexrankfuse/IntList" := P1.ext E_3
  have f_6 : Fld Z h_2 a "com/example/index_rank_fuse/indexrankfuse/IntList" "values" "[I" .null := P3.ext E_3
  have f_7 : Fld Z h_2 a "com/example/index_rank_fuse/indexrankfuse/IntList" "size" "I" (.int (0 : Int32)) := P4.ext E_3
  have kp_8 : Keep h h_2 [a] := (Keep.refl h [a]).ext E_3
  have sz_9 : n0 ≤ h_2.size := Nat.le_trans Z0 E_3.1
  have A_10 : Ary Z h_2 a_1 .int [(.int (0 : Int32)), (.int (0 : Int32)), (.int (0 : Int32)), (.int (0 : Int32))] := A_4
  refine K.putf d1_8 (pc' := 11) rfl (host := "") (Or.inl (hw _ (List.mem_of_getElem? (i := 11) rfl))) Via.refl f_6 f_5 (Or.inl (hw _ (List.mem_of_getElem? (i := 12) rfl))) (hw _ (List.mem_of_getElem? (i := 2) rfl)) (ty := (.array .int)) (by decide) rfl rfl P5 (fun h_11 W_12 => ?_)
  have f_13 : Exa Z h_11 a "com/example/index_rank_fuse/indexrankfuse/IntList" := f_5.wr W_12
  have f_14 : Fld Z h_11 a "com/example/index_rank_fuse/indexrankfuse/IntList" "values" "[I" (.ref a_1) := f_6.same W_12
  have f_15 : Fld Z h_11 a "com/example/index_rank_fuse/indexrankfuse/IntList" "size" "I" (.int (0 : Int32)) := f_7.other W_12 (Or.inr (slot_ne (Or.inl (hw _ (List.mem_of_getElem? (i := 19) rfl))) (Or.inl (hw _ (List.mem_of_getElem? (i := 12) rfl))) (by decide) (t := .int) (t' := (.array .int)) (by decide) (by decide)))
  have f_16 : Ary Z h_11 a_1 .int [(.int (0 : Int32)), (.int (0 : Int32)), (.int (0 : Int32)), (.int (0 : Int32))] := A_10.other W_12 (Ne.symm ne_a_a_1)
  have kp_17 : Keep h h_11 [a] := kp_8.wr W_12 (Or.inl (by simp))
  have sz_18 : n0 ≤ h_11.size := Nat.le_trans sz_9 (Keep.of_wr W_12).1
  exact K.ret0 d1_11 (by decide) (by decide) ⟨a_1, rfl, kp_17, sb_a_1, ge_a_1, f_14, f_15, f_16, (Ne.symm ne_a_a_1)⟩
theorem d9_0 : decode jdk_29_method_69_code 0 = .ok (.iload_n 0, 1) := by decide +kernel
theorem d9_1 : decode jdk_29_method_69_code 1 = .ok (.iload_n 1, 1) := by decide +kernel
theorem d9_2 : decode jdk_29_method_69_code 2 = .ok (.if_icmp .gt 7, 3) := by decide +kernel
theorem d9_5 : decode jdk_29_method_69_code 5 = .ok (.iload_n 0, 1) := by decide +kernel
theorem d9_6 : decode jdk_29_method_69_code 6 = .ok (.goto 4, 3) := by decide +kernel
theorem d9_10 : decode jdk_29_method_69_code 10 = .ok (.ireturn, 1) := by decide +kernel
set_option maxRecDepth 65536 in
set_option maxHeartbeats 40000000 in
theorem c_min (l : Launch) (Z : State) (a0 : Array Value) (hw : ∀ d ∈ tables_1, d.before a0 Z = true) (n0 : Nat) (h : Heap) (p : Int32) (q : Int32) (hpq : p.toInt ≤ q.toInt) : MeetsW l Z n0 (⟨"java/lang/Math", "min", "(II)I"⟩ : MethodName) jdk_29_method_69_code 2 (some .int) ({ frames := 0, cells := 0, slots := 0, locals := 0 } : Room) #[(.int p), (.int q)] h (fun v h' => v = some (.int p) ∧ h = h') := by
  refine MeetsW.intro (by decide +kernel) (L0 := #[.val (.int p), .val (.int q)]) (fun m => by first | (simp [entryFrame, mkF, argsToLocals, Value.category]; done) | rfl) ?_
  intro m G K0
  have K : Cx l ({ frames := 0, cells := 0, slots := 0, locals := 0 } : Room) Z n0 _ "java/lang/Math" "min" jdk_29_method_69_code 2 (some .int) m G := K0
  refine K.iloadN d9_0 (pc' := 1) rfl rfl ?_
  refine K.iloadN d9_1 (pc' := 2) rfl rfl ?_
  refine K.icmp_gt d9_2 (pc1 := 5) rfl (by decide) (pc2 := 9) (by decide) (a := p.toInt) (b := q.toInt) rfl rfl (fun c2 => ?_) (fun c2 => ?_)
  · exfalso; omega
  · refine K.iloadN d9_5 (pc' := 6) rfl rfl ?_
    refine K.goto d9_6 (by decide) (pc' := 10) (by decide) ?_
    exact K.reti d9_10 (by decide) (by decide) ⟨rfl, rfl⟩
theorem d8_0 : decode jdk_65_method_123_code 0 = .ok (.iload_n 1, 1) := by decide +kernel
theorem d8_1 : decode jdk_65_method_123_code 1 = .ok (.aload_n 0, 1) := by decide +kernel
theorem d8_2 : decode jdk_65_method_123_code 2 = .ok (.arraylength, 1) := by decide +kernel
theorem d8_3 : decode jdk_65_method_123_code 3 = .ok (.if_icmp .ne 11, 3) := by decide +kernel
theorem d8_14 : decode jdk_65_method_123_code 14 = .ok (.iload_n 1, 1) := by decide +kernel
theorem d8_15 : decode jdk_65_method_123_code 15 = .ok (.newarray .int, 2) := by decide +kernel
theorem d8_17 : decode jdk_65_method_123_code 17 = .ok (.astore_n 2, 1) := by decide +kernel
theorem d8_18 : decode jdk_65_method_123_code 18 = .ok (.aload_n 0, 1) := by decide +kernel
theorem d8_19 : decode jdk_65_method_123_code 19 = .ok (.iconst 0, 1) := by decide +kernel
theorem d8_20 : decode jdk_65_method_123_code 20 = .ok (.aload_n 2, 1) := by decide +kernel
theorem d8_21 : decode jdk_65_method_123_code 21 = .ok (.iconst 0, 1) := by decide +kernel
theorem d8_22 : decode jdk_65_method_123_code 22 = .ok (.aload_n 0, 1) := by decide +kernel
theorem d8_23 : decode jdk_65_method_123_code 23 = .ok (.arraylength, 1) := by decide +kernel
theorem d8_24 : decode jdk_65_method_123_code 24 = .ok (.iload_n 1, 1) := by decide +kernel
theorem d8_25 : decode jdk_65_method_123_code 25 = .ok (.invokestatic 304, 3) := by decide +kernel
theorem pd_0 : parseMethodDescriptor "(II)I" = some ⟨[.int, .int], some .int⟩ := by decide +kernel
theorem d8_28 : decode jdk_65_method_123_code 28 = .ok (.invokestatic 150, 3) := by decide +kernel
theorem d8_31 : decode jdk_65_method_123_code 31 = .ok (.aload_n 2, 1) := by decide +kernel
theorem d8_32 : decode jdk_65_method_123_code 32 = .ok (.areturn, 1) := by decide +kernel
theorem pn_java_util_Arrays : plainName "java/util/Arrays" = true := by first | (simp [plainName, overriddenIn]; done) | decide +kernel
set_option maxRecDepth 65536 in
set_option maxHeartbeats 40000000 in
theorem c_copy (l : Launch) (Z : State) (a0 : Array Value) (hw : ∀ d ∈ tables_1, d.before a0 Z = true) (n0 : Nat) (h : Heap) (a : Addr) (x0 : Int32) (x1 : Int32) (x2 : Int32) (x3 : Int32) (P1 : Ary Z h a .int [(.int x0), (.int x1), (.int x2), (.int x3)]) (Z0 : n0 ≤ h.size) : MeetsW l Z n0 (⟨"java/util/Arrays", "copyOf", "([II)[I"⟩ : MethodName) jdk_65_method_123_code 3 (some (.array .int)) ({ frames := 1, cells := 1, slots := 8, locals := 56 } : Room) #[(.ref a), (.int (8 : Int32))] h (fun v h' => ∃ o : Addr, v = some (.ref o) ∧ Keep h h' [] ∧ h.size ≤ o ∧ n0 ≤ o ∧ Ary Z h' o .int [(.int x0), (.int x1), (.int x2), (.int x3), (.int (0 : Int32)), (.int (0 : Int32)), (.int (0 : Int32)), (.int (0 : Int32))]) := by
  refine MeetsW.intro (plainFor_of_name pn_java_util_Arrays) (L0 := #[.val (.ref a), .val (.int (8 : Int32)), .unset]) (fun m => by first | (simp [entryFrame, mkF, argsToLocals, Value.category]; done) | rfl) ?_
  intro m G K0
  have K : Cx l ({ frames := 1, cells := 1, slots := 8, locals := 56 } : Room) Z n0 _ "java/util/Arrays" "copyOf" jdk_65_method_123_code 3 (some (.array .int)) m G := K0
  refine K.iloadN d8_0 (pc' := 1) rfl rfl ?_
  refine K.aloadN d8_1 (pc' := 2) rfl rfl rfl ?_
  refine K.alen d8_2 (pc' := 3) rfl P1 (fun z2 e_z2 => ?_)
  have t_z2 : z2.toInt = 4 := e_z2
  refine K.icmp_ne d8_3 (pc1 := 6) rfl (by decide) (pc2 := 14) (by decide) (a := 8) (b := z2.toInt) rfl rfl (fun c3 => ?_) (fun c3 => ?_)
  · refine K.iloadN d8_14 (pc' := 15) rfl rfl ?_
    refine K.newa d8_15 (pc' := 17) rfl (hw _ (List.mem_of_getElem? (i := 10) rfl)) (k := 8) (cap := 8) rfl (by decide) (by decide) (by decide) (by decide) (ad := "[I") (by decide) (fun h_2 a_1 g_a_1 E_3 A_4 x_a_1 => ?_)
    have ne_a_a_1 : a ≠ a_1 := Nat.ne_of_lt (g_a_1 ▸ P1.lt)
    have ge_a_1 : n0 ≤ a_1 := g_a_1 ▸ Z0
    have sb_a_1 : h.size ≤ a_1 := g_a_1 ▸ (Keep.refl h []).1
    have f_5 : Ary Z h_2 a .int [(.int x0), (.int x1), (.int x2), (.int x3)] := P1.ext E_3
    have kp_6 : Keep h h_2 [] := (Keep.refl h []).ext E_3
    have sz_7 : n0 ≤ h_2.size := Nat.le_trans Z0 E_3.1
    have A_8 : Ary Z h_2 a_1 .int [(.int (0 : Int32)), (.int (0 : Int32)), (.int (0 : Int32)), (.int (0 : Int32)), (.int (0 : Int32)), (.int (0 : Int32)), (.int (0 : Int32)), (.int (0 : Int32))] := A_4
    refine K.astoreN d8_17 (pc' := 18) rfl rfl (L' := #[.val (.ref a), .val (.int (8 : Int32)), .val (.ref a_1)]) rfl ?_
    refine K.aloadN d8_18 (pc' := 19) rfl rfl rfl ?_
    refine K.iconst d8_19 (pc' := 20) rfl (z := 0) rfl ?_
    refine K.aloadN d8_20 (pc' := 21) rfl rfl rfl ?_
    refine K.iconst d8_21 (pc' := 22) rfl (z := 0) rfl ?_
    refine K.aloadN d8_22 (pc' := 23) rfl rfl rfl ?_
    refine K.alen d8_23 (pc' := 24) rfl f_5 (fun z23 e_z23 => ?_)
    have t_z23 : z23.toInt = 4 := e_z23
    refine K.iloadN d8_24 (pc' := 25) rfl rfl ?_
    refine K.calls (argsL := [(.int z23), (.int (8 : Int32))]) (rest := [(.int (0 : Int32)), (.ref a_1), (.int (0 : Int32)), (.ref a)]) d8_25 (pc' := 28) rfl (c_min l Z a0 hw n0 h_2 (p := z23) (q := (8 : Int32)) (by rw [t_z23]; decide)) (hw _ (List.mem_of_getElem? (i := 41) rfl)) (hw _ (List.mem_of_getElem? (i := 42) rfl)) (hw _ (List.mem_of_getElem? (i := 43) rfl)) (hw _ (List.mem_of_getElem? (i := 44) rfl)) (by decide) pd_0 rfl rfl (W := 4) (by simp [Value.category]) (by decide) (by decide) (by decide) (by decide) (fun v_11 h_9 q_10 => ?_)
    obtain ⟨rfl, rfl⟩ := q_10
    show G h_2 1 8 (mkF m 28 #[.val (.ref a), .val (.int (8 : Int32)), .val (.ref a_1)] [(.int z23), (.int (0 : Int32)), (.ref a_1), (.int (0 : Int32)), (.ref a)])
    refine K.acopy (.int (0 : Int32)) d8_28 (pc' := 31) rfl (hw _ (List.mem_of_getElem? (i := 45) rfl)) (hw _ (List.mem_of_getElem? (i := 48) rfl)) (hw _ (List.mem_of_getElem? (i := 46) rfl)) (hw _ (List.mem_of_getElem? (i := 47) rfl)) f_5 A_8 rfl (by simp [fits]) (by simp [fits]) rfl (i := 0) rfl (j := 0) rfl (k := 4) t_z23 (by simp) (by simp) ge_a_1 rfl (by decide) (W := 0) (by simp [Value.category]) (by decide) (fun h_13 K_14 A_15 => ?_)
    have f_16 : Ary Z h_13 a .int [(.int x0), (.int x1), (.int x2), (.int x3)] := f_5.keep K_14 (ninS ne_a_a_1 nin0)
    have kp_17 : Keep h h_13 [] := kp_6.trans K_14 (allS (Or.inr sb_a_1) all0)
    have sz_18 : n0 ≤ h_13.size := Nat.le_trans sz_7 K_14.1
    refine K.aloadN d8_31 (pc' := 32) rfl rfl rfl ?_
    exact K.reta d8_32 rfl rfl rfl (by decide) (by decide) ⟨a_1, rfl, kp_17, sb_a_1, ge_a_1, A_15⟩
  · exfalso; omega
theorem d3_0 : decode prog_25_method_2_code 0 = .ok (.aload_n 0, 1) := by decide +kernel
theorem d3_1 : decode prog_25_method_2_code 1 = .ok (.getfield 13, 3) := by decide +kernel
theorem d3_4 : decode prog_25_method_2_code 4 = .ok (.aload_n 0, 1) := by decide +kernel
theorem d3_5 : decode prog_25_method_2_code 5 = .ok (.getfield 7, 3) := by decide +kernel
theorem d3_8 : decode prog_25_method_2_code 8 = .ok (.arraylength, 1) := by decide +kernel
theorem d3_9 : decode prog_25_method_2_code 9 = .ok (.if_icmp .ne 20, 3) := by decide +kernel
theorem d3_29 : decode prog_25_method_2_code 29 = .ok (.aload_n 0, 1) := by decide +kernel
theorem d3_30 : decode prog_25_method_2_code 30 = .ok (.getfield 7, 3) := by decide +kernel
theorem d3_33 : decode prog_25_method_2_code 33 = .ok (.aload_n 0, 1) := by decide +kernel
theorem d3_34 : decode prog_25_method_2_code 34 = .ok (.dup, 1) := by decide +kernel
theorem d3_35 : decode prog_25_method_2_code 35 = .ok (.getfield 13, 3) := by decide +kernel
theorem d3_38 : decode prog_25_method_2_code 38 = .ok (.dup_x1, 1) := by decide +kernel
theorem d3_39 : decode prog_25_method_2_code 39 = .ok (.iconst 1, 1) := by decide +kernel
theorem d3_40 : decode prog_25_method_2_code 40 = .ok (.iadd, 1) := by decide +kernel
theorem d3_41 : decode prog_25_method_2_code 41 = .ok (.putfield 13, 3) := by decide +kernel
theorem d3_44 : decode prog_25_method_2_code 44 = .ok (.iload_n 1, 1) := by decide +kernel
theorem d3_45 : decode prog_25_method_2_code 45 = .ok (.iastore, 1) := by decide +kernel
theorem d3_46 : decode prog_25_method_2_code 46 = .ok (.return_, 1) := by decide +kernel
set_option maxRecDepth 65536 in
set_option maxHeartbeats 40000000 in
theorem c_add0 (l : Launch) (Z : State) (a0 : Array Value) (hw : ∀ d ∈ tables_1, d.before a0 Z = true) (n0 : Nat) (h : Heap) (a : Addr) (v0 : Int32) (b : Addr) (x0 : Int32) (x1 : Int32) (x2 : Int32) (x3 : Int32) (P1 : Exa Z h a "com/example/index_rank_fuse/indexrankfuse/IntList") (P2 : Fld Z h a "com/example/index_rank_fuse/indexrankfuse/IntList" "values" "[I" (.ref b)) (P3 : Fld Z h a "com/example/index_rank_fuse/indexrankfuse/IntList" "size" "I" (.int (0 : Int32))) (P4 : Ary Z h b .int [(.int x0), (.int x1), (.int x2), (.int x3)]) (P5 : b ≠ a) (P6 : n0 ≤ a) (P7 : n0 ≤ b) : MeetsW l Z n0 (⟨"com/example/index_rank_fuse/indexrankfuse/IntList", "add", "(I)V"⟩ : MethodName) prog_25_method_2_code 2 none ({ frames := 0, cells := 0, slots := 0, locals := 0 } : Room) #[(.ref a), (.int v0)] h (fun v h' => v = none ∧ Keep h h' [a, b] ∧ Fld Z h' a "com/example/index_rank_fuse/indexrankfuse/IntList" "values" "[I" (.ref b) ∧ Fld Z h' a "com/example/index_rank_fuse/indexrankfuse/IntList" "size" "I" (.int (1 : Int32)) ∧ Ary Z h' b .int [(.int v0), (.int x1), (.int x2), (.int x3)]) := by
  refine MeetsW.intro (plainFor_of_name pn_com_example_index_rank_fuse_indexrankfuse_IntList) (L0 := #[.val (.ref a), .val (.int v0)]) (fun m => by first | (simp [entryFrame, mkF, argsToLocals, Value.category]; done) | rfl) ?_
  intro m G K0
  have K : Cx l ({ frames := 0, cells := 0, slots := 0, locals := 0 } : Room) Z n0 _ "com/example/index_rank_fuse/indexrankfuse/IntList" "add" prog_25_method_2_code 2 none m G := K0
  refine K.aloadN d3_0 (pc' := 1) rfl rfl rfl ?_
  refine K.getf d3_1 (pc' := 4) rfl (host := "") (Or.inl (hw _ (List.mem_of_getElem? (i := 18) rfl))) Via.refl P3 ?_
  refine K.aloadN d3_4 (pc' := 5) rfl rfl rfl ?_
  refine K.getf d3_5 (pc' := 8) rfl (host := "") (Or.inl (hw _ (List.mem_of_getElem? (i := 11) rfl))) Via.refl P2 ?_
  refine K.alen d3_8 (pc' := 9) rfl P4 (fun z8 e_z8 => ?_)
  have t_z8 : z8.toInt = 4 := e_z8
  refine K.icmp_ne d3_9 (pc1 := 12) rfl (by decide) (pc2 := 29) (by decide) (a := 0) (b := z8.toInt) rfl rfl (fun c9 => ?_) (fun c9 => ?_)
  · refine K.aloadN d3_29 (pc' := 30) rfl rfl rfl ?_
    refine K.getf d3_30 (pc' := 33) rfl (host := "") (Or.inl (hw _ (List.mem_of_getElem? (i := 11) rfl))) Via.refl P2 ?_
    refine K.aloadN d3_33 (pc' := 34) rfl rfl rfl ?_
    refine K.dup d3_34 (pc' := 35) rfl rfl ?_
    refine K.getf d3_35 (pc' := 38) rfl (host := "") (Or.inl (hw _ (List.mem_of_getElem? (i := 18) rfl))) Via.refl P3 ?_
    refine K.dupX1 d3_38 (pc' := 39) rfl rfl rfl ?_
    refine K.iconst d3_39 (pc' := 40) rfl (z := 1) rfl ?_
    refine K.iadd d3_40 (pc' := 41) rfl (z := (1 : Int32)) (by decide) ?_
    refine K.putf d3_41 (pc' := 44) rfl (host := "") (Or.inl (hw _ (List.mem_of_getElem? (i := 18) rfl))) Via.refl P3 P1 (Or.inl (hw _ (List.mem_of_getElem? (i := 19) rfl))) (hw _ (List.mem_of_getElem? (i := 2) rfl)) (ty := .int) (by decide) rfl rfl P6 (fun h_1 W_2 => ?_)
    have f_3 : Exa Z h_1 a "com/example/index_rank_fuse/indexrankfuse/IntList" := P1.wr W_2
    have f_4 : Fld Z h_1 a "com/example/index_rank_fuse/indexrankfuse/IntList" "values" "[I" (.ref b) := P2.other W_2 (Or.inr (slot_ne (Or.inl (hw _ (List.mem_of_getElem? (i := 12) rfl))) (Or.inl (hw _ (List.mem_of_getElem? (i := 19) rfl))) (by decide) (t := (.array .int)) (t' := .int) (by decide) (by decide)))
    have f_5 : Fld Z h_1 a "com/example/index_rank_fuse/indexrankfuse/IntList" "size" "I" (.int (1 : Int32)) := P3.same W_2
    have f_6 : Ary Z h_1 b .int [(.int x0), (.int x1), (.int x2), (.int x3)] := P4.other W_2 P5
    have kp_7 : Keep h h_1 [a, b] := (Keep.refl h [a, b]).wr W_2 (Or.inl (by simp))
    refine K.iloadN d3_44 (pc' := 45) rfl rfl ?_
    refine K.iast d3_45 (pc' := 46) rfl f_6 (i := 0) rfl (show 0 < 4 by decide) P7 (fun h_8 W_9 A_10 => ?_)
    have f_11 : Exa Z h_8 a "com/example/index_rank_fuse/indexrankfuse/IntList" := f_3.wr W_9
    have f_12 : Fld Z h_8 a "com/example/index_rank_fuse/indexrankfuse/IntList" "values" "[I" (.ref b) := f_4.other W_9 (Or.inl (Ne.symm P5))
    have f_13 : Fld Z h_8 a "com/example/index_rank_fuse/indexrankfuse/IntList" "size" "I" (.int (1 : Int32)) := f_5.other W_9 (Or.inl (Ne.symm P5))
    have kp_15 : Keep h h_8 [a, b] := kp_7.wr W_9 (Or.inl (by simp))
    have A_16 : Ary Z h_8 b .int [(.int v0), (.int x1), (.int x2), (.int x3)] := A_10
    exact K.ret0 d3_46 (by decide) (by decide) ⟨rfl, kp_15, f_12, f_13, A_16⟩
  · exfalso; omega
set_option maxRecDepth 65536 in
set_option maxHeartbeats 40000000 in
theorem c_add1 (l : Launch) (Z : State) (a0 : Array Value) (hw : ∀ d ∈ tables_1, d.before a0 Z = true) (n0 : Nat) (h : Heap) (a : Addr) (v0 : Int32) (b : Addr) (x0 : Int32) (x1 : Int32) (x2 : Int32) (x3 : Int32) (P1 : Exa Z h a "com/example/index_rank_fuse/indexrankfuse/IntList") (P2 : Fld Z h a "com/example/index_rank_fuse/indexrankfuse/IntList" "values" "[I" (.ref b)) (P3 : Fld Z h a "com/example/index_rank_fuse/indexrankfuse/IntList" "size" "I" (.int (1 : Int32))) (P4 : Ary Z h b .int [(.int x0), (.int x1), (.int x2), (.int x3)]) (P5 : b ≠ a) (P6 : n0 ≤ a) (P7 : n0 ≤ b) : MeetsW l Z n0 (⟨"com/example/index_rank_fuse/indexrankfuse/IntList", "add", "(I)V"⟩ : MethodName) prog_25_method_2_code 2 none ({ frames := 0, cells := 0, slots := 0, locals := 0 } : Room) #[(.ref a), (.int v0)] h (fun v h' => v = none ∧ Keep h h' [a, b] ∧ Fld Z h' a "com/example/index_rank_fuse/indexrankfuse/IntList" "values" "[I" (.ref b) ∧ Fld Z h' a "com/example/index_rank_fuse/indexrankfuse/IntList" "size" "I" (.int (2 : Int32)) ∧ Ary Z h' b .int [(.int x0), (.int v0), (.int x2), (.int x3)]) := by
  refine MeetsW.intro (plainFor_of_name pn_com_example_index_rank_fuse_indexrankfuse_IntList) (L0 := #[.val (.ref a), .val (.int v0)]) (fun m => by first | (simp [entryFrame, mkF, argsToLocals, Value.category]; done) | rfl) ?_
  intro m G K0
  have K : Cx l ({ frames := 0, cells := 0, slots := 0, locals := 0 } : Room) Z n0 _ "com/example/index_rank_fuse/indexrankfuse/IntList" "add" prog_25_method_2_code 2 none m G := K0
  refine K.aloadN d3_0 (pc' := 1) rfl rfl rfl ?_
  refine K.getf d3_1 (pc' := 4) rfl (host := "") (Or.inl (hw _ (List.mem_of_getElem? (i := 18) rfl))) Via.refl P3 ?_
  refine K.aloadN d3_4 (pc' := 5) rfl rfl rfl ?_
  refine K.getf d3_5 (pc' := 8) rfl (host := "") (Or.inl (hw _ (List.mem_of_getElem? (i := 11) rfl))) Via.refl P2 ?_
  refine K.alen d3_8 (pc' := 9) rfl P4 (fun z8 e_z8 => ?_)
  have t_z8 : z8.toInt = 4 := e_z8
  refine K.icmp_ne d3_9 (pc1 := 12) rfl (by decide) (pc2 := 29) (by decide) (a := 1) (b := z8.toInt) rfl rfl (fun c9 => ?_) (fun c9 => ?_)
  · refine K.aloadN d3_29 (pc' := 30) rfl rfl rfl ?_
    refine K.getf d3_30 (pc' := 33) rfl (host := "") (Or.inl (hw _ (List.mem_of_getElem? (i := 11) rfl))) Via.refl P2 ?_
    refine K.aloadN d3_33 (pc' := 34) rfl rfl rfl ?_
    refine K.dup d3_34 (pc' := 35) rfl rfl ?_
    refine K.getf d3_35 (pc' := 38) rfl (host := "") (Or.inl (hw _ (List.mem_of_getElem? (i := 18) rfl))) Via.refl P3 ?_
    refine K.dupX1 d3_38 (pc' := 39) rfl rfl rfl ?_
    refine K.iconst d3_39 (pc' := 40) rfl (z := 1) rfl ?_
    refine K.iadd d3_40 (pc' := 41) rfl (z := (2 : Int32)) (by decide) ?_
    refine K.putf d3_41 (pc' := 44) rfl (host := "") (Or.inl (hw _ (List.mem_of_getElem? (i := 18) rfl))) Via.refl P3 P1 (Or.inl (hw _ (List.mem_of_getElem? (i := 19) rfl))) (hw _ (List.mem_of_getElem? (i := 2) rfl)) (ty := .int) (by decide) rfl rfl P6 (fun h_1 W_2 => ?_)
    have f_3 : Exa Z h_1 a "com/example/index_rank_fuse/indexrankfuse/IntList" := P1.wr W_2
    have f_4 : Fld Z h_1 a "com/example/index_rank_fuse/indexrankfuse/IntList" "values" "[I" (.ref b) := P2.other W_2 (Or.inr (slot_ne (Or.inl (hw _ (List.mem_of_getElem? (i := 12) rfl))) (Or.inl (hw _ (List.mem_of_getElem? (i := 19) rfl))) (by decide) (t := (.array .int)) (t' := .int) (by decide) (by decide)))
    have f_5 : Fld Z h_1 a "com/example/index_rank_fuse/indexrankfuse/IntList" "size" "I" (.int (2 : Int32)) := P3.same W_2
    have f_6 : Ary Z h_1 b .int [(.int x0), (.int x1), (.int x2), (.int x3)] := P4.other W_2 P5
    have kp_7 : Keep h h_1 [a, b] := (Keep.refl h [a, b]).wr W_2 (Or.inl (by simp))
    refine K.iloadN d3_44 (pc' := 45) rfl rfl ?_
    refine K.iast d3_45 (pc' := 46) rfl f_6 (i := 1) rfl (show 1 < 4 by decide) P7 (fun h_8 W_9 A_10 => ?_)
    have f_11 : Exa Z h_8 a "com/example/index_rank_fuse/indexrankfuse/IntList" := f_3.wr W_9
    have f_12 : Fld Z h_8 a "com/example/index_rank_fuse/indexrankfuse/IntList" "values" "[I" (.ref b) := f_4.other W_9 (Or.inl (Ne.symm P5))
    have f_13 : Fld Z h_8 a "com/example/index_rank_fuse/indexrankfuse/IntList" "size" "I" (.int (2 : Int32)) := f_5.other W_9 (Or.inl (Ne.symm P5))
    have kp_15 : Keep h h_8 [a, b] := kp_7.wr W_9 (Or.inl (by simp))
    have A_16 : Ary Z h_8 b .int [(.int x0), (.int v0), (.int x2), (.int x3)] := A_10
    exact K.ret0 d3_46 (by decide) (by decide) ⟨rfl, kp_15, f_12, f_13, A_16⟩
  · exfalso; omega
set_option maxRecDepth 65536 in
set_option maxHeartbeats 40000000 in
theorem c_add2 (l : Launch) (Z : State) (a0 : Array Value) (hw : ∀ d ∈ tables_1, d.before a0 Z = true) (n0 : Nat) (h : Heap) (a : Addr) (v0 : Int32) (b : Addr) (x0 : Int32) (x1 : Int32) (x2 : Int32) (x3 : Int32) (P1 : Exa Z h a "com/example/index_rank_fuse/indexrankfuse/IntList") (P2 : Fld Z h a "com/example/index_rank_fuse/indexrankfuse/IntList" "values" "[I" (.ref b)) (P3 : Fld Z h a "com/example/index_rank_fuse/indexrankfuse/IntList" "size" "I" (.int (2 : Int32))) (P4 : Ary Z h b .int [(.int x0), (.int x1), (.int x2), (.int x3)]) (P5 : b ≠ a) (P6 : n0 ≤ a) (P7 : n0 ≤ b) : MeetsW l Z n0 (⟨"com/example/index_rank_fuse/indexrankfuse/IntList", "add", "(I)V"⟩ : MethodName) prog_25_method_2_code 2 none ({ frames := 0, cells := 0, slots := 0, locals := 0 } : Room) #[(.ref a), (.int v0)] h (fun v h' => v = none ∧ Keep h h' [a, b] ∧ Fld Z h' a "com/example/index_rank_fuse/indexrankfuse/IntList" "values" "[I" (.ref b) ∧ Fld Z h' a "com/example/index_rank_fuse/indexrankfuse/IntList" "size" "I" (.int (3 : Int32)) ∧ Ary Z h' b .int [(.int x0), (.int x1), (.int v0), (.int x3)]) := by
  refine MeetsW.intro (plainFor_of_name pn_com_example_index_rank_fuse_indexrankfuse_IntList) (L0 := #[.val (.ref a), .val (.int v0)]) (fun m => by first | (simp [entryFrame, mkF, argsToLocals, Value.category]; done) | rfl) ?_
  intro m G K0
  have K : Cx l ({ frames := 0, cells := 0, slots := 0, locals := 0 } : Room) Z n0 _ "com/example/index_rank_fuse/indexrankfuse/IntList" "add" prog_25_method_2_code 2 none m G := K0
  refine K.aloadN d3_0 (pc' := 1) rfl rfl rfl ?_
  refine K.getf d3_1 (pc' := 4) rfl (host := "") (Or.inl (hw _ (List.mem_of_getElem? (i := 18) rfl))) Via.refl P3 ?_
  refine K.aloadN d3_4 (pc' := 5) rfl rfl rfl ?_
  refine K.getf d3_5 (pc' := 8) rfl (host := "") (Or.inl (hw _ (List.mem_of_getElem? (i := 11) rfl))) Via.refl P2 ?_
  refine K.alen d3_8 (pc' := 9) rfl P4 (fun z8 e_z8 => ?_)
  have t_z8 : z8.toInt = 4 := e_z8
  refine K.icmp_ne d3_9 (pc1 := 12) rfl (by decide) (pc2 := 29) (by decide) (a := 2) (b := z8.toInt) rfl rfl (fun c9 => ?_) (fun c9 => ?_)
  · refine K.aloadN d3_29 (pc' := 30) rfl rfl rfl ?_
    refine K.getf d3_30 (pc' := 33) rfl (host := "") (Or.inl (hw _ (List.mem_of_getElem? (i := 11) rfl))) Via.refl P2 ?_
    refine K.aloadN d3_33 (pc' := 34) rfl rfl rfl ?_
    refine K.dup d3_34 (pc' := 35) rfl rfl ?_
    refine K.getf d3_35 (pc' := 38) rfl (host := "") (Or.inl (hw _ (List.mem_of_getElem? (i := 18) rfl))) Via.refl P3 ?_
    refine K.dupX1 d3_38 (pc' := 39) rfl rfl rfl ?_
    refine K.iconst d3_39 (pc' := 40) rfl (z := 1) rfl ?_
    refine K.iadd d3_40 (pc' := 41) rfl (z := (3 : Int32)) (by decide) ?_
    refine K.putf d3_41 (pc' := 44) rfl (host := "") (Or.inl (hw _ (List.mem_of_getElem? (i := 18) rfl))) Via.refl P3 P1 (Or.inl (hw _ (List.mem_of_getElem? (i := 19) rfl))) (hw _ (List.mem_of_getElem? (i := 2) rfl)) (ty := .int) (by decide) rfl rfl P6 (fun h_1 W_2 => ?_)
    have f_3 : Exa Z h_1 a "com/example/index_rank_fuse/indexrankfuse/IntList" := P1.wr W_2
    have f_4 : Fld Z h_1 a "com/example/index_rank_fuse/indexrankfuse/IntList" "values" "[I" (.ref b) := P2.other W_2 (Or.inr (slot_ne (Or.inl (hw _ (List.mem_of_getElem? (i := 12) rfl))) (Or.inl (hw _ (List.mem_of_getElem? (i := 19) rfl))) (by decide) (t := (.array .int)) (t' := .int) (by decide) (by decide)))
    have f_5 : Fld Z h_1 a "com/example/index_rank_fuse/indexrankfuse/IntList" "size" "I" (.int (3 : Int32)) := P3.same W_2
    have f_6 : Ary Z h_1 b .int [(.int x0), (.int x1), (.int x2), (.int x3)] := P4.other W_2 P5
    have kp_7 : Keep h h_1 [a, b] := (Keep.refl h [a, b]).wr W_2 (Or.inl (by simp))
    refine K.iloadN d3_44 (pc' := 45) rfl rfl ?_
    refine K.iast d3_45 (pc' := 46) rfl f_6 (i := 2) rfl (show 2 < 4 by decide) P7 (fun h_8 W_9 A_10 => ?_)
    have f_11 : Exa Z h_8 a "com/example/index_rank_fuse/indexrankfuse/IntList" := f_3.wr W_9
    have f_12 : Fld Z h_8 a "com/example/index_rank_fuse/indexrankfuse/IntList" "values" "[I" (.ref b) := f_4.other W_9 (Or.inl (Ne.symm P5))
    have f_13 : Fld Z h_8 a "com/example/index_rank_fuse/indexrankfuse/IntList" "size" "I" (.int (3 : Int32)) := f_5.other W_9 (Or.inl (Ne.symm P5))
    have kp_15 : Keep h h_8 [a, b] := kp_7.wr W_9 (Or.inl (by simp))
    have A_16 : Ary Z h_8 b .int [(.int x0), (.int x1), (.int v0), (.int x3)] := A_10
    exact K.ret0 d3_46 (by decide) (by decide) ⟨rfl, kp_15, f_12, f_13, A_16⟩
  · exfalso; omega
set_option maxRecDepth 65536 in
set_option maxHeartbeats 40000000 in
theorem c_add3 (l : Launch) (Z : State) (a0 : Array Value) (hw : ∀ d ∈ tables_1, d.before a0 Z = true) (n0 : Nat) (h : Heap) (a : Addr) (v0 : Int32) (b : Addr) (x0 : Int32) (x1 : Int32) (x2 : Int32) (x3 : Int32) (P1 : Exa Z h a "com/example/index_rank_fuse/indexrankfuse/IntList") (P2 : Fld Z h a "com/example/index_rank_fuse/indexrankfuse/IntList" "values" "[I" (.ref b)) (P3 : Fld Z h a "com/example/index_rank_fuse/indexrankfuse/IntList" "size" "I" (.int (3 : Int32))) (P4 : Ary Z h b .int [(.int x0), (.int x1), (.int x2), (.int x3)]) (P5 : b ≠ a) (P6 : n0 ≤ a) (P7 : n0 ≤ b) : MeetsW l Z n0 (⟨"com/example/index_rank_fuse/indexrankfuse/IntList", "add", "(I)V"⟩ : MethodName) prog_25_method_2_code 2 none ({ frames := 0, cells := 0, slots := 0, locals := 0 } : Room) #[(.ref a), (.int v0)] h (fun v h' => v = none ∧ Keep h h' [a, b] ∧ Fld Z h' a "com/example/index_rank_fuse/indexrankfuse/IntList" "values" "[I" (.ref b) ∧ Fld Z h' a "com/example/index_rank_fuse/indexrankfuse/IntList" "size" "I" (.int (4 : Int32)) ∧ Ary Z h' b .int [(.int x0), (.int x1), (.int x2), (.int v0)]) := by
  refine MeetsW.intro (plainFor_of_name pn_com_example_index_rank_fuse_indexrankfuse_IntList) (L0 := #[.val (.ref a), .val (.int v0)]) (fun m => by first | (simp [entryFrame, mkF, argsToLocals, Value.category]; done) | rfl) ?_
  intro m G K0
  have K : Cx l ({ frames := 0, cells := 0, slots := 0, locals := 0 } : Room) Z n0 _ "com/example/index_rank_fuse/indexrankfuse/IntList" "add" prog_25_method_2_code 2 none m G := K0
  refine K.aloadN d3_0 (pc' := 1) rfl rfl rfl ?_
  refine K.getf d3_1 (pc' := 4) rfl (host := "") (Or.inl (hw _ (List.mem_of_getElem? (i := 18) rfl))) Via.refl P3 ?_
  refine K.aloadN d3_4 (pc' := 5) rfl rfl rfl ?_
  refine K.getf d3_5 (pc' := 8) rfl (host := "") (Or.inl (hw _ (List.mem_of_getElem? (i := 11) rfl))) Via.refl P2 ?_
  refine K.alen d3_8 (pc' := 9) rfl P4 (fun z8 e_z8 => ?_)
  have t_z8 : z8.toInt = 4 := e_z8
  refine K.icmp_ne d3_9 (pc1 := 12) rfl (by decide) (pc2 := 29) (by decide) (a := 3) (b := z8.toInt) rfl rfl (fun c9 => ?_) (fun c9 => ?_)
  · refine K.aloadN d3_29 (pc' := 30) rfl rfl rfl ?_
    refine K.getf d3_30 (pc' := 33) rfl (host := "") (Or.inl (hw _ (List.mem_of_getElem? (i := 11) rfl))) Via.refl P2 ?_
    refine K.aloadN d3_33 (pc' := 34) rfl rfl rfl ?_
    refine K.dup d3_34 (pc' := 35) rfl rfl ?_
    refine K.getf d3_35 (pc' := 38) rfl (host := "") (Or.inl (hw _ (List.mem_of_getElem? (i := 18) rfl))) Via.refl P3 ?_
    refine K.dupX1 d3_38 (pc' := 39) rfl rfl rfl ?_
    refine K.iconst d3_39 (pc' := 40) rfl (z := 1) rfl ?_
    refine K.iadd d3_40 (pc' := 41) rfl (z := (4 : Int32)) (by decide) ?_
    refine K.putf d3_41 (pc' := 44) rfl (host := "") (Or.inl (hw _ (List.mem_of_getElem? (i := 18) rfl))) Via.refl P3 P1 (Or.inl (hw _ (List.mem_of_getElem? (i := 19) rfl))) (hw _ (List.mem_of_getElem? (i := 2) rfl)) (ty := .int) (by decide) rfl rfl P6 (fun h_1 W_2 => ?_)
    have f_3 : Exa Z h_1 a "com/example/index_rank_fuse/indexrankfuse/IntList" := P1.wr W_2
    have f_4 : Fld Z h_1 a "com/example/index_rank_fuse/indexrankfuse/IntList" "values" "[I" (.ref b) := P2.other W_2 (Or.inr (slot_ne (Or.inl (hw _ (List.mem_of_getElem? (i := 12) rfl))) (Or.inl (hw _ (List.mem_of_getElem? (i := 19) rfl))) (by decide) (t := (.array .int)) (t' := .int) (by decide) (by decide)))
    have f_5 : Fld Z h_1 a "com/example/index_rank_fuse/indexrankfuse/IntList" "size" "I" (.int (4 : Int32)) := P3.same W_2
    have f_6 : Ary Z h_1 b .int [(.int x0), (.int x1), (.int x2), (.int x3)] := P4.other W_2 P5
    have kp_7 : Keep h h_1 [a, b] := (Keep.refl h [a, b]).wr W_2 (Or.inl (by simp))
    refine K.iloadN d3_44 (pc' := 45) rfl rfl ?_
    refine K.iast d3_45 (pc' := 46) rfl f_6 (i := 3) rfl (show 3 < 4 by decide) P7 (fun h_8 W_9 A_10 => ?_)
    have f_11 : Exa Z h_8 a "com/example/index_rank_fuse/indexrankfuse/IntList" := f_3.wr W_9
    have f_12 : Fld Z h_8 a "com/example/index_rank_fuse/indexrankfuse/IntList" "values" "[I" (.ref b) := f_4.other W_9 (Or.inl (Ne.symm P5))
    have f_13 : Fld Z h_8 a "com/example/index_rank_fuse/indexrankfuse/IntList" "size" "I" (.int (4 : Int32)) := f_5.other W_9 (Or.inl (Ne.symm P5))
    have kp_15 : Keep h h_8 [a, b] := kp_7.wr W_9 (Or.inl (by simp))
    have A_16 : Ary Z h_8 b .int [(.int x0), (.int x1), (.int x2), (.int v0)] := A_10
    exact K.ret0 d3_46 (by decide) (by decide) ⟨rfl, kp_15, f_12, f_13, A_16⟩
  · exfalso; omega
theorem d3_12 : decode prog_25_method_2_code 12 = .ok (.aload_n 0, 1) := by decide +kernel
theorem d3_13 : decode prog_25_method_2_code 13 = .ok (.aload_n 0, 1) := by decide +kernel
theorem d3_14 : decode prog_25_method_2_code 14 = .ok (.getfield 7, 3) := by decide +kernel
theorem d3_17 : decode prog_25_method_2_code 17 = .ok (.aload_n 0, 1) := by decide +kernel
theorem d3_18 : decode prog_25_method_2_code 18 = .ok (.getfield 13, 3) := by decide +kernel
theorem d3_21 : decode prog_25_method_2_code 21 = .ok (.iconst 2, 1) := by decide +kernel
theorem d3_22 : decode prog_25_method_2_code 22 = .ok (.imul, 1) := by decide +kernel
theorem d3_23 : decode prog_25_method_2_code 23 = .ok (.invokestatic 17, 3) := by decide +kernel
theorem pd_1 : parseMethodDescriptor "([II)[I" = some ⟨[(.array .int), .int], some (.array .int)⟩ := by decide +kernel
theorem d3_26 : decode prog_25_method_2_code 26 = .ok (.putfield 7, 3) := by decide +kernel
set_option maxRecDepth 65536 in
set_option maxHeartbeats 40000000 in
theorem c_add4 (l : Launch) (Z : State) (a0 : Array Value) (hw : ∀ d ∈ tables_1, d.before a0 Z = true) (n0 : Nat) (h : Heap) (a : Addr) (v0 : Int32) (b : Addr) (x0 : Int32) (x1 : Int32) (x2 : Int32) (x3 : Int32) (P1 : Exa Z h a "com/example/index_rank_fuse/indexrankfuse/IntList") (P2 : Fld Z h a "com/example/index_rank_fuse/indexrankfuse/IntList" "values" "[I" (.ref b)) (P3 : Fld Z h a "com/example/index_rank_fuse/indexrankfuse/IntList" "size" "I" (.int (4 : Int32))) (P4 : Ary Z h b .int [(.int x0), (.int x1), (.int x2), (.int x3)]) (P5 : b ≠ a) (P6 : n0 ≤ a) (P7 : n0 ≤ b) (Z0 : n0 ≤ h.size) : MeetsW l Z n0 (⟨"com/example/index_rank_fuse/indexrankfuse/IntList", "add", "(I)V"⟩ : MethodName) prog_25_method_2_code 2 none ({ frames := 2, cells := 1, slots := 8, locals := 71 } : Room) #[(.ref a), (.int v0)] h (fun v h' => ∃ (o : Addr), v = none ∧ Keep h h' [a] ∧ h.size ≤ o ∧ n0 ≤ o ∧ Fld Z h' a "com/example/index_rank_fuse/indexrankfuse/IntList" "values" "[I" (.ref o) ∧ Fld Z h' a "com/example/index_rank_fuse/indexrankfuse/IntList" "size" "I" (.int (5 : Int32)) ∧ Ary Z h' o .int [(.int x0), (.int x1), (.int x2), (.int x3), (.int v0), (.int (0 : Int32)), (.int (0 : Int32)), (.int (0 : Int32))] ∧ a ≠ o) := by
  refine MeetsW.intro (plainFor_of_name pn_com_example_index_rank_fuse_indexrankfuse_IntList) (L0 := #[.val (.ref a), .val (.int v0)]) (fun m => by first | (simp [entryFrame, mkF, argsToLocals, Value.category]; done) | rfl) ?_
  intro m G K0
  have K : Cx l ({ frames := 2, cells := 1, slots := 8, locals := 71 } : Room) Z n0 _ "com/example/index_rank_fuse/indexrankfuse/IntList" "add" prog_25_method_2_code 2 none m G := K0
  refine K.aloadN d3_0 (pc' := 1) rfl rfl rfl ?_
  refine K.getf d3_1 (pc' := 4) rfl (host := "") (Or.inl (hw _ (List.mem_of_getElem? (i := 18) rfl))) Via.refl P3 ?_
  refine K.aloadN d3_4 (pc' := 5) rfl rfl rfl ?_
  refine K.getf d3_5 (pc' := 8) rfl (host := "") (Or.inl (hw _ (List.mem_of_getElem? (i := 11) rfl))) Via.refl P2 ?_
  refine K.alen d3_8 (pc' := 9) rfl P4 (fun z8 e_z8 => ?_)
  have t_z8 : z8.toInt = 4 := e_z8
  refine K.icmp_ne d3_9 (pc1 := 12) rfl (by decide) (pc2 := 29) (by decide) (a := 4) (b := z8.toInt) rfl rfl (fun c9 => ?_) (fun c9 => ?_)
  · exfalso; omega
  · refine K.aloadN d3_12 (pc' := 13) rfl rfl rfl ?_
    refine K.aloadN d3_13 (pc' := 14) rfl rfl rfl ?_
    refine K.getf d3_14 (pc' := 17) rfl (host := "") (Or.inl (hw _ (List.mem_of_getElem? (i := 11) rfl))) Via.refl P2 ?_
    refine K.aloadN d3_17 (pc' := 18) rfl rfl rfl ?_
    refine K.getf d3_18 (pc' := 21) rfl (host := "") (Or.inl (hw _ (List.mem_of_getElem? (i := 18) rfl))) Via.refl P3 ?_
    refine K.iconst d3_21 (pc' := 22) rfl (z := 2) rfl ?_
    refine K.imul d3_22 (pc' := 23) rfl (z := (8 : Int32)) (by decide) ?_
    refine K.calls (argsL := [(.ref b), (.int (8 : Int32))]) (rest := [(.ref a)]) d3_23 (pc' := 26) rfl (c_copy l Z a0 hw n0 h (a := b) (x0 := x0) (x1 := x1) (x2 := x2) (x3 := x3) P4 Z0) (hw _ (List.mem_of_getElem? (i := 37) rfl)) (hw _ (List.mem_of_getElem? (i := 38) rfl)) (hw _ (List.mem_of_getElem? (i := 39) rfl)) (hw _ (List.mem_of_getElem? (i := 40) rfl)) (by decide) pd_1 rfl rfl (W := 1) (by simp [Value.category]) (by decide) (by decide) (by decide) (by decide) (fun v_3 h_1 q_2 => ?_)
    obtain ⟨w_4, rfl, K_5, f_6, f_7, f_8⟩ := q_2
    have ne_a_w_4 : a ≠ w_4 := Nat.ne_of_lt (Nat.lt_of_lt_of_le P1.lt f_6)
    have ne_b_w_4 : b ≠ w_4 := Nat.ne_of_lt (Nat.lt_of_lt_of_le P4.lt f_6)
    have sb_w_4 : h.size ≤ w_4 := Nat.le_trans (Keep.refl h [a]).1 f_6
    have f_9 : Exa Z h_1 a "com/example/index_rank_fuse/indexrankfuse/IntList" := P1.keep K_5
    have f_10 : Fld Z h_1 a "com/example/index_rank_fuse/indexrankfuse/IntList" "values" "[I" (.ref b) := P2.keep K_5 nin0
    have f_11 : Fld Z h_1 a "com/example/index_rank_fuse/indexrankfuse/IntList" "size" "I" (.int (4 : Int32)) := P3.keep K_5 nin0
    have f_12 : Ary Z h_1 b .int [(.int x0), (.int x1), (.int x2), (.int x3)] := P4.keep K_5 nin0
    have kp_13 : Keep h h_1 [a] := (Keep.refl h [a]).trans K_5 all0
    have sz_14 : n0 ≤ h_1.size := Nat.le_trans Z0 K_5.1
    show G h_1 1 8 (mkF m 26 #[.val (.ref a), .val (.int v0)] [(.ref w_4), (.ref a)])
    refine K.putf d3_26 (pc' := 29) rfl (host := "") (Or.inl (hw _ (List.mem_of_getElem? (i := 11) rfl))) Via.refl f_10 f_9 (Or.inl (hw _ (List.mem_of_getElem? (i := 12) rfl))) (hw _ (List.mem_of_getElem? (i := 2) rfl)) (ty := (.array .int)) (by decide) rfl rfl P6 (fun h_15 W_16 => ?_)
    have f_17 : Exa Z h_15 a "com/example/index_rank_fuse/indexrankfuse/IntList" := f_9.wr W_16
    have f_18 : Fld Z h_15 a "com/example/index_rank_fuse/indexrankfuse/IntList" "values" "[I" (.ref w_4) := f_10.same W_16
    have f_19 : Fld Z h_15 a "com/example/index_rank_fuse/indexrankfuse/IntList" "size" "I" (.int (4 : Int32)) := f_11.other W_16 (Or.inr (slot_ne (Or.inl (hw _ (List.mem_of_getElem? (i := 19) rfl))) (Or.inl (hw _ (List.mem_of_getElem? (i := 12) rfl))) (by decide) (t := .int) (t' := (.array .int)) (by decide) (by decide)))
    have f_20 : Ary Z h_15 b .int [(.int x0), (.int x1), (.int x2), (.int x3)] := f_12.other W_16 P5
    have f_21 : Ary Z h_15 w_4 .int [(.int x0), (.int x1), (.int x2), (.int x3), (.int (0 : Int32)), (.int (0 : Int32)), (.int (0 : Int32)), (.int (0 : Int32))] := f_8.other W_16 (Ne.symm ne_a_w_4)
    have kp_22 : Keep h h_15 [a] := kp_13.wr W_16 (Or.inl (by simp))
    have sz_23 : n0 ≤ h_15.size := Nat.le_trans sz_14 (Keep.of_wr W_16).1
    refine K.aloadN d3_29 (pc' := 30) rfl rfl rfl ?_
    refine K.getf d3_30 (pc' := 33) rfl (host := "") (Or.inl (hw _ (List.mem_of_getElem? (i := 11) rfl))) Via.refl f_18 ?_
    refine K.aloadN d3_33 (pc' := 34) rfl rfl rfl ?_
    refine K.dup d3_34 (pc' := 35) rfl rfl ?_
    refine K.getf d3_35 (pc' := 38) rfl (host := "") (Or.inl (hw _ (List.mem_of_getElem? (i := 18) rfl))) Via.refl f_19 ?_
    refine K.dupX1 d3_38 (pc' := 39) rfl rfl rfl ?_
    refine K.iconst d3_39 (pc' := 40) rfl (z := 1) rfl ?_
    refine K.iadd d3_40 (pc' := 41) rfl (z := (5 : Int32)) (by decide) ?_
    refine K.putf d3_41 (pc' := 44) rfl (host := "") (Or.inl (hw _ (List.mem_of_getElem? (i := 18) rfl))) Via.refl f_19 f_17 (Or.inl (hw _ (List.mem_of_getElem? (i := 19) rfl))) (hw _ (List.mem_of_getElem? (i := 2) rfl)) (ty := .int) (by decide) rfl rfl P6 (fun h_24 W_25 => ?_)
    have f_26 : Exa Z h_24 a "com/example/index_rank_fuse/indexrankfuse/IntList" := f_17.wr W_25
    have f_27 : Fld Z h_24 a "com/example/index_rank_fuse/indexrankfuse/IntList" "values" "[I" (.ref w_4) := f_18.other W_25 (Or.inr (slot_ne (Or.inl (hw _ (List.mem_of_getElem? (i := 12) rfl))) (Or.inl (hw _ (List.mem_of_getElem? (i := 19) rfl))) (by decide) (t := (.array .int)) (t' := .int) (by decide) (by decide)))
    have f_28 : Fld Z h_24 a "com/example/index_rank_fuse/indexrankfuse/IntList" "size" "I" (.int (5 : Int32)) := f_19.same W_25
    have f_29 : Ary Z h_24 b .int [(.int x0), (.int x1), (.int x2), (.int x3)] := f_20.other W_25 P5
    have f_30 : Ary Z h_24 w_4 .int [(.int x0), (.int x1), (.int x2), (.int x3), (.int (0 : Int32)), (.int (0 : Int32)), (.int (0 : Int32)), (.int (0 : Int32))] := f_21.other W_25 (Ne.symm ne_a_w_4)
    have kp_31 : Keep h h_24 [a] := kp_22.wr W_25 (Or.inl (by simp))
    have sz_32 : n0 ≤ h_24.size := Nat.le_trans sz_23 (Keep.of_wr W_25).1
    refine K.iloadN d3_44 (pc' := 45) rfl rfl ?_
    refine K.iast d3_45 (pc' := 46) rfl f_30 (i := 4) rfl (show 4 < 8 by decide) f_7 (fun h_33 W_34 A_35 => ?_)
    have f_36 : Exa Z h_33 a "com/example/index_rank_fuse/indexrankfuse/IntList" := f_26.wr W_34
    have f_37 : Fld Z h_33 a "com/example/index_rank_fuse/indexrankfuse/IntList" "values" "[I" (.ref w_4) := f_27.other W_34 (Or.inl ne_a_w_4)
    have f_38 : Fld Z h_33 a "com/example/index_rank_fuse/indexrankfuse/IntList" "size" "I" (.int (5 : Int32)) := f_28.other W_34 (Or.inl ne_a_w_4)
    have f_39 : Ary Z h_33 b .int [(.int x0), (.int x1), (.int x2), (.int x3)] := f_29.other W_34 ne_b_w_4
    have kp_41 : Keep h h_33 [a] := kp_31.wr W_34 (Or.inr sb_w_4)
    have sz_42 : n0 ≤ h_33.size := Nat.le_trans sz_32 (Keep.of_wr W_34).1
    have A_43 : Ary Z h_33 w_4 .int [(.int x0), (.int x1), (.int x2), (.int x3), (.int v0), (.int (0 : Int32)), (.int (0 : Int32)), (.int (0 : Int32))] := A_35
    exact K.ret0 d3_46 (by decide) (by decide) ⟨w_4, rfl, kp_41, sb_w_4, f_7, f_37, f_38, A_43, ne_a_w_4⟩
theorem d6_0 : decode jdk_41_method_11_code 0 = .ok (.iload_n 0, 1) := by decide +kernel
theorem d6_1 : decode jdk_41_method_11_code 1 = .ok (.ifCond .lt 8, 3) := by decide +kernel
theorem d6_4 : decode jdk_41_method_11_code 4 = .ok (.iload_n 0, 1) := by decide +kernel
theorem d6_5 : decode jdk_41_method_11_code 5 = .ok (.iload_n 1, 1) := by decide +kernel
theorem d6_6 : decode jdk_41_method_11_code 6 = .ok (.if_icmp .lt 10, 3) := by decide +kernel
theorem d6_16 : decode jdk_41_method_11_code 16 = .ok (.iload_n 0, 1) := by decide +kernel
theorem d6_17 : decode jdk_41_method_11_code 17 = .ok (.ireturn, 1) := by decide +kernel
theorem pn_jdk_internal_util_Preconditions : plainName "jdk/internal/util/Preconditions" = true := by first | (simp [plainName, overriddenIn]; done) | decide +kernel
set_option maxRecDepth 65536 in
set_option maxHeartbeats 40000000 in
theorem c_pre (l : Launch) (Z : State) (a0 : Array Value) (hw : ∀ d ∈ tables_1, d.before a0 Z = true) (n0 : Nat) (h : Heap) (p : Int32) (n : Int32) (hp : 0 ≤ p.toInt ∧ p.toInt < n.toInt) : MeetsW l Z n0 (⟨"jdk/internal/util/Preconditions", "checkIndex", "(IILjava/util/function/BiFunction;)I"⟩ : MethodName) jdk_41_method_11_code 3 (some .int) ({ frames := 0, cells := 0, slots := 0, locals := 0 } : Room) #[(.int p), (.int n), .null] h (fun v h' => v = some (.int p) ∧ h = h') := by
  refine MeetsW.intro (plainFor_of_name pn_jdk_internal_util_Preconditions) (L0 := #[.val (.int p), .val (.int n), .val .null]) (fun m => by first | (simp [entryFrame, mkF, argsToLocals, Value.category]; done) | rfl) ?_
  intro m G K0
  have K : Cx l ({ frames := 0, cells := 0, slots := 0, locals := 0 } : Room) Z n0 _ "jdk/internal/util/Preconditions" "checkIndex" jdk_41_method_11_code 3 (some .int) m G := K0
  refine K.iloadN d6_0 (pc' := 1) rfl rfl ?_
  refine K.if_lt d6_1 (pc1 := 4) rfl (by decide) (pc2 := 9) (by decide) (a := p.toInt) rfl (fun c1 => ?_) (fun c1 => ?_)
  · exfalso; omega
  · refine K.iloadN d6_4 (pc' := 5) rfl rfl ?_
    refine K.iloadN d6_5 (pc' := 6) rfl rfl ?_
    refine K.icmp_lt d6_6 (pc1 := 9) rfl (by decide) (pc2 := 16) (by decide) (a := p.toInt) (b := n.toInt) rfl rfl (fun c6 => ?_) (fun c6 => ?_)
    · refine K.iloadN d6_16 (pc' := 17) rfl rfl ?_
      exact K.reti d6_17 (by decide) (by decide) ⟨rfl, rfl⟩
    · exfalso; omega
theorem d5_0 : decode jdk_31_method_17_code 0 = .ok (.iload_n 0, 1) := by decide +kernel
theorem d5_1 : decode jdk_31_method_17_code 1 = .ok (.iload_n 1, 1) := by decide +kernel
theorem d5_2 : decode jdk_31_method_17_code 2 = .ok (.aconst_null, 1) := by decide +kernel
theorem d5_3 : decode jdk_31_method_17_code 3 = .ok (.invokestatic 105, 3) := by decide +kernel
theorem pd_2 : parseMethodDescriptor "(IILjava/util/function/BiFunction;)I" = some ⟨[.int, .int, (.object "java/util/function/BiFunction")], some .int⟩ := by decide +kernel
theorem d5_6 : decode jdk_31_method_17_code 6 = .ok (.ireturn, 1) := by decide +kernel
theorem pn_java_util_Objects : plainName "java/util/Objects" = true := by first | (simp [plainName, overriddenIn]; done) | decide +kernel
set_option maxRecDepth 65536 in
set_option maxHeartbeats 40000000 in
theorem c_chk (l : Launch) (Z : State) (a0 : Array Value) (hw : ∀ d ∈ tables_1, d.before a0 Z = true) (n0 : Nat) (h : Heap) (p : Int32) (n : Int32) (hp : 0 ≤ p.toInt ∧ p.toInt < n.toInt) : MeetsW l Z n0 (⟨"java/util/Objects", "checkIndex", "(II)I"⟩ : MethodName) jdk_31_method_17_code 2 (some .int) ({ frames := 1, cells := 0, slots := 0, locals := 14 } : Room) #[(.int p), (.int n)] h (fun v h' => v = some (.int p) ∧ h = h') := by
  refine MeetsW.intro (plainFor_of_name pn_java_util_Objects) (L0 := #[.val (.int p), .val (.int n)]) (fun m => by first | (simp [entryFrame, mkF, argsToLocals, Value.category]; done) | rfl) ?_
  intro m G K0
  have K : Cx l ({ frames := 1, cells := 0, slots := 0, locals := 14 } : Room) Z n0 _ "java/util/Objects" "checkIndex" jdk_31_method_17_code 2 (some .int) m G := K0
  refine K.iloadN d5_0 (pc' := 1) rfl rfl ?_
  refine K.iloadN d5_1 (pc' := 2) rfl rfl ?_
  refine K.anull d5_2 (pc' := 3) rfl ?_
  refine K.calls (argsL := [(.int p), (.int n), .null]) (rest := []) d5_3 (pc' := 6) rfl (c_pre l Z a0 hw n0 h (p := p) (n := n) (by omega)) (hw _ (List.mem_of_getElem? (i := 29) rfl)) (hw _ (List.mem_of_getElem? (i := 30) rfl)) (hw _ (List.mem_of_getElem? (i := 31) rfl)) (hw _ (List.mem_of_getElem? (i := 32) rfl)) (by decide) pd_2 rfl rfl (W := 0) (by simp [Value.category]) (by decide) (by decide) (by decide) (by decide) (fun v_3 h_1 q_2 => ?_)
  obtain ⟨rfl, rfl⟩ := q_2
  show G h 0 0 (mkF m 6 #[.val (.int p), .val (.int n)] [(.int p)])
  exact K.reti d5_6 (by decide) (by decide) ⟨rfl, rfl⟩
theorem d4_0 : decode prog_25_method_3_code 0 = .ok (.aload_n 0, 1) := by decide +kernel
theorem d4_1 : decode prog_25_method_3_code 1 = .ok (.getfield 7, 3) := by decide +kernel
theorem d4_4 : decode prog_25_method_3_code 4 = .ok (.iload_n 1, 1) := by decide +kernel
theorem d4_5 : decode prog_25_method_3_code 5 = .ok (.aload_n 0, 1) := by decide +kernel
theorem d4_6 : decode prog_25_method_3_code 6 = .ok (.getfield 13, 3) := by decide +kernel
theorem d4_9 : decode prog_25_method_3_code 9 = .ok (.invokestatic 23, 3) := by decide +kernel
theorem d4_12 : decode prog_25_method_3_code 12 = .ok (.iaload, 1) := by decide +kernel
theorem d4_13 : decode prog_25_method_3_code 13 = .ok (.ireturn, 1) := by decide +kernel
set_option maxRecDepth 65536 in
set_option maxHeartbeats 40000000 in
theorem c_get (l : Launch) (Z : State) (a0 : Array Value) (hw : ∀ d ∈ tables_1, d.before a0 Z = true) (n0 : Nat) (h : Heap) (a : Addr) (p : Int32) (b : Addr) (n : Int32) (vs : List Value) (y : Int32) (P1 : Exa Z h a "com/example/index_rank_fuse/indexrankfuse/IntList") (P2 : Fld Z h a "com/example/index_rank_fuse/indexrankfuse/IntList" "values" "[I" (.ref b)) (P3 : Fld Z h a "com/example/index_rank_fuse/indexrankfuse/IntList" "size" "I" (.int n)) (P4 : Ary Z h b .int vs) (hp : 0 ≤ p.toInt ∧ p.toInt < n.toInt) (hv : vs[p.toInt.toNat]? = some (.int y)) : MeetsW l Z n0 (⟨"com/example/index_rank_fuse/indexrankfuse/IntList", "get", "(I)I"⟩ : MethodName) prog_25_method_3_code 2 (some .int) ({ frames := 2, cells := 0, slots := 0, locals := 28 } : Room) #[(.ref a), (.int p)] h (fun v h' => v = some (.int y) ∧ h = h') := by
  refine MeetsW.intro (plainFor_of_name pn_com_example_index_rank_fuse_indexrankfuse_IntList) (L0 := #[.val (.ref a), .val (.int p)]) (fun m => by first | (simp [entryFrame, mkF, argsToLocals, Value.category]; done) | rfl) ?_
  intro m G K0
  have K : Cx l ({ frames := 2, cells := 0, slots := 0, locals := 28 } : Room) Z n0 _ "com/example/index_rank_fuse/indexrankfuse/IntList" "get" prog_25_method_3_code 2 (some .int) m G := K0
  refine K.aloadN d4_0 (pc' := 1) rfl rfl rfl ?_
  refine K.getf d4_1 (pc' := 4) rfl (host := "") (Or.inl (hw _ (List.mem_of_getElem? (i := 11) rfl))) Via.refl P2 ?_
  refine K.iloadN d4_4 (pc' := 5) rfl rfl ?_
  refine K.aloadN d4_5 (pc' := 6) rfl rfl rfl ?_
  refine K.getf d4_6 (pc' := 9) rfl (host := "") (Or.inl (hw _ (List.mem_of_getElem? (i := 18) rfl))) Via.refl P3 ?_
  refine K.calls (argsL := [(.int p), (.int n)]) (rest := [(.ref b)]) d4_9 (pc' := 12) rfl (c_chk l Z a0 hw n0 h (p := p) (n := n) (by omega)) (hw _ (List.mem_of_getElem? (i := 25) rfl)) (hw _ (List.mem_of_getElem? (i := 26) rfl)) (hw _ (List.mem_of_getElem? (i := 27) rfl)) (hw _ (List.mem_of_getElem? (i := 28) rfl)) (by decide) pd_0 rfl rfl (W := 1) (by simp [Value.category]) (by decide) (by decide) (by decide) (by decide) (fun v_3 h_1 q_2 => ?_)
  obtain ⟨rfl, rfl⟩ := q_2
  show G h 0 0 (mkF m 12 #[.val (.ref a), .val (.int p)] [(.int p), (.ref b)])
  refine K.iald d4_12 (pc' := 13) rfl P4 (i := p.toInt.toNat) (by omega) (v := (.int y)) hv ?_
  exact K.reti d4_13 (by decide) (by decide) ⟨rfl, rfl⟩
theorem d7_0 : decode method_2_code 0 = .ok (.iload_n 0, 1) := by decide +kernel
theorem d7_1 : decode method_2_code 1 = .ok (.ifCond .ne 5, 3) := by decide +kernel
theorem d7_6 : decode method_2_code 6 = .ok (.iload_n 0, 1) := by decide +kernel
theorem d7_7 : decode method_2_code 7 = .ok (.iconst 1, 1) := by decide +kernel
theorem d7_8 : decode method_2_code 8 = .ok (.if_icmp .ne 5, 3) := by decide +kernel
theorem d7_13 : decode method_2_code 13 = .ok (.iload_n 0, 1) := by decide +kernel
theorem d7_14 : decode method_2_code 14 = .ok (.iconst 2, 1) := by decide +kernel
theorem d7_15 : decode method_2_code 15 = .ok (.if_icmp .ne 5, 3) := by decide +kernel
theorem d7_20 : decode method_2_code 20 = .ok (.iload_n 0, 1) := by decide +kernel
theorem d7_21 : decode method_2_code 21 = .ok (.iconst 3, 1) := by decide +kernel
theorem d7_22 : decode method_2_code 22 = .ok (.if_icmp .ne 6, 3) := by decide +kernel
theorem d7_28 : decode method_2_code 28 = .ok (.iload 5, 2) := by decide +kernel
theorem d7_30 : decode method_2_code 30 = .ok (.ireturn, 1) := by decide +kernel
theorem d7_25 : decode method_2_code 25 = .ok (.iload 4, 2) := by decide +kernel
theorem d7_27 : decode method_2_code 27 = .ok (.ireturn, 1) := by decide +kernel
theorem d7_18 : decode method_2_code 18 = .ok (.iload_n 3, 1) := by decide +kernel
theorem d7_19 : decode method_2_code 19 = .ok (.ireturn, 1) := by decide +kernel
theorem d7_11 : decode method_2_code 11 = .ok (.iload_n 2, 1) := by decide +kernel
theorem d7_12 : decode method_2_code 12 = .ok (.ireturn, 1) := by decide +kernel
theorem d7_4 : decode method_2_code 4 = .ok (.iload_n 1, 1) := by decide +kernel
theorem d7_5 : decode method_2_code 5 = .ok (.ireturn, 1) := by decide +kernel
theorem pn_com_example_index_rank_fuse_indexrankfuse_IntListGetPinLaw : plainName "com/example/index_rank_fuse/indexrankfuse/IntListGetPinLaw" = true := by first | (simp [plainName, overriddenIn]; done) | decide +kernel
set_option maxRecDepth 65536 in
set_option maxHeartbeats 40000000 in
theorem c_nth (l : Launch) (Z : State) (a0 : Array Value) (hw : ∀ d ∈ tables_1, d.before a0 Z = true) (n0 : Nat) (h : Heap) (i : Int32) (v0 : Int32) (v1 : Int32) (v2 : Int32) (v3 : Int32) (v4 : Int32)  : MeetsW l Z n0 (⟨"com/example/index_rank_fuse/indexrankfuse/IntListGetPinLaw", "nth", "(IIIIII)I"⟩ : MethodName) method_2_code 6 (some .int) ({ frames := 0, cells := 0, slots := 0, locals := 0 } : Room) #[(.int i), (.int v0), (.int v1), (.int v2), (.int v3), (.int v4)] h (fun v h' => ∃ (z : Int32), v = some (.int z) ∧ ((i.toInt = 0 → z = v0) ∧ (i.toInt = 1 → z = v1) ∧ (i.toInt = 2 → z = v2) ∧ (i.toInt = 3 → z = v3) ∧ (i.toInt = 4 → z = v4)) ∧ h = h') := by
  refine MeetsW.intro (plainFor_of_name pn_com_example_index_rank_fuse_indexrankfuse_IntListGetPinLaw) (L0 := #[.val (.int i), .val (.int v0), .val (.int v1), .val (.int v2), .val (.int v3), .val (.int v4)]) (fun m => by first | (simp [entryFrame, mkF, argsToLocals, Value.category]; done) | rfl) ?_
  intro m G K0
  have K : Cx l ({ frames := 0, cells := 0, slots := 0, locals := 0 } : Room) Z n0 _ "com/example/index_rank_fuse/indexrankfuse/IntListGetPinLaw" "nth" method_2_code 6 (some .int) m G := K0
  refine K.iloadN d7_0 (pc' := 1) rfl rfl ?_
  refine K.if_ne d7_1 (pc1 := 4) rfl (by decide) (pc2 := 6) (by decide) (a := i.toInt) rfl (fun c1 => ?_) (fun c1 => ?_)
  · refine K.iloadN d7_6 (pc' := 7) rfl rfl ?_
    refine K.iconst d7_7 (pc' := 8) rfl (z := 1) rfl ?_
    refine K.icmp_ne d7_8 (pc1 := 11) rfl (by decide) (pc2 := 13) (by decide) (a := i.toInt) (b := 1) rfl rfl (fun c8 => ?_) (fun c8 => ?_)
    · refine K.iloadN d7_13 (pc' := 14) rfl rfl ?_
      refine K.iconst d7_14 (pc' := 15) rfl (z := 2) rfl ?_
      refine K.icmp_ne d7_15 (pc1 := 18) rfl (by decide) (pc2 := 20) (by decide) (a := i.toInt) (b := 2) rfl rfl (fun c15 => ?_) (fun c15 => ?_)
      · refine K.iloadN d7_20 (pc' := 21) rfl rfl ?_
        refine K.iconst d7_21 (pc' := 22) rfl (z := 3) rfl ?_
        refine K.icmp_ne d7_22 (pc1 := 25) rfl (by decide) (pc2 := 28) (by decide) (a := i.toInt) (b := 3) rfl rfl (fun c22 => ?_) (fun c22 => ?_)
        · refine K.iload d7_28 (pc' := 30) rfl rfl ?_
          exact K.reti d7_30 (by decide) (by decide) ⟨v4, rfl, by refine ⟨?_, ?_, ?_, ?_, ?_⟩ <;> intro q <;> first | rfl | (exfalso; omega), rfl⟩
        · refine K.iload d7_25 (pc' := 27) rfl rfl ?_
          exact K.reti d7_27 (by decide) (by decide) ⟨v3, rfl, by refine ⟨?_, ?_, ?_, ?_, ?_⟩ <;> intro q <;> first | rfl | (exfalso; omega), rfl⟩
      · refine K.iloadN d7_18 (pc' := 19) rfl rfl ?_
        exact K.reti d7_19 (by decide) (by decide) ⟨v2, rfl, by refine ⟨?_, ?_, ?_, ?_, ?_⟩ <;> intro q <;> first | rfl | (exfalso; omega), rfl⟩
    · refine K.iloadN d7_11 (pc' := 12) rfl rfl ?_
      exact K.reti d7_12 (by decide) (by decide) ⟨v1, rfl, by refine ⟨?_, ?_, ?_, ?_, ?_⟩ <;> intro q <;> first | rfl | (exfalso; omega), rfl⟩
  · refine K.iloadN d7_4 (pc' := 5) rfl rfl ?_
    exact K.reti d7_5 (by decide) (by decide) ⟨v0, rfl, by refine ⟨?_, ?_, ?_, ?_, ?_⟩ <;> intro q <;> first | rfl | (exfalso; omega), rfl⟩
theorem pd_3 : parseMethodDescriptor "()V" = some ⟨[], none⟩ := by decide +kernel
theorem pd_4 : parseMethodDescriptor "(I)V" = some ⟨[.int], none⟩ := by decide +kernel
theorem pd_5 : parseMethodDescriptor "(I)I" = some ⟨[.int], some .int⟩ := by decide +kernel
theorem pd_6 : parseMethodDescriptor "(IIIIII)I" = some ⟨[.int, .int, .int, .int, .int, .int], some .int⟩ := by decide +kernel
set_option maxRecDepth 65536 in
set_option maxHeartbeats 40000000 in
theorem c_law (l : Launch) (Z : State) (a0 : Array Value) (hw : ∀ d ∈ tables_1, d.before a0 Z = true) (n0 : Nat) (h : Heap) (v0 : Int32) (v1 : Int32) (v2 : Int32) (v3 : Int32) (v4 : Int32) (sl : Int32) (Z0 : n0 ≤ h.size) : MeetsW l Z n0 x code maxLocals ret room_1 #[(.int v0), (.int v1), (.int v2), (.int v3), (.int v4), (.int sl)] h (fun v h' => v = some (.int 1)) := by
  refine MeetsW.intro (plainFor_of_name pn_com_example_index_rank_fuse_indexrankfuse_IntListGetPinLaw) (L0 := #[.val (.int v0), .val (.int v1), .val (.int v2), .val (.int v3), .val (.int v4), .val (.int sl), .unset, .unset, .unset, .unset, .unset]) (fun m => by first | (simp [entryFrame, mkF, argsToLocals, Value.category, maxLocals]; done) | rfl) ?_
  intro m G K0
  have K : Cx l room_1 Z n0 _ "com/example/index_rank_fuse/indexrankfuse/IntListGetPinLaw" "law" code 11 (some .boolean) m G := K0
  refine K.iload at_0 (pc' := 2) rfl rfl ?_
  refine K.bipush at_2 (pc' := 4) rfl (z := 7) rfl ?_
  obtain ⟨z4, e_z4⟩ : ∃ z, sl &&& (7 : Int32) = z := ⟨_, rfl⟩
  have r_z4 : z4.toInt = sl.toInt % 8 := by have q := c_mask sl (7 : Int32) 3 (by decide) (by decide); rw [e_z4] at q; exact q
  refine K.iand at_4 (pc' := 5) rfl e_z4 ?_
  refine K.iconst at_5 (pc' := 6) rfl (z := 5) rfl ?_
  obtain ⟨z6, e_z6⟩ : ∃ z, z4 % (5 : Int32) = z := ⟨_, rfl⟩
  have r_z6 : (0 ≤ z4.toInt → z6.toInt = z4.toInt % 5) ∧ (z4.toInt < 0 → z6.toInt = -((-z4.toInt) % 5)) := by have q := c_irem z4 (5 : Int32) 5 rfl; rw [e_z6] at q; exact q
  refine K.irem at_6 (pc' := 7) rfl (by decide) e_z6 ?_
  refine K.iconst at_7 (pc' := 8) rfl (z := 1) rfl ?_
  obtain ⟨n, e_n⟩ : ∃ z, z6 + (1 : Int32) = z := ⟨_, rfl⟩
  have r_n : (n.toInt - (z6.toInt + 1)) % 4294967296 = 0 := by have q := c_iadd z6 (1 : Int32); rw [e_n] at q; exact q
  have g_n := rng32 n
  have t_n : 1 ≤ n.toInt ∧ n.toInt ≤ 5 := by omega
  clear r_n
  clear g_n
  refine K.iadd at_8 (pc' := 9) rfl e_n ?_
  refine K.istore at_9 (pc' := 11) rfl (L' := #[.val (.int v0), .val (.int v1), .val (.int v2), .val (.int v3), .val (.int v4), .val (.int sl), .val (.int n), .unset, .unset, .unset, .unset]) rfl ?_
  have cs_n : n = 1 ∨ n = 2 ∨ n = 3 ∨ n = 4 ∨ n = 5 := by
    have q : n.toInt = 1 ∨ n.toInt = 2 ∨ n.toInt = 3 ∨ n.toInt = 4 ∨ n.toInt = 5 := by omega
    rcases q with q | q | q | q | q
    · exact Or.inl (eqI q)
    · exact Or.inr (Or.inl (eqI q))
    · exact Or.inr (Or.inr (Or.inl (eqI q)))
    · exact Or.inr (Or.inr (Or.inr (Or.inl (eqI q))))
    · exact Or.inr (Or.inr (Or.inr (Or.inr (eqI q))))
  rcases cs_n with rfl | rfl | rfl | rfl | rfl
  · refine K.iload at_11 (pc' := 13) rfl rfl ?_
    refine K.iconst at_13 (pc' := 14) rfl (z := 3) rfl ?_
    obtain ⟨z14, e_z14⟩ : ∃ z, (sl.toUInt32 >>> ((3 : Int32) &&& 31).toUInt32).toInt32 = z := ⟨_, rfl⟩
    have r_z14 : z14.toInt = (sl.toInt % 4294967296) / 8 := by have q := c_iushr sl (3 : Int32) 3 (by decide) (by decide); rw [e_z14] at q; exact q
    refine K.iushr at_14 (pc' := 15) rfl e_z14 ?_
    refine K.ldcI at_15 (pc' := 17) rfl (hw _ (List.mem_of_getElem? (i := 0) rfl)) ?_
    obtain ⟨z17, e_z17⟩ : ∃ z, z14 &&& (2147483647 : Int32) = z := ⟨_, rfl⟩
    have r_z17 : z17.toInt = z14.toInt % 2147483648 := by have q := c_mask z14 (2147483647 : Int32) 31 (by decide) (by decide); rw [e_z17] at q; exact q
    refine K.iand at_17 (pc' := 18) rfl e_z17 ?_
    refine K.iload at_18 (pc' := 20) rfl rfl ?_
    obtain ⟨i, e_i⟩ : ∃ z, z17 % (1 : Int32) = z := ⟨_, rfl⟩
    have r_i : (0 ≤ z17.toInt → i.toInt = z17.toInt % 1) ∧ (z17.toInt < 0 → i.toInt = -((-z17.toInt) % 1)) := by have q := c_irem z17 (1 : Int32) 1 rfl; rw [e_i] at q; exact q
    have t_i : 0 ≤ i.toInt ∧ i.toInt < 1 := by omega
    clear r_i
    refine K.irem at_20 (pc' := 21) rfl (by decide) e_i ?_
    refine K.istore at_21 (pc' := 23) rfl (L' := #[.val (.int v0), .val (.int v1), .val (.int v2), .val (.int v3), .val (.int v4), .val (.int sl), .val (.int (1 : Int32)), .val (.int i), .unset, .unset, .unset]) rfl ?_
    refine K.newo at_23 (pc' := 26) rfl (hw _ (List.mem_of_getElem? (i := 1) rfl)) (hw _ (List.mem_of_getElem? (i := 2) rfl)) (hw _ (List.mem_of_getElem? (i := 3) rfl)) (by decide) (by decide) (fun h_2 o_1 g_o_1 E_3 x_o_1 D_o_1 => ?_)
    have ge_o_1 : n0 ≤ o_1 := g_o_1 ▸ Z0
    have sz_4 : n0 ≤ h_2.size := Nat.le_trans Z0 E_3.1
    have f_5 : Fld Z h_2 o_1 "com/example/index_rank_fuse/indexrankfuse/IntList" "values" "[I" .null := D_o_1 (Or.inl (hw _ (List.mem_of_getElem? (i := 12) rfl))) (ty := (.array .int)) (by decide)
    have f_6 : Fld Z h_2 o_1 "com/example/index_rank_fuse/indexrankfuse/IntList" "size" "I" (.int (0 : Int32)) := D_o_1 (Or.inl (hw _ (List.mem_of_getElem? (i := 19) rfl))) (ty := .int) (by decide)
    refine K.dup at_26 (pc' := 27) rfl rfl ?_
    refine K.callc (argsL := []) (rest := [(.ref o_1)]) at_27 (pc' := 30) rfl rfl (c_new l Z a0 hw n0 h_2 (a := o_1) x_o_1 sz_4 f_5 f_6 ge_o_1) (hw _ (List.mem_of_getElem? (i := 4) rfl)) (hw _ (List.mem_of_getElem? (i := 5) rfl)) (hw _ (List.mem_of_getElem? (i := 3) rfl)) (hw _ (List.mem_of_getElem? (i := 6) rfl)) (by decide) pd_3 rfl rfl (W := 1) (by simp [Value.category]) (by decide) (by decide) (by decide) (by decide) (fun v_9 h_7 q_8 => ?_)
    obtain ⟨b_11, rfl, K_12, f_13, f_14, f_15, f_16, f_17, f_18⟩ := q_8
    have ne_o_1_b_11 : o_1 ≠ b_11 := Nat.ne_of_lt (Nat.lt_of_lt_of_le x_o_1.lt f_13)
    have f_19 : Exa Z h_7 o_1 "com/example/index_rank_fuse/indexrankfuse/IntList" := x_o_1.keep K_12
    have sz_22 : n0 ≤ h_7.size := Nat.le_trans sz_4 K_12.1
    show G h_7 2 6 (mkF m 30 #[.val (.int v0), .val (.int v1), .val (.int v2), .val (.int v3), .val (.int v4), .val (.int sl), .val (.int (1 : Int32)), .val (.int i), .unset, .unset, .unset] [(.ref o_1)])
    refine K.astore at_30 (pc' := 32) rfl rfl (L' := #[.val (.int v0), .val (.int v1), .val (.int v2), .val (.int v3), .val (.int v4), .val (.int sl), .val (.int (1 : Int32)), .val (.int i), .val (.ref o_1), .unset, .unset]) rfl ?_
    refine K.iload at_32 (pc' := 34) rfl rfl ?_
    refine K.iconst at_34 (pc' := 35) rfl (z := 1) rfl ?_
    refine K.icmp_lt at_35 (pc1 := 38) rfl (by decide) (pc2 := 44) (by decide) (a := 1) (b := 1) rfl rfl (fun c35 => ?_) (fun c35 => ?_)
    · exfalso; omega
    · refine K.aload at_38 (pc' := 40) rfl rfl rfl ?_
      refine K.iloadN at_40 (pc' := 41) rfl rfl ?_
      refine K.callv (z := (⟨"com/example/index_rank_fuse/indexrankfuse/IntList", "add", "(I)V"⟩ : MethodName)) (argsL := [(.int v0)]) (rest := []) at_41 (pc' := 44) rfl (c_add0 l Z a0 hw n0 h_7 (a := o_1) (v0 := v0) (b := b_11) (x0 := (0 : Int32)) (x1 := (0 : Int32)) (x2 := (0 : Int32)) (x3 := (0 : Int32)) f_19 f_15 f_16 f_17 f_18 ge_o_1 f_14) f_19 (hw _ (List.mem_of_getElem? (i := 13) rfl)) (hw _ (List.mem_of_getElem? (i := 14) rfl)) (nf_sel (hw _ (List.mem_of_getElem? (i := 16) rfl)) rfl) (hw _ (List.mem_of_getElem? (i := 16) rfl)) (hw _ (List.mem_of_getElem? (i := 15) rfl)) (hw _ (List.mem_of_getElem? (i := 3) rfl)) (hw _ (List.mem_of_getElem? (i := 17) rfl)) (by decide) pd_4 rfl rfl (W := 0) (by simp [Value.category]) (by decide) (by decide) (by decide) (by decide) (fun v_25 h_23 q_24 => ?_)
      obtain ⟨rfl, K_27, f_28, f_29, f_30⟩ := q_24
      have f_31 : Exa Z h_23 o_1 "com/example/index_rank_fuse/indexrankfuse/IntList" := f_19.keep K_27
      have sz_35 : n0 ≤ h_23.size := Nat.le_trans sz_22 K_27.1
      show G h_23 2 6 (mkF m 44 #[.val (.int v0), .val (.int v1), .val (.int v2), .val (.int v3), .val (.int v4), .val (.int sl), .val (.int (1 : Int32)), .val (.int i), .val (.ref o_1), .unset, .unset] [])
      refine K.iload at_44 (pc' := 46) rfl rfl ?_
      refine K.iconst at_46 (pc' := 47) rfl (z := 2) rfl ?_
      refine K.icmp_lt at_47 (pc1 := 50) rfl (by decide) (pc2 := 56) (by decide) (a := 1) (b := 2) rfl rfl (fun c47 => ?_) (fun c47 => ?_)
      · refine K.iload at_56 (pc' := 58) rfl rfl ?_
        refine K.iconst at_58 (pc' := 59) rfl (z := 3) rfl ?_
        refine K.icmp_lt at_59 (pc1 := 62) rfl (by decide) (pc2 := 68) (by decide) (a := 1) (b := 3) rfl rfl (fun c59 => ?_) (fun c59 => ?_)
        · refine K.iload at_68 (pc' := 70) rfl rfl ?_
          refine K.iconst at_70 (pc' := 71) rfl (z := 4) rfl ?_
          refine K.icmp_lt at_71 (pc1 := 74) rfl (by decide) (pc2 := 80) (by decide) (a := 1) (b := 4) rfl rfl (fun c71 => ?_) (fun c71 => ?_)
          · refine K.iload at_80 (pc' := 82) rfl rfl ?_
            refine K.iconst at_82 (pc' := 83) rfl (z := 5) rfl ?_
            refine K.icmp_lt at_83 (pc1 := 86) rfl (by decide) (pc2 := 93) (by decide) (a := 1) (b := 5) rfl rfl (fun c83 => ?_) (fun c83 => ?_)
            · refine K.aload at_93 (pc' := 95) rfl rfl rfl ?_
              refine K.iload at_95 (pc' := 97) rfl rfl ?_
              obtain ⟨y, hy, hyv⟩ : ∃ y : Int32, ([(.int v0), (.int (0 : Int32)), (.int (0 : Int32)), (.int (0 : Int32))] : List Value)[i.toInt.toNat]? = some (.int y) ∧ ((i.toInt = 0 → y = v0)) := by
                have q : i.toInt = 0 := by omega
                · rw [q]; exact ⟨_, rfl, by simp⟩
              refine K.callv (z := (⟨"com/example/index_rank_fuse/indexrankfuse/IntList", "get", "(I)I"⟩ : MethodName)) (argsL := [(.int i)]) (rest := []) at_97 (pc' := 100) rfl (c_get l Z a0 hw n0 h_23 (a := o_1) (p := i) (b := b_11) (n := (1 : Int32)) (vs := [(.int v0), (.int (0 : Int32)), (.int (0 : Int32)), (.int (0 : Int32))]) (y := y) f_31 f_28 f_29 f_30 (by constructor <;> (try simp only [Int32.reduceToInt]) <;> omega) hy) f_31 (hw _ (List.mem_of_getElem? (i := 20) rfl)) (hw _ (List.mem_of_getElem? (i := 21) rfl)) (nf_sel (hw _ (List.mem_of_getElem? (i := 23) rfl)) rfl) (hw _ (List.mem_of_getElem? (i := 23) rfl)) (hw _ (List.mem_of_getElem? (i := 22) rfl)) (hw _ (List.mem_of_getElem? (i := 3) rfl)) (hw _ (List.mem_of_getElem? (i := 24) rfl)) (by decide) pd_5 rfl rfl (W := 0) (by simp [Value.category]) (by decide) (by decide) (by decide) (by decide) (fun v_38 h_36 q_37 => ?_)
              obtain ⟨rfl, rfl⟩ := q_37
              show G h_23 2 6 (mkF m 100 #[.val (.int v0), .val (.int v1), .val (.int v2), .val (.int v3), .val (.int v4), .val (.int sl), .val (.int (1 : Int32)), .val (.int i), .val (.ref o_1), .unset, .unset] [(.int y)])
              refine K.istore at_100 (pc' := 102) rfl (L' := #[.val (.int v0), .val (.int v1), .val (.int v2), .val (.int v3), .val (.int v4), .val (.int sl), .val (.int (1 : Int32)), .val (.int i), .val (.ref o_1), .val (.int y), .unset]) rfl ?_
              refine K.aload at_102 (pc' := 104) rfl rfl rfl ?_
              refine K.iload at_104 (pc' := 106) rfl rfl ?_
              refine K.iconst at_106 (pc' := 107) rfl (z := 1) rfl ?_
              refine K.isub at_107 (pc' := 108) rfl (z := (0 : Int32)) (by decide) ?_
              refine K.callv (z := (⟨"com/example/index_rank_fuse/indexrankfuse/IntList", "get", "(I)I"⟩ : MethodName)) (argsL := [(.int (0 : Int32))]) (rest := []) at_108 (pc' := 111) rfl (c_get l Z a0 hw n0 h_23 (a := o_1) (p := (0 : Int32)) (b := b_11) (n := (1 : Int32)) (vs := [(.int v0), (.int (0 : Int32)), (.int (0 : Int32)), (.int (0 : Int32))]) (y := v0) f_31 f_28 f_29 f_30 (by decide) rfl) f_31 (hw _ (List.mem_of_getElem? (i := 20) rfl)) (hw _ (List.mem_of_getElem? (i := 21) rfl)) (nf_sel (hw _ (List.mem_of_getElem? (i := 23) rfl)) rfl) (hw _ (List.mem_of_getElem? (i := 23) rfl)) (hw _ (List.mem_of_getElem? (i := 22) rfl)) (hw _ (List.mem_of_getElem? (i := 3) rfl)) (hw _ (List.mem_of_getElem? (i := 24) rfl)) (by decide) pd_5 rfl rfl (W := 0) (by simp [Value.category]) (by decide) (by decide) (by decide) (by decide) (fun v_42 h_40 q_41 => ?_)
              obtain ⟨rfl, rfl⟩ := q_41
              show G h_23 2 6 (mkF m 111 #[.val (.int v0), .val (.int v1), .val (.int v2), .val (.int v3), .val (.int v4), .val (.int sl), .val (.int (1 : Int32)), .val (.int i), .val (.ref o_1), .val (.int y), .unset] [(.int v0)])
              refine K.istore at_111 (pc' := 113) rfl (L' := #[.val (.int v0), .val (.int v1), .val (.int v2), .val (.int v3), .val (.int v4), .val (.int sl), .val (.int (1 : Int32)), .val (.int i), .val (.ref o_1), .val (.int y), .val (.int v0)]) rfl ?_
              refine K.iload at_113 (pc' := 115) rfl rfl ?_
              refine K.iload at_115 (pc' := 117) rfl rfl ?_
              refine K.iloadN at_117 (pc' := 118) rfl rfl ?_
              refine K.iloadN at_118 (pc' := 119) rfl rfl ?_
              refine K.iloadN at_119 (pc' := 120) rfl rfl ?_
              refine K.iloadN at_120 (pc' := 121) rfl rfl ?_
              refine K.iload at_121 (pc' := 123) rfl rfl ?_
              refine K.calls (argsL := [(.int i), (.int v0), (.int v1), (.int v2), (.int v3), (.int v4)]) (rest := [(.int y)]) at_123 (pc' := 126) rfl (c_nth l Z a0 hw n0 h_23 (i := i) (v0 := v0) (v1 := v1) (v2 := v2) (v3 := v3) (v4 := v4) ) (hw _ (List.mem_of_getElem? (i := 33) rfl)) (hw _ (List.mem_of_getElem? (i := 34) rfl)) (hw _ (List.mem_of_getElem? (i := 35) rfl)) (hw _ (List.mem_of_getElem? (i := 36) rfl)) (by decide) pd_6 rfl rfl (W := 1) (by simp [Value.category]) (by decide) (by decide) (by decide) (by decide) (fun v_46 h_44 q_45 => ?_)
              obtain ⟨nz, rfl, t_nz, rfl⟩ := q_45
              show G h_23 2 6 (mkF m 126 #[.val (.int v0), .val (.int v1), .val (.int v2), .val (.int v3), .val (.int v4), .val (.int sl), .val (.int (1 : Int32)), .val (.int i), .val (.ref o_1), .val (.int y), .val (.int v0)] [(.int nz), (.int y)])
              refine K.icmp_ne at_126 (pc1 := 129) rfl (by decide) (pc2 := 151) (by decide) (a := y.toInt) (b := nz.toInt) rfl rfl (fun c126 => ?_) (fun c126 => ?_)
              · exfalso; apply c126; have q : i.toInt = 0 := by omega
                rw [hyv q, t_nz.1 q]
              · refine K.iload at_129 (pc' := 131) rfl rfl ?_
                refine K.iload at_131 (pc' := 133) rfl rfl ?_
                refine K.iconst at_133 (pc' := 134) rfl (z := 1) rfl ?_
                refine K.isub at_134 (pc' := 135) rfl (z := (0 : Int32)) (by decide) ?_
                refine K.iloadN at_135 (pc' := 136) rfl rfl ?_
                refine K.iloadN at_136 (pc' := 137) rfl rfl ?_
                refine K.iloadN at_137 (pc' := 138) rfl rfl ?_
                refine K.iloadN at_138 (pc' := 139) rfl rfl ?_
                refine K.iload at_139 (pc' := 141) rfl rfl ?_
                refine K.calls (argsL := [(.int (0 : Int32)), (.int v0), (.int v1), (.int v2), (.int v3), (.int v4)]) (rest := [(.int v0)]) at_141 (pc' := 144) rfl (c_nth l Z a0 hw n0 h_23 (i := (0 : Int32)) (v0 := v0) (v1 := v1) (v2 := v2) (v3 := v3) (v4 := v4) ) (hw _ (List.mem_of_getElem? (i := 33) rfl)) (hw _ (List.mem_of_getElem? (i := 34) rfl)) (hw _ (List.mem_of_getElem? (i := 35) rfl)) (hw _ (List.mem_of_getElem? (i := 36) rfl)) (by decide) pd_6 rfl rfl (W := 1) (by simp [Value.category]) (by decide) (by decide) (by decide) (by decide) (fun v_49 h_47 q_48 => ?_)
                obtain ⟨nl, rfl, t_nl, rfl⟩ := q_48
                show G h_23 2 6 (mkF m 144 #[.val (.int v0), .val (.int v1), .val (.int v2), .val (.int v3), .val (.int v4), .val (.int sl), .val (.int (1 : Int32)), .val (.int i), .val (.ref o_1), .val (.int y), .val (.int v0)] [(.int nl), (.int v0)])
                refine K.icmp_ne at_144 (pc1 := 147) rfl (by decide) (pc2 := 151) (by decide) (a := v0.toInt) (b := nl.toInt) rfl rfl (fun c144 => ?_) (fun c144 => ?_)
                · exfalso; apply c144; rw [t_nl.1 rfl]
                · refine K.iconst at_147 (pc' := 148) rfl (z := 1) rfl ?_
                  refine K.goto at_148 (by decide) (pc' := 152) (by decide) ?_
                  exact K.retz at_152 (Or.inr rfl) (by decide) (by decide) rfl
            · exfalso; omega
          · exfalso; omega
        · exfalso; omega
      · exfalso; omega
  · refine K.iload at_11 (pc' := 13) rfl rfl ?_
    refine K.iconst at_13 (pc' := 14) rfl (z := 3) rfl ?_
    obtain ⟨z14, e_z14⟩ : ∃ z, (sl.toUInt32 >>> ((3 : Int32) &&& 31).toUInt32).toInt32 = z := ⟨_, rfl⟩
    have r_z14 : z14.toInt = (sl.toInt % 4294967296) / 8 := by have q := c_iushr sl (3 : Int32) 3 (by decide) (by decide); rw [e_z14] at q; exact q
    refine K.iushr at_14 (pc' := 15) rfl e_z14 ?_
    refine K.ldcI at_15 (pc' := 17) rfl (hw _ (List.mem_of_getElem? (i := 0) rfl)) ?_
    obtain ⟨z17, e_z17⟩ : ∃ z, z14 &&& (2147483647 : Int32) = z := ⟨_, rfl⟩
    have r_z17 : z17.toInt = z14.toInt % 2147483648 := by have q := c_mask z14 (2147483647 : Int32) 31 (by decide) (by decide); rw [e_z17] at q; exact q
    refine K.iand at_17 (pc' := 18) rfl e_z17 ?_
    refine K.iload at_18 (pc' := 20) rfl rfl ?_
    obtain ⟨i, e_i⟩ : ∃ z, z17 % (2 : Int32) = z := ⟨_, rfl⟩
    have r_i : (0 ≤ z17.toInt → i.toInt = z17.toInt % 2) ∧ (z17.toInt < 0 → i.toInt = -((-z17.toInt) % 2)) := by have q := c_irem z17 (2 : Int32) 2 rfl; rw [e_i] at q; exact q
    have t_i : 0 ≤ i.toInt ∧ i.toInt < 2 := by omega
    clear r_i
    refine K.irem at_20 (pc' := 21) rfl (by decide) e_i ?_
    refine K.istore at_21 (pc' := 23) rfl (L' := #[.val (.int v0), .val (.int v1), .val (.int v2), .val (.int v3), .val (.int v4), .val (.int sl), .val (.int (2 : Int32)), .val (.int i), .unset, .unset, .unset]) rfl ?_
    refine K.newo at_23 (pc' := 26) rfl (hw _ (List.mem_of_getElem? (i := 1) rfl)) (hw _ (List.mem_of_getElem? (i := 2) rfl)) (hw _ (List.mem_of_getElem? (i := 3) rfl)) (by decide) (by decide) (fun h_51 o_50 g_o_50 E_52 x_o_50 D_o_50 => ?_)
    have ge_o_50 : n0 ≤ o_50 := g_o_50 ▸ Z0
    have sz_53 : n0 ≤ h_51.size := Nat.le_trans Z0 E_52.1
    have f_54 : Fld Z h_51 o_50 "com/example/index_rank_fuse/indexrankfuse/IntList" "values" "[I" .null := D_o_50 (Or.inl (hw _ (List.mem_of_getElem? (i := 12) rfl))) (ty := (.array .int)) (by decide)
    have f_55 : Fld Z h_51 o_50 "com/example/index_rank_fuse/indexrankfuse/IntList" "size" "I" (.int (0 : Int32)) := D_o_50 (Or.inl (hw _ (List.mem_of_getElem? (i := 19) rfl))) (ty := .int) (by decide)
    refine K.dup at_26 (pc' := 27) rfl rfl ?_
    refine K.callc (argsL := []) (rest := [(.ref o_50)]) at_27 (pc' := 30) rfl rfl (c_new l Z a0 hw n0 h_51 (a := o_50) x_o_50 sz_53 f_54 f_55 ge_o_50) (hw _ (List.mem_of_getElem? (i := 4) rfl)) (hw _ (List.mem_of_getElem? (i := 5) rfl)) (hw _ (List.mem_of_getElem? (i := 3) rfl)) (hw _ (List.mem_of_getElem? (i := 6) rfl)) (by decide) pd_3 rfl rfl (W := 1) (by simp [Value.category]) (by decide) (by decide) (by decide) (by decide) (fun v_58 h_56 q_57 => ?_)
    obtain ⟨b_60, rfl, K_61, f_62, f_63, f_64, f_65, f_66, f_67⟩ := q_57
    have ne_o_50_b_60 : o_50 ≠ b_60 := Nat.ne_of_lt (Nat.lt_of_lt_of_le x_o_50.lt f_62)
    have f_68 : Exa Z h_56 o_50 "com/example/index_rank_fuse/indexrankfuse/IntList" := x_o_50.keep K_61
    have sz_71 : n0 ≤ h_56.size := Nat.le_trans sz_53 K_61.1
    show G h_56 2 6 (mkF m 30 #[.val (.int v0), .val (.int v1), .val (.int v2), .val (.int v3), .val (.int v4), .val (.int sl), .val (.int (2 : Int32)), .val (.int i), .unset, .unset, .unset] [(.ref o_50)])
    refine K.astore at_30 (pc' := 32) rfl rfl (L' := #[.val (.int v0), .val (.int v1), .val (.int v2), .val (.int v3), .val (.int v4), .val (.int sl), .val (.int (2 : Int32)), .val (.int i), .val (.ref o_50), .unset, .unset]) rfl ?_
    refine K.iload at_32 (pc' := 34) rfl rfl ?_
    refine K.iconst at_34 (pc' := 35) rfl (z := 1) rfl ?_
    refine K.icmp_lt at_35 (pc1 := 38) rfl (by decide) (pc2 := 44) (by decide) (a := 2) (b := 1) rfl rfl (fun c35 => ?_) (fun c35 => ?_)
    · exfalso; omega
    · refine K.aload at_38 (pc' := 40) rfl rfl rfl ?_
      refine K.iloadN at_40 (pc' := 41) rfl rfl ?_
      refine K.callv (z := (⟨"com/example/index_rank_fuse/indexrankfuse/IntList", "add", "(I)V"⟩ : MethodName)) (argsL := [(.int v0)]) (rest := []) at_41 (pc' := 44) rfl (c_add0 l Z a0 hw n0 h_56 (a := o_50) (v0 := v0) (b := b_60) (x0 := (0 : Int32)) (x1 := (0 : Int32)) (x2 := (0 : Int32)) (x3 := (0 : Int32)) f_68 f_64 f_65 f_66 f_67 ge_o_50 f_63) f_68 (hw _ (List.mem_of_getElem? (i := 13) rfl)) (hw _ (List.mem_of_getElem? (i := 14) rfl)) (nf_sel (hw _ (List.mem_of_getElem? (i := 16) rfl)) rfl) (hw _ (List.mem_of_getElem? (i := 16) rfl)) (hw _ (List.mem_of_getElem? (i := 15) rfl)) (hw _ (List.mem_of_getElem? (i := 3) rfl)) (hw _ (List.mem_of_getElem? (i := 17) rfl)) (by decide) pd_4 rfl rfl (W := 0) (by simp [Value.category]) (by decide) (by decide) (by decide) (by decide) (fun v_74 h_72 q_73 => ?_)
      obtain ⟨rfl, K_76, f_77, f_78, f_79⟩ := q_73
      have f_80 : Exa Z h_72 o_50 "com/example/index_rank_fuse/indexrankfuse/IntList" := f_68.keep K_76
      have sz_84 : n0 ≤ h_72.size := Nat.le_trans sz_71 K_76.1
      show G h_72 2 6 (mkF m 44 #[.val (.int v0), .val (.int v1), .val (.int v2), .val (.int v3), .val (.int v4), .val (.int sl), .val (.int (2 : Int32)), .val (.int i), .val (.ref o_50), .unset, .unset] [])
      refine K.iload at_44 (pc' := 46) rfl rfl ?_
      refine K.iconst at_46 (pc' := 47) rfl (z := 2) rfl ?_
      refine K.icmp_lt at_47 (pc1 := 50) rfl (by decide) (pc2 := 56) (by decide) (a := 2) (b := 2) rfl rfl (fun c47 => ?_) (fun c47 => ?_)
      · exfalso; omega
      · refine K.aload at_50 (pc' := 52) rfl rfl rfl ?_
        refine K.iloadN at_52 (pc' := 53) rfl rfl ?_
        refine K.callv (z := (⟨"com/example/index_rank_fuse/indexrankfuse/IntList", "add", "(I)V"⟩ : MethodName)) (argsL := [(.int v1)]) (rest := []) at_53 (pc' := 56) rfl (c_add1 l Z a0 hw n0 h_72 (a := o_50) (v0 := v1) (b := b_60) (x0 := v0) (x1 := (0 : Int32)) (x2 := (0 : Int32)) (x3 := (0 : Int32)) f_80 f_77 f_78 f_79 f_67 ge_o_50 f_63) f_80 (hw _ (List.mem_of_getElem? (i := 13) rfl)) (hw _ (List.mem_of_getElem? (i := 14) rfl)) (nf_sel (hw _ (List.mem_of_getElem? (i := 16) rfl)) rfl) (hw _ (List.mem_of_getElem? (i := 16) rfl)) (hw _ (List.mem_of_getElem? (i := 15) rfl)) (hw _ (List.mem_of_getElem? (i := 3) rfl)) (hw _ (List.mem_of_getElem? (i := 17) rfl)) (by decide) pd_4 rfl rfl (W := 0) (by simp [Value.category]) (by decide) (by decide) (by decide) (by decide) (fun v_87 h_85 q_86 => ?_)
        obtain ⟨rfl, K_89, f_90, f_91, f_92⟩ := q_86
        have f_93 : Exa Z h_85 o_50 "com/example/index_rank_fuse/indexrankfuse/IntList" := f_80.keep K_89
        have sz_97 : n0 ≤ h_85.size := Nat.le_trans sz_84 K_89.1
        show G h_85 2 6 (mkF m 56 #[.val (.int v0), .val (.int v1), .val (.int v2), .val (.int v3), .val (.int v4), .val (.int sl), .val (.int (2 : Int32)), .val (.int i), .val (.ref o_50), .unset, .unset] [])
        refine K.iload at_56 (pc' := 58) rfl rfl ?_
        refine K.iconst at_58 (pc' := 59) rfl (z := 3) rfl ?_
        refine K.icmp_lt at_59 (pc1 := 62) rfl (by decide) (pc2 := 68) (by decide) (a := 2) (b := 3) rfl rfl (fun c59 => ?_) (fun c59 => ?_)
        · refine K.iload at_68 (pc' := 70) rfl rfl ?_
          refine K.iconst at_70 (pc' := 71) rfl (z := 4) rfl ?_
          refine K.icmp_lt at_71 (pc1 := 74) rfl (by decide) (pc2 := 80) (by decide) (a := 2) (b := 4) rfl rfl (fun c71 => ?_) (fun c71 => ?_)
          · refine K.iload at_80 (pc' := 82) rfl rfl ?_
            refine K.iconst at_82 (pc' := 83) rfl (z := 5) rfl ?_
            refine K.icmp_lt at_83 (pc1 := 86) rfl (by decide) (pc2 := 93) (by decide) (a := 2) (b := 5) rfl rfl (fun c83 => ?_) (fun c83 => ?_)
            · refine K.aload at_93 (pc' := 95) rfl rfl rfl ?_
              refine K.iload at_95 (pc' := 97) rfl rfl ?_
              obtain ⟨y, hy, hyv⟩ : ∃ y : Int32, ([(.int v0), (.int v1), (.int (0 : Int32)), (.int (0 : Int32))] : List Value)[i.toInt.toNat]? = some (.int y) ∧ ((i.toInt = 0 → y = v0) ∧ (i.toInt = 1 → y = v1)) := by
                rcases (by omega : i.toInt = 0 ∨ i.toInt = 1) with q | q
                · rw [q]; exact ⟨_, rfl, by simp⟩
                · rw [q]; exact ⟨_, rfl, by simp⟩
              refine K.callv (z := (⟨"com/example/index_rank_fuse/indexrankfuse/IntList", "get", "(I)I"⟩ : MethodName)) (argsL := [(.int i)]) (rest := []) at_97 (pc' := 100) rfl (c_get l Z a0 hw n0 h_85 (a := o_50) (p := i) (b := b_60) (n := (2 : Int32)) (vs := [(.int v0), (.int v1), (.int (0 : Int32)), (.int (0 : Int32))]) (y := y) f_93 f_90 f_91 f_92 (by constructor <;> (try simp only [Int32.reduceToInt]) <;> omega) hy) f_93 (hw _ (List.mem_of_getElem? (i := 20) rfl)) (hw _ (List.mem_of_getElem? (i := 21) rfl)) (nf_sel (hw _ (List.mem_of_getElem? (i := 23) rfl)) rfl) (hw _ (List.mem_of_getElem? (i := 23) rfl)) (hw _ (List.mem_of_getElem? (i := 22) rfl)) (hw _ (List.mem_of_getElem? (i := 3) rfl)) (hw _ (List.mem_of_getElem? (i := 24) rfl)) (by decide) pd_5 rfl rfl (W := 0) (by simp [Value.category]) (by decide) (by decide) (by decide) (by decide) (fun v_100 h_98 q_99 => ?_)
              obtain ⟨rfl, rfl⟩ := q_99
              show G h_85 2 6 (mkF m 100 #[.val (.int v0), .val (.int v1), .val (.int v2), .val (.int v3), .val (.int v4), .val (.int sl), .val (.int (2 : Int32)), .val (.int i), .val (.ref o_50), .unset, .unset] [(.int y)])
              refine K.istore at_100 (pc' := 102) rfl (L' := #[.val (.int v0), .val (.int v1), .val (.int v2), .val (.int v3), .val (.int v4), .val (.int sl), .val (.int (2 : Int32)), .val (.int i), .val (.ref o_50), .val (.int y), .unset]) rfl ?_
              refine K.aload at_102 (pc' := 104) rfl rfl rfl ?_
              refine K.iload at_104 (pc' := 106) rfl rfl ?_
              refine K.iconst at_106 (pc' := 107) rfl (z := 1) rfl ?_
              refine K.isub at_107 (pc' := 108) rfl (z := (1 : Int32)) (by decide) ?_
              refine K.callv (z := (⟨"com/example/index_rank_fuse/indexrankfuse/IntList", "get", "(I)I"⟩ : MethodName)) (argsL := [(.int (1 : Int32))]) (rest := []) at_108 (pc' := 111) rfl (c_get l Z a0 hw n0 h_85 (a := o_50) (p := (1 : Int32)) (b := b_60) (n := (2 : Int32)) (vs := [(.int v0), (.int v1), (.int (0 : Int32)), (.int (0 : Int32))]) (y := v1) f_93 f_90 f_91 f_92 (by decide) rfl) f_93 (hw _ (List.mem_of_getElem? (i := 20) rfl)) (hw _ (List.mem_of_getElem? (i := 21) rfl)) (nf_sel (hw _ (List.mem_of_getElem? (i := 23) rfl)) rfl) (hw _ (List.mem_of_getElem? (i := 23) rfl)) (hw _ (List.mem_of_getElem? (i := 22) rfl)) (hw _ (List.mem_of_getElem? (i := 3) rfl)) (hw _ (List.mem_of_getElem? (i := 24) rfl)) (by decide) pd_5 rfl rfl (W := 0) (by simp [Value.category]) (by decide) (by decide) (by decide) (by decide) (fun v_104 h_102 q_103 => ?_)
              obtain ⟨rfl, rfl⟩ := q_103
              show G h_85 2 6 (mkF m 111 #[.val (.int v0), .val (.int v1), .val (.int v2), .val (.int v3), .val (.int v4), .val (.int sl), .val (.int (2 : Int32)), .val (.int i), .val (.ref o_50), .val (.int y), .unset] [(.int v1)])
              refine K.istore at_111 (pc' := 113) rfl (L' := #[.val (.int v0), .val (.int v1), .val (.int v2), .val (.int v3), .val (.int v4), .val (.int sl), .val (.int (2 : Int32)), .val (.int i), .val (.ref o_50), .val (.int y), .val (.int v1)]) rfl ?_
              refine K.iload at_113 (pc' := 115) rfl rfl ?_
              refine K.iload at_115 (pc' := 117) rfl rfl ?_
              refine K.iloadN at_117 (pc' := 118) rfl rfl ?_
              refine K.iloadN at_118 (pc' := 119) rfl rfl ?_
              refine K.iloadN at_119 (pc' := 120) rfl rfl ?_
              refine K.iloadN at_120 (pc' := 121) rfl rfl ?_
              refine K.iload at_121 (pc' := 123) rfl rfl ?_
              refine K.calls (argsL := [(.int i), (.int v0), (.int v1), (.int v2), (.int v3), (.int v4)]) (rest := [(.int y)]) at_123 (pc' := 126) rfl (c_nth l Z a0 hw n0 h_85 (i := i) (v0 := v0) (v1 := v1) (v2 := v2) (v3 := v3) (v4 := v4) ) (hw _ (List.mem_of_getElem? (i := 33) rfl)) (hw _ (List.mem_of_getElem? (i := 34) rfl)) (hw _ (List.mem_of_getElem? (i := 35) rfl)) (hw _ (List.mem_of_getElem? (i := 36) rfl)) (by decide) pd_6 rfl rfl (W := 1) (by simp [Value.category]) (by decide) (by decide) (by decide) (by decide) (fun v_108 h_106 q_107 => ?_)
              obtain ⟨nz, rfl, t_nz, rfl⟩ := q_107
              show G h_85 2 6 (mkF m 126 #[.val (.int v0), .val (.int v1), .val (.int v2), .val (.int v3), .val (.int v4), .val (.int sl), .val (.int (2 : Int32)), .val (.int i), .val (.ref o_50), .val (.int y), .val (.int v1)] [(.int nz), (.int y)])
              refine K.icmp_ne at_126 (pc1 := 129) rfl (by decide) (pc2 := 151) (by decide) (a := y.toInt) (b := nz.toInt) rfl rfl (fun c126 => ?_) (fun c126 => ?_)
              · exfalso; apply c126; rcases (by omega : i.toInt = 0 ∨ i.toInt = 1) with q | q
                · rw [hyv.1 q, t_nz.1 q]
                · rw [hyv.2 q, t_nz.2.1 q]
              · refine K.iload at_129 (pc' := 131) rfl rfl ?_
                refine K.iload at_131 (pc' := 133) rfl rfl ?_
                refine K.iconst at_133 (pc' := 134) rfl (z := 1) rfl ?_
                refine K.isub at_134 (pc' := 135) rfl (z := (1 : Int32)) (by decide) ?_
                refine K.iloadN at_135 (pc' := 136) rfl rfl ?_
                refine K.iloadN at_136 (pc' := 137) rfl rfl ?_
                refine K.iloadN at_137 (pc' := 138) rfl rfl ?_
                refine K.iloadN at_138 (pc' := 139) rfl rfl ?_
                refine K.iload at_139 (pc' := 141) rfl rfl ?_
                refine K.calls (argsL := [(.int (1 : Int32)), (.int v0), (.int v1), (.int v2), (.int v3), (.int v4)]) (rest := [(.int v1)]) at_141 (pc' := 144) rfl (c_nth l Z a0 hw n0 h_85 (i := (1 : Int32)) (v0 := v0) (v1 := v1) (v2 := v2) (v3 := v3) (v4 := v4) ) (hw _ (List.mem_of_getElem? (i := 33) rfl)) (hw _ (List.mem_of_getElem? (i := 34) rfl)) (hw _ (List.mem_of_getElem? (i := 35) rfl)) (hw _ (List.mem_of_getElem? (i := 36) rfl)) (by decide) pd_6 rfl rfl (W := 1) (by simp [Value.category]) (by decide) (by decide) (by decide) (by decide) (fun v_111 h_109 q_110 => ?_)
                obtain ⟨nl, rfl, t_nl, rfl⟩ := q_110
                show G h_85 2 6 (mkF m 144 #[.val (.int v0), .val (.int v1), .val (.int v2), .val (.int v3), .val (.int v4), .val (.int sl), .val (.int (2 : Int32)), .val (.int i), .val (.ref o_50), .val (.int y), .val (.int v1)] [(.int nl), (.int v1)])
                refine K.icmp_ne at_144 (pc1 := 147) rfl (by decide) (pc2 := 151) (by decide) (a := v1.toInt) (b := nl.toInt) rfl rfl (fun c144 => ?_) (fun c144 => ?_)
                · exfalso; apply c144; rw [t_nl.2.1 rfl]
                · refine K.iconst at_147 (pc' := 148) rfl (z := 1) rfl ?_
                  refine K.goto at_148 (by decide) (pc' := 152) (by decide) ?_
                  exact K.retz at_152 (Or.inr rfl) (by decide) (by decide) rfl
            · exfalso; omega
          · exfalso; omega
        · exfalso; omega
  · refine K.iload at_11 (pc' := 13) rfl rfl ?_
    refine K.iconst at_13 (pc' := 14) rfl (z := 3) rfl ?_
    obtain ⟨z14, e_z14⟩ : ∃ z, (sl.toUInt32 >>> ((3 : Int32) &&& 31).toUInt32).toInt32 = z := ⟨_, rfl⟩
    have r_z14 : z14.toInt = (sl.toInt % 4294967296) / 8 := by have q := c_iushr sl (3 : Int32) 3 (by decide) (by decide); rw [e_z14] at q; exact q
    refine K.iushr at_14 (pc' := 15) rfl e_z14 ?_
    refine K.ldcI at_15 (pc' := 17) rfl (hw _ (List.mem_of_getElem? (i := 0) rfl)) ?_
    obtain ⟨z17, e_z17⟩ : ∃ z, z14 &&& (2147483647 : Int32) = z := ⟨_, rfl⟩
    have r_z17 : z17.toInt = z14.toInt % 2147483648 := by have q := c_mask z14 (2147483647 : Int32) 31 (by decide) (by decide); rw [e_z17] at q; exact q
    refine K.iand at_17 (pc' := 18) rfl e_z17 ?_
    refine K.iload at_18 (pc' := 20) rfl rfl ?_
    obtain ⟨i, e_i⟩ : ∃ z, z17 % (3 : Int32) = z := ⟨_, rfl⟩
    have r_i : (0 ≤ z17.toInt → i.toInt = z17.toInt % 3) ∧ (z17.toInt < 0 → i.toInt = -((-z17.toInt) % 3)) := by have q := c_irem z17 (3 : Int32) 3 rfl; rw [e_i] at q; exact q
    have t_i : 0 ≤ i.toInt ∧ i.toInt < 3 := by omega
    clear r_i
    refine K.irem at_20 (pc' := 21) rfl (by decide) e_i ?_
    refine K.istore at_21 (pc' := 23) rfl (L' := #[.val (.int v0), .val (.int v1), .val (.int v2), .val (.int v3), .val (.int v4), .val (.int sl), .val (.int (3 : Int32)), .val (.int i), .unset, .unset, .unset]) rfl ?_
    refine K.newo at_23 (pc' := 26) rfl (hw _ (List.mem_of_getElem? (i := 1) rfl)) (hw _ (List.mem_of_getElem? (i := 2) rfl)) (hw _ (List.mem_of_getElem? (i := 3) rfl)) (by decide) (by decide) (fun h_113 o_112 g_o_112 E_114 x_o_112 D_o_112 => ?_)
    have ge_o_112 : n0 ≤ o_112 := g_o_112 ▸ Z0
    have sz_115 : n0 ≤ h_113.size := Nat.le_trans Z0 E_114.1
    have f_116 : Fld Z h_113 o_112 "com/example/index_rank_fuse/indexrankfuse/IntList" "values" "[I" .null := D_o_112 (Or.inl (hw _ (List.mem_of_getElem? (i := 12) rfl))) (ty := (.array .int)) (by decide)
    have f_117 : Fld Z h_113 o_112 "com/example/index_rank_fuse/indexrankfuse/IntList" "size" "I" (.int (0 : Int32)) := D_o_112 (Or.inl (hw _ (List.mem_of_getElem? (i := 19) rfl))) (ty := .int) (by decide)
    refine K.dup at_26 (pc' := 27) rfl rfl ?_
    refine K.callc (argsL := []) (rest := [(.ref o_112)]) at_27 (pc' := 30) rfl rfl (c_new l Z a0 hw n0 h_113 (a := o_112) x_o_112 sz_115 f_116 f_117 ge_o_112) (hw _ (List.mem_of_getElem? (i := 4) rfl)) (hw _ (List.mem_of_getElem? (i := 5) rfl)) (hw _ (List.mem_of_getElem? (i := 3) rfl)) (hw _ (List.mem_of_getElem? (i := 6) rfl)) (by decide) pd_3 rfl rfl (W := 1) (by simp [Value.category]) (by decide) (by decide) (by decide) (by decide) (fun v_120 h_118 q_119 => ?_)
    obtain ⟨b_122, rfl, K_123, f_124, f_125, f_126, f_127, f_128, f_129⟩ := q_119
    have ne_o_112_b_122 : o_112 ≠ b_122 := Nat.ne_of_lt (Nat.lt_of_lt_of_le x_o_112.lt f_124)
    have f_130 : Exa Z h_118 o_112 "com/example/index_rank_fuse/indexrankfuse/IntList" := x_o_112.keep K_123
    have sz_133 : n0 ≤ h_118.size := Nat.le_trans sz_115 K_123.1
    show G h_118 2 6 (mkF m 30 #[.val (.int v0), .val (.int v1), .val (.int v2), .val (.int v3), .val (.int v4), .val (.int sl), .val (.int (3 : Int32)), .val (.int i), .unset, .unset, .unset] [(.ref o_112)])
    refine K.astore at_30 (pc' := 32) rfl rfl (L' := #[.val (.int v0), .val (.int v1), .val (.int v2), .val (.int v3), .val (.int v4), .val (.int sl), .val (.int (3 : Int32)), .val (.int i), .val (.ref o_112), .unset, .unset]) rfl ?_
    refine K.iload at_32 (pc' := 34) rfl rfl ?_
    refine K.iconst at_34 (pc' := 35) rfl (z := 1) rfl ?_
    refine K.icmp_lt at_35 (pc1 := 38) rfl (by decide) (pc2 := 44) (by decide) (a := 3) (b := 1) rfl rfl (fun c35 => ?_) (fun c35 => ?_)
    · exfalso; omega
    · refine K.aload at_38 (pc' := 40) rfl rfl rfl ?_
      refine K.iloadN at_40 (pc' := 41) rfl rfl ?_
      refine K.callv (z := (⟨"com/example/index_rank_fuse/indexrankfuse/IntList", "add", "(I)V"⟩ : MethodName)) (argsL := [(.int v0)]) (rest := []) at_41 (pc' := 44) rfl (c_add0 l Z a0 hw n0 h_118 (a := o_112) (v0 := v0) (b := b_122) (x0 := (0 : Int32)) (x1 := (0 : Int32)) (x2 := (0 : Int32)) (x3 := (0 : Int32)) f_130 f_126 f_127 f_128 f_129 ge_o_112 f_125) f_130 (hw _ (List.mem_of_getElem? (i := 13) rfl)) (hw _ (List.mem_of_getElem? (i := 14) rfl)) (nf_sel (hw _ (List.mem_of_getElem? (i := 16) rfl)) rfl) (hw _ (List.mem_of_getElem? (i := 16) rfl)) (hw _ (List.mem_of_getElem? (i := 15) rfl)) (hw _ (List.mem_of_getElem? (i := 3) rfl)) (hw _ (List.mem_of_getElem? (i := 17) rfl)) (by decide) pd_4 rfl rfl (W := 0) (by simp [Value.category]) (by decide) (by decide) (by decide) (by decide) (fun v_136 h_134 q_135 => ?_)
      obtain ⟨rfl, K_138, f_139, f_140, f_141⟩ := q_135
      have f_142 : Exa Z h_134 o_112 "com/example/index_rank_fuse/indexrankfuse/IntList" := f_130.keep K_138
      have sz_146 : n0 ≤ h_134.size := Nat.le_trans sz_133 K_138.1
      show G h_134 2 6 (mkF m 44 #[.val (.int v0), .val (.int v1), .val (.int v2), .val (.int v3), .val (.int v4), .val (.int sl), .val (.int (3 : Int32)), .val (.int i), .val (.ref o_112), .unset, .unset] [])
      refine K.iload at_44 (pc' := 46) rfl rfl ?_
      refine K.iconst at_46 (pc' := 47) rfl (z := 2) rfl ?_
      refine K.icmp_lt at_47 (pc1 := 50) rfl (by decide) (pc2 := 56) (by decide) (a := 3) (b := 2) rfl rfl (fun c47 => ?_) (fun c47 => ?_)
      · exfalso; omega
      · refine K.aload at_50 (pc' := 52) rfl rfl rfl ?_
        refine K.iloadN at_52 (pc' := 53) rfl rfl ?_
        refine K.callv (z := (⟨"com/example/index_rank_fuse/indexrankfuse/IntList", "add", "(I)V"⟩ : MethodName)) (argsL := [(.int v1)]) (rest := []) at_53 (pc' := 56) rfl (c_add1 l Z a0 hw n0 h_134 (a := o_112) (v0 := v1) (b := b_122) (x0 := v0) (x1 := (0 : Int32)) (x2 := (0 : Int32)) (x3 := (0 : Int32)) f_142 f_139 f_140 f_141 f_129 ge_o_112 f_125) f_142 (hw _ (List.mem_of_getElem? (i := 13) rfl)) (hw _ (List.mem_of_getElem? (i := 14) rfl)) (nf_sel (hw _ (List.mem_of_getElem? (i := 16) rfl)) rfl) (hw _ (List.mem_of_getElem? (i := 16) rfl)) (hw _ (List.mem_of_getElem? (i := 15) rfl)) (hw _ (List.mem_of_getElem? (i := 3) rfl)) (hw _ (List.mem_of_getElem? (i := 17) rfl)) (by decide) pd_4 rfl rfl (W := 0) (by simp [Value.category]) (by decide) (by decide) (by decide) (by decide) (fun v_149 h_147 q_148 => ?_)
        obtain ⟨rfl, K_151, f_152, f_153, f_154⟩ := q_148
        have f_155 : Exa Z h_147 o_112 "com/example/index_rank_fuse/indexrankfuse/IntList" := f_142.keep K_151
        have sz_159 : n0 ≤ h_147.size := Nat.le_trans sz_146 K_151.1
        show G h_147 2 6 (mkF m 56 #[.val (.int v0), .val (.int v1), .val (.int v2), .val (.int v3), .val (.int v4), .val (.int sl), .val (.int (3 : Int32)), .val (.int i), .val (.ref o_112), .unset, .unset] [])
        refine K.iload at_56 (pc' := 58) rfl rfl ?_
        refine K.iconst at_58 (pc' := 59) rfl (z := 3) rfl ?_
        refine K.icmp_lt at_59 (pc1 := 62) rfl (by decide) (pc2 := 68) (by decide) (a := 3) (b := 3) rfl rfl (fun c59 => ?_) (fun c59 => ?_)
        · exfalso; omega
        · refine K.aload at_62 (pc' := 64) rfl rfl rfl ?_
          refine K.iloadN at_64 (pc' := 65) rfl rfl ?_
          refine K.callv (z := (⟨"com/example/index_rank_fuse/indexrankfuse/IntList", "add", "(I)V"⟩ : MethodName)) (argsL := [(.int v2)]) (rest := []) at_65 (pc' := 68) rfl (c_add2 l Z a0 hw n0 h_147 (a := o_112) (v0 := v2) (b := b_122) (x0 := v0) (x1 := v1) (x2 := (0 : Int32)) (x3 := (0 : Int32)) f_155 f_152 f_153 f_154 f_129 ge_o_112 f_125) f_155 (hw _ (List.mem_of_getElem? (i := 13) rfl)) (hw _ (List.mem_of_getElem? (i := 14) rfl)) (nf_sel (hw _ (List.mem_of_getElem? (i := 16) rfl)) rfl) (hw _ (List.mem_of_getElem? (i := 16) rfl)) (hw _ (List.mem_of_getElem? (i := 15) rfl)) (hw _ (List.mem_of_getElem? (i := 3) rfl)) (hw _ (List.mem_of_getElem? (i := 17) rfl)) (by decide) pd_4 rfl rfl (W := 0) (by simp [Value.category]) (by decide) (by decide) (by decide) (by decide) (fun v_162 h_160 q_161 => ?_)
          obtain ⟨rfl, K_164, f_165, f_166, f_167⟩ := q_161
          have f_168 : Exa Z h_160 o_112 "com/example/index_rank_fuse/indexrankfuse/IntList" := f_155.keep K_164
          have sz_172 : n0 ≤ h_160.size := Nat.le_trans sz_159 K_164.1
          show G h_160 2 6 (mkF m 68 #[.val (.int v0), .val (.int v1), .val (.int v2), .val (.int v3), .val (.int v4), .val (.int sl), .val (.int (3 : Int32)), .val (.int i), .val (.ref o_112), .unset, .unset] [])
          refine K.iload at_68 (pc' := 70) rfl rfl ?_
          refine K.iconst at_70 (pc' := 71) rfl (z := 4) rfl ?_
          refine K.icmp_lt at_71 (pc1 := 74) rfl (by decide) (pc2 := 80) (by decide) (a := 3) (b := 4) rfl rfl (fun c71 => ?_) (fun c71 => ?_)
          · refine K.iload at_80 (pc' := 82) rfl rfl ?_
            refine K.iconst at_82 (pc' := 83) rfl (z := 5) rfl ?_
            refine K.icmp_lt at_83 (pc1 := 86) rfl (by decide) (pc2 := 93) (by decide) (a := 3) (b := 5) rfl rfl (fun c83 => ?_) (fun c83 => ?_)
            · refine K.aload at_93 (pc' := 95) rfl rfl rfl ?_
              refine K.iload at_95 (pc' := 97) rfl rfl ?_
              obtain ⟨y, hy, hyv⟩ : ∃ y : Int32, ([(.int v0), (.int v1), (.int v2), (.int (0 : Int32))] : List Value)[i.toInt.toNat]? = some (.int y) ∧ ((i.toInt = 0 → y = v0) ∧ (i.toInt = 1 → y = v1) ∧ (i.toInt = 2 → y = v2)) := by
                rcases (by omega : i.toInt = 0 ∨ i.toInt = 1 ∨ i.toInt = 2) with q | q | q
                · rw [q]; exact ⟨_, rfl, by simp⟩
                · rw [q]; exact ⟨_, rfl, by simp⟩
                · rw [q]; exact ⟨_, rfl, by simp⟩
              refine K.callv (z := (⟨"com/example/index_rank_fuse/indexrankfuse/IntList", "get", "(I)I"⟩ : MethodName)) (argsL := [(.int i)]) (rest := []) at_97 (pc' := 100) rfl (c_get l Z a0 hw n0 h_160 (a := o_112) (p := i) (b := b_122) (n := (3 : Int32)) (vs := [(.int v0), (.int v1), (.int v2), (.int (0 : Int32))]) (y := y) f_168 f_165 f_166 f_167 (by constructor <;> (try simp only [Int32.reduceToInt]) <;> omega) hy) f_168 (hw _ (List.mem_of_getElem? (i := 20) rfl)) (hw _ (List.mem_of_getElem? (i := 21) rfl)) (nf_sel (hw _ (List.mem_of_getElem? (i := 23) rfl)) rfl) (hw _ (List.mem_of_getElem? (i := 23) rfl)) (hw _ (List.mem_of_getElem? (i := 22) rfl)) (hw _ (List.mem_of_getElem? (i := 3) rfl)) (hw _ (List.mem_of_getElem? (i := 24) rfl)) (by decide) pd_5 rfl rfl (W := 0) (by simp [Value.category]) (by decide) (by decide) (by decide) (by decide) (fun v_175 h_173 q_174 => ?_)
              obtain ⟨rfl, rfl⟩ := q_174
              show G h_160 2 6 (mkF m 100 #[.val (.int v0), .val (.int v1), .val (.int v2), .val (.int v3), .val (.int v4), .val (.int sl), .val (.int (3 : Int32)), .val (.int i), .val (.ref o_112), .unset, .unset] [(.int y)])
              refine K.istore at_100 (pc' := 102) rfl (L' := #[.val (.int v0), .val (.int v1), .val (.int v2), .val (.int v3), .val (.int v4), .val (.int sl), .val (.int (3 : Int32)), .val (.int i), .val (.ref o_112), .val (.int y), .unset]) rfl ?_
              refine K.aload at_102 (pc' := 104) rfl rfl rfl ?_
              refine K.iload at_104 (pc' := 106) rfl rfl ?_
              refine K.iconst at_106 (pc' := 107) rfl (z := 1) rfl ?_
              refine K.isub at_107 (pc' := 108) rfl (z := (2 : Int32)) (by decide) ?_
              refine K.callv (z := (⟨"com/example/index_rank_fuse/indexrankfuse/IntList", "get", "(I)I"⟩ : MethodName)) (argsL := [(.int (2 : Int32))]) (rest := []) at_108 (pc' := 111) rfl (c_get l Z a0 hw n0 h_160 (a := o_112) (p := (2 : Int32)) (b := b_122) (n := (3 : Int32)) (vs := [(.int v0), (.int v1), (.int v2), (.int (0 : Int32))]) (y := v2) f_168 f_165 f_166 f_167 (by decide) rfl) f_168 (hw _ (List.mem_of_getElem? (i := 20) rfl)) (hw _ (List.mem_of_getElem? (i := 21) rfl)) (nf_sel (hw _ (List.mem_of_getElem? (i := 23) rfl)) rfl) (hw _ (List.mem_of_getElem? (i := 23) rfl)) (hw _ (List.mem_of_getElem? (i := 22) rfl)) (hw _ (List.mem_of_getElem? (i := 3) rfl)) (hw _ (List.mem_of_getElem? (i := 24) rfl)) (by decide) pd_5 rfl rfl (W := 0) (by simp [Value.category]) (by decide) (by decide) (by decide) (by decide) (fun v_179 h_177 q_178 => ?_)
              obtain ⟨rfl, rfl⟩ := q_178
              show G h_160 2 6 (mkF m 111 #[.val (.int v0), .val (.int v1), .val (.int v2), .val (.int v3), .val (.int v4), .val (.int sl), .val (.int (3 : Int32)), .val (.int i), .val (.ref o_112), .val (.int y), .unset] [(.int v2)])
              refine K.istore at_111 (pc' := 113) rfl (L' := #[.val (.int v0), .val (.int v1), .val (.int v2), .val (.int v3), .val (.int v4), .val (.int sl), .val (.int (3 : Int32)), .val (.int i), .val (.ref o_112), .val (.int y), .val (.int v2)]) rfl ?_
              refine K.iload at_113 (pc' := 115) rfl rfl ?_
              refine K.iload at_115 (pc' := 117) rfl rfl ?_
              refine K.iloadN at_117 (pc' := 118) rfl rfl ?_
              refine K.iloadN at_118 (pc' := 119) rfl rfl ?_
              refine K.iloadN at_119 (pc' := 120) rfl rfl ?_
              refine K.iloadN at_120 (pc' := 121) rfl rfl ?_
              refine K.iload at_121 (pc' := 123) rfl rfl ?_
              refine K.calls (argsL := [(.int i), (.int v0), (.int v1), (.int v2), (.int v3), (.int v4)]) (rest := [(.int y)]) at_123 (pc' := 126) rfl (c_nth l Z a0 hw n0 h_160 (i := i) (v0 := v0) (v1 := v1) (v2 := v2) (v3 := v3) (v4 := v4) ) (hw _ (List.mem_of_getElem? (i := 33) rfl)) (hw _ (List.mem_of_getElem? (i := 34) rfl)) (hw _ (List.mem_of_getElem? (i := 35) rfl)) (hw _ (List.mem_of_getElem? (i := 36) rfl)) (by decide) pd_6 rfl rfl (W := 1) (by simp [Value.category]) (by decide) (by decide) (by decide) (by decide) (fun v_183 h_181 q_182 => ?_)
              obtain ⟨nz, rfl, t_nz, rfl⟩ := q_182
              show G h_160 2 6 (mkF m 126 #[.val (.int v0), .val (.int v1), .val (.int v2), .val (.int v3), .val (.int v4), .val (.int sl), .val (.int (3 : Int32)), .val (.int i), .val (.ref o_112), .val (.int y), .val (.int v2)] [(.int nz), (.int y)])
              refine K.icmp_ne at_126 (pc1 := 129) rfl (by decide) (pc2 := 151) (by decide) (a := y.toInt) (b := nz.toInt) rfl rfl (fun c126 => ?_) (fun c126 => ?_)
              · exfalso; apply c126; rcases (by omega : i.toInt = 0 ∨ i.toInt = 1 ∨ i.toInt = 2) with q | q | q
                · rw [hyv.1 q, t_nz.1 q]
                · rw [hyv.2.1 q, t_nz.2.1 q]
                · rw [hyv.2.2 q, t_nz.2.2.1 q]
              · refine K.iload at_129 (pc' := 131) rfl rfl ?_
                refine K.iload at_131 (pc' := 133) rfl rfl ?_
                refine K.iconst at_133 (pc' := 134) rfl (z := 1) rfl ?_
                refine K.isub at_134 (pc' := 135) rfl (z := (2 : Int32)) (by decide) ?_
                refine K.iloadN at_135 (pc' := 136) rfl rfl ?_
                refine K.iloadN at_136 (pc' := 137) rfl rfl ?_
                refine K.iloadN at_137 (pc' := 138) rfl rfl ?_
                refine K.iloadN at_138 (pc' := 139) rfl rfl ?_
                refine K.iload at_139 (pc' := 141) rfl rfl ?_
                refine K.calls (argsL := [(.int (2 : Int32)), (.int v0), (.int v1), (.int v2), (.int v3), (.int v4)]) (rest := [(.int v2)]) at_141 (pc' := 144) rfl (c_nth l Z a0 hw n0 h_160 (i := (2 : Int32)) (v0 := v0) (v1 := v1) (v2 := v2) (v3 := v3) (v4 := v4) ) (hw _ (List.mem_of_getElem? (i := 33) rfl)) (hw _ (List.mem_of_getElem? (i := 34) rfl)) (hw _ (List.mem_of_getElem? (i := 35) rfl)) (hw _ (List.mem_of_getElem? (i := 36) rfl)) (by decide) pd_6 rfl rfl (W := 1) (by simp [Value.category]) (by decide) (by decide) (by decide) (by decide) (fun v_186 h_184 q_185 => ?_)
                obtain ⟨nl, rfl, t_nl, rfl⟩ := q_185
                show G h_160 2 6 (mkF m 144 #[.val (.int v0), .val (.int v1), .val (.int v2), .val (.int v3), .val (.int v4), .val (.int sl), .val (.int (3 : Int32)), .val (.int i), .val (.ref o_112), .val (.int y), .val (.int v2)] [(.int nl), (.int v2)])
                refine K.icmp_ne at_144 (pc1 := 147) rfl (by decide) (pc2 := 151) (by decide) (a := v2.toInt) (b := nl.toInt) rfl rfl (fun c144 => ?_) (fun c144 => ?_)
                · exfalso; apply c144; rw [t_nl.2.2.1 rfl]
                · refine K.iconst at_147 (pc' := 148) rfl (z := 1) rfl ?_
                  refine K.goto at_148 (by decide) (pc' := 152) (by decide) ?_
                  exact K.retz at_152 (Or.inr rfl) (by decide) (by decide) rfl
            · exfalso; omega
          · exfalso; omega
  · refine K.iload at_11 (pc' := 13) rfl rfl ?_
    refine K.iconst at_13 (pc' := 14) rfl (z := 3) rfl ?_
    obtain ⟨z14, e_z14⟩ : ∃ z, (sl.toUInt32 >>> ((3 : Int32) &&& 31).toUInt32).toInt32 = z := ⟨_, rfl⟩
    have r_z14 : z14.toInt = (sl.toInt % 4294967296) / 8 := by have q := c_iushr sl (3 : Int32) 3 (by decide) (by decide); rw [e_z14] at q; exact q
    refine K.iushr at_14 (pc' := 15) rfl e_z14 ?_
    refine K.ldcI at_15 (pc' := 17) rfl (hw _ (List.mem_of_getElem? (i := 0) rfl)) ?_
    obtain ⟨z17, e_z17⟩ : ∃ z, z14 &&& (2147483647 : Int32) = z := ⟨_, rfl⟩
    have r_z17 : z17.toInt = z14.toInt % 2147483648 := by have q := c_mask z14 (2147483647 : Int32) 31 (by decide) (by decide); rw [e_z17] at q; exact q
    refine K.iand at_17 (pc' := 18) rfl e_z17 ?_
    refine K.iload at_18 (pc' := 20) rfl rfl ?_
    obtain ⟨i, e_i⟩ : ∃ z, z17 % (4 : Int32) = z := ⟨_, rfl⟩
    have r_i : (0 ≤ z17.toInt → i.toInt = z17.toInt % 4) ∧ (z17.toInt < 0 → i.toInt = -((-z17.toInt) % 4)) := by have q := c_irem z17 (4 : Int32) 4 rfl; rw [e_i] at q; exact q
    have t_i : 0 ≤ i.toInt ∧ i.toInt < 4 := by omega
    clear r_i
    refine K.irem at_20 (pc' := 21) rfl (by decide) e_i ?_
    refine K.istore at_21 (pc' := 23) rfl (L' := #[.val (.int v0), .val (.int v1), .val (.int v2), .val (.int v3), .val (.int v4), .val (.int sl), .val (.int (4 : Int32)), .val (.int i), .unset, .unset, .unset]) rfl ?_
    refine K.newo at_23 (pc' := 26) rfl (hw _ (List.mem_of_getElem? (i := 1) rfl)) (hw _ (List.mem_of_getElem? (i := 2) rfl)) (hw _ (List.mem_of_getElem? (i := 3) rfl)) (by decide) (by decide) (fun h_188 o_187 g_o_187 E_189 x_o_187 D_o_187 => ?_)
    have ge_o_187 : n0 ≤ o_187 := g_o_187 ▸ Z0
    have sz_190 : n0 ≤ h_188.size := Nat.le_trans Z0 E_189.1
    have f_191 : Fld Z h_188 o_187 "com/example/index_rank_fuse/indexrankfuse/IntList" "values" "[I" .null := D_o_187 (Or.inl (hw _ (List.mem_of_getElem? (i := 12) rfl))) (ty := (.array .int)) (by decide)
    have f_192 : Fld Z h_188 o_187 "com/example/index_rank_fuse/indexrankfuse/IntList" "size" "I" (.int (0 : Int32)) := D_o_187 (Or.inl (hw _ (List.mem_of_getElem? (i := 19) rfl))) (ty := .int) (by decide)
    refine K.dup at_26 (pc' := 27) rfl rfl ?_
    refine K.callc (argsL := []) (rest := [(.ref o_187)]) at_27 (pc' := 30) rfl rfl (c_new l Z a0 hw n0 h_188 (a := o_187) x_o_187 sz_190 f_191 f_192 ge_o_187) (hw _ (List.mem_of_getElem? (i := 4) rfl)) (hw _ (List.mem_of_getElem? (i := 5) rfl)) (hw _ (List.mem_of_getElem? (i := 3) rfl)) (hw _ (List.mem_of_getElem? (i := 6) rfl)) (by decide) pd_3 rfl rfl (W := 1) (by simp [Value.category]) (by decide) (by decide) (by decide) (by decide) (fun v_195 h_193 q_194 => ?_)
    obtain ⟨b_197, rfl, K_198, f_199, f_200, f_201, f_202, f_203, f_204⟩ := q_194
    have ne_o_187_b_197 : o_187 ≠ b_197 := Nat.ne_of_lt (Nat.lt_of_lt_of_le x_o_187.lt f_199)
    have f_205 : Exa Z h_193 o_187 "com/example/index_rank_fuse/indexrankfuse/IntList" := x_o_187.keep K_198
    have sz_208 : n0 ≤ h_193.size := Nat.le_trans sz_190 K_198.1
    show G h_193 2 6 (mkF m 30 #[.val (.int v0), .val (.int v1), .val (.int v2), .val (.int v3), .val (.int v4), .val (.int sl), .val (.int (4 : Int32)), .val (.int i), .unset, .unset, .unset] [(.ref o_187)])
    refine K.astore at_30 (pc' := 32) rfl rfl (L' := #[.val (.int v0), .val (.int v1), .val (.int v2), .val (.int v3), .val (.int v4), .val (.int sl), .val (.int (4 : Int32)), .val (.int i), .val (.ref o_187), .unset, .unset]) rfl ?_
    refine K.iload at_32 (pc' := 34) rfl rfl ?_
    refine K.iconst at_34 (pc' := 35) rfl (z := 1) rfl ?_
    refine K.icmp_lt at_35 (pc1 := 38) rfl (by decide) (pc2 := 44) (by decide) (a := 4) (b := 1) rfl rfl (fun c35 => ?_) (fun c35 => ?_)
    · exfalso; omega
    · refine K.aload at_38 (pc' := 40) rfl rfl rfl ?_
      refine K.iloadN at_40 (pc' := 41) rfl rfl ?_
      refine K.callv (z := (⟨"com/example/index_rank_fuse/indexrankfuse/IntList", "add", "(I)V"⟩ : MethodName)) (argsL := [(.int v0)]) (rest := []) at_41 (pc' := 44) rfl (c_add0 l Z a0 hw n0 h_193 (a := o_187) (v0 := v0) (b := b_197) (x0 := (0 : Int32)) (x1 := (0 : Int32)) (x2 := (0 : Int32)) (x3 := (0 : Int32)) f_205 f_201 f_202 f_203 f_204 ge_o_187 f_200) f_205 (hw _ (List.mem_of_getElem? (i := 13) rfl)) (hw _ (List.mem_of_getElem? (i := 14) rfl)) (nf_sel (hw _ (List.mem_of_getElem? (i := 16) rfl)) rfl) (hw _ (List.mem_of_getElem? (i := 16) rfl)) (hw _ (List.mem_of_getElem? (i := 15) rfl)) (hw _ (List.mem_of_getElem? (i := 3) rfl)) (hw _ (List.mem_of_getElem? (i := 17) rfl)) (by decide) pd_4 rfl rfl (W := 0) (by simp [Value.category]) (by decide) (by decide) (by decide) (by decide) (fun v_211 h_209 q_210 => ?_)
      obtain ⟨rfl, K_213, f_214, f_215, f_216⟩ := q_210
      have f_217 : Exa Z h_209 o_187 "com/example/index_rank_fuse/indexrankfuse/IntList" := f_205.keep K_213
      have sz_221 : n0 ≤ h_209.size := Nat.le_trans sz_208 K_213.1
      show G h_209 2 6 (mkF m 44 #[.val (.int v0), .val (.int v1), .val (.int v2), .val (.int v3), .val (.int v4), .val (.int sl), .val (.int (4 : Int32)), .val (.int i), .val (.ref o_187), .unset, .unset] [])
      refine K.iload at_44 (pc' := 46) rfl rfl ?_
      refine K.iconst at_46 (pc' := 47) rfl (z := 2) rfl ?_
      refine K.icmp_lt at_47 (pc1 := 50) rfl (by decide) (pc2 := 56) (by decide) (a := 4) (b := 2) rfl rfl (fun c47 => ?_) (fun c47 => ?_)
      · exfalso; omega
      · refine K.aload at_50 (pc' := 52) rfl rfl rfl ?_
        refine K.iloadN at_52 (pc' := 53) rfl rfl ?_
        refine K.callv (z := (⟨"com/example/index_rank_fuse/indexrankfuse/IntList", "add", "(I)V"⟩ : MethodName)) (argsL := [(.int v1)]) (rest := []) at_53 (pc' := 56) rfl (c_add1 l Z a0 hw n0 h_209 (a := o_187) (v0 := v1) (b := b_197) (x0 := v0) (x1 := (0 : Int32)) (x2 := (0 : Int32)) (x3 := (0 : Int32)) f_217 f_214 f_215 f_216 f_204 ge_o_187 f_200) f_217 (hw _ (List.mem_of_getElem? (i := 13) rfl)) (hw _ (List.mem_of_getElem? (i := 14) rfl)) (nf_sel (hw _ (List.mem_of_getElem? (i := 16) rfl)) rfl) (hw _ (List.mem_of_getElem? (i := 16) rfl)) (hw _ (List.mem_of_getElem? (i := 15) rfl)) (hw _ (List.mem_of_getElem? (i := 3) rfl)) (hw _ (List.mem_of_getElem? (i := 17) rfl)) (by decide) pd_4 rfl rfl (W := 0) (by simp [Value.category]) (by decide) (by decide) (by decide) (by decide) (fun v_224 h_222 q_223 => ?_)
        obtain ⟨rfl, K_226, f_227, f_228, f_229⟩ := q_223
        have f_230 : Exa Z h_222 o_187 "com/example/index_rank_fuse/indexrankfuse/IntList" := f_217.keep K_226
        have sz_234 : n0 ≤ h_222.size := Nat.le_trans sz_221 K_226.1
        show G h_222 2 6 (mkF m 56 #[.val (.int v0), .val (.int v1), .val (.int v2), .val (.int v3), .val (.int v4), .val (.int sl), .val (.int (4 : Int32)), .val (.int i), .val (.ref o_187), .unset, .unset] [])
        refine K.iload at_56 (pc' := 58) rfl rfl ?_
        refine K.iconst at_58 (pc' := 59) rfl (z := 3) rfl ?_
        refine K.icmp_lt at_59 (pc1 := 62) rfl (by decide) (pc2 := 68) (by decide) (a := 4) (b := 3) rfl rfl (fun c59 => ?_) (fun c59 => ?_)
        · exfalso; omega
        · refine K.aload at_62 (pc' := 64) rfl rfl rfl ?_
          refine K.iloadN at_64 (pc' := 65) rfl rfl ?_
          refine K.callv (z := (⟨"com/example/index_rank_fuse/indexrankfuse/IntList", "add", "(I)V"⟩ : MethodName)) (argsL := [(.int v2)]) (rest := []) at_65 (pc' := 68) rfl (c_add2 l Z a0 hw n0 h_222 (a := o_187) (v0 := v2) (b := b_197) (x0 := v0) (x1 := v1) (x2 := (0 : Int32)) (x3 := (0 : Int32)) f_230 f_227 f_228 f_229 f_204 ge_o_187 f_200) f_230 (hw _ (List.mem_of_getElem? (i := 13) rfl)) (hw _ (List.mem_of_getElem? (i := 14) rfl)) (nf_sel (hw _ (List.mem_of_getElem? (i := 16) rfl)) rfl) (hw _ (List.mem_of_getElem? (i := 16) rfl)) (hw _ (List.mem_of_getElem? (i := 15) rfl)) (hw _ (List.mem_of_getElem? (i := 3) rfl)) (hw _ (List.mem_of_getElem? (i := 17) rfl)) (by decide) pd_4 rfl rfl (W := 0) (by simp [Value.category]) (by decide) (by decide) (by decide) (by decide) (fun v_237 h_235 q_236 => ?_)
          obtain ⟨rfl, K_239, f_240, f_241, f_242⟩ := q_236
          have f_243 : Exa Z h_235 o_187 "com/example/index_rank_fuse/indexrankfuse/IntList" := f_230.keep K_239
          have sz_247 : n0 ≤ h_235.size := Nat.le_trans sz_234 K_239.1
          show G h_235 2 6 (mkF m 68 #[.val (.int v0), .val (.int v1), .val (.int v2), .val (.int v3), .val (.int v4), .val (.int sl), .val (.int (4 : Int32)), .val (.int i), .val (.ref o_187), .unset, .unset] [])
          refine K.iload at_68 (pc' := 70) rfl rfl ?_
          refine K.iconst at_70 (pc' := 71) rfl (z := 4) rfl ?_
          refine K.icmp_lt at_71 (pc1 := 74) rfl (by decide) (pc2 := 80) (by decide) (a := 4) (b := 4) rfl rfl (fun c71 => ?_) (fun c71 => ?_)
          · exfalso; omega
          · refine K.aload at_74 (pc' := 76) rfl rfl rfl ?_
            refine K.iloadN at_76 (pc' := 77) rfl rfl ?_
            refine K.callv (z := (⟨"com/example/index_rank_fuse/indexrankfuse/IntList", "add", "(I)V"⟩ : MethodName)) (argsL := [(.int v3)]) (rest := []) at_77 (pc' := 80) rfl (c_add3 l Z a0 hw n0 h_235 (a := o_187) (v0 := v3) (b := b_197) (x0 := v0) (x1 := v1) (x2 := v2) (x3 := (0 : Int32)) f_243 f_240 f_241 f_242 f_204 ge_o_187 f_200) f_243 (hw _ (List.mem_of_getElem? (i := 13) rfl)) (hw _ (List.mem_of_getElem? (i := 14) rfl)) (nf_sel (hw _ (List.mem_of_getElem? (i := 16) rfl)) rfl) (hw _ (List.mem_of_getElem? (i := 16) rfl)) (hw _ (List.mem_of_getElem? (i := 15) rfl)) (hw _ (List.mem_of_getElem? (i := 3) rfl)) (hw _ (List.mem_of_getElem? (i := 17) rfl)) (by decide) pd_4 rfl rfl (W := 0) (by simp [Value.category]) (by decide) (by decide) (by decide) (by decide) (fun v_250 h_248 q_249 => ?_)
            obtain ⟨rfl, K_252, f_253, f_254, f_255⟩ := q_249
            have f_256 : Exa Z h_248 o_187 "com/example/index_rank_fuse/indexrankfuse/IntList" := f_243.keep K_252
            have sz_260 : n0 ≤ h_248.size := Nat.le_trans sz_247 K_252.1
            show G h_248 2 6 (mkF m 80 #[.val (.int v0), .val (.int v1), .val (.int v2), .val (.int v3), .val (.int v4), .val (.int sl), .val (.int (4 : Int32)), .val (.int i), .val (.ref o_187), .unset, .unset] [])
            refine K.iload at_80 (pc' := 82) rfl rfl ?_
            refine K.iconst at_82 (pc' := 83) rfl (z := 5) rfl ?_
            refine K.icmp_lt at_83 (pc1 := 86) rfl (by decide) (pc2 := 93) (by decide) (a := 4) (b := 5) rfl rfl (fun c83 => ?_) (fun c83 => ?_)
            · refine K.aload at_93 (pc' := 95) rfl rfl rfl ?_
              refine K.iload at_95 (pc' := 97) rfl rfl ?_
              obtain ⟨y, hy, hyv⟩ : ∃ y : Int32, ([(.int v0), (.int v1), (.int v2), (.int v3)] : List Value)[i.toInt.toNat]? = some (.int y) ∧ ((i.toInt = 0 → y = v0) ∧ (i.toInt = 1 → y = v1) ∧ (i.toInt = 2 → y = v2) ∧ (i.toInt = 3 → y = v3)) := by
                rcases (by omega : i.toInt = 0 ∨ i.toInt = 1 ∨ i.toInt = 2 ∨ i.toInt = 3) with q | q | q | q
                · rw [q]; exact ⟨_, rfl, by simp⟩
                · rw [q]; exact ⟨_, rfl, by simp⟩
                · rw [q]; exact ⟨_, rfl, by simp⟩
                · rw [q]; exact ⟨_, rfl, by simp⟩
              refine K.callv (z := (⟨"com/example/index_rank_fuse/indexrankfuse/IntList", "get", "(I)I"⟩ : MethodName)) (argsL := [(.int i)]) (rest := []) at_97 (pc' := 100) rfl (c_get l Z a0 hw n0 h_248 (a := o_187) (p := i) (b := b_197) (n := (4 : Int32)) (vs := [(.int v0), (.int v1), (.int v2), (.int v3)]) (y := y) f_256 f_253 f_254 f_255 (by constructor <;> (try simp only [Int32.reduceToInt]) <;> omega) hy) f_256 (hw _ (List.mem_of_getElem? (i := 20) rfl)) (hw _ (List.mem_of_getElem? (i := 21) rfl)) (nf_sel (hw _ (List.mem_of_getElem? (i := 23) rfl)) rfl) (hw _ (List.mem_of_getElem? (i := 23) rfl)) (hw _ (List.mem_of_getElem? (i := 22) rfl)) (hw _ (List.mem_of_getElem? (i := 3) rfl)) (hw _ (List.mem_of_getElem? (i := 24) rfl)) (by decide) pd_5 rfl rfl (W := 0) (by simp [Value.category]) (by decide) (by decide) (by decide) (by decide) (fun v_263 h_261 q_262 => ?_)
              obtain ⟨rfl, rfl⟩ := q_262
              show G h_248 2 6 (mkF m 100 #[.val (.int v0), .val (.int v1), .val (.int v2), .val (.int v3), .val (.int v4), .val (.int sl), .val (.int (4 : Int32)), .val (.int i), .val (.ref o_187), .unset, .unset] [(.int y)])
              refine K.istore at_100 (pc' := 102) rfl (L' := #[.val (.int v0), .val (.int v1), .val (.int v2), .val (.int v3), .val (.int v4), .val (.int sl), .val (.int (4 : Int32)), .val (.int i), .val (.ref o_187), .val (.int y), .unset]) rfl ?_
              refine K.aload at_102 (pc' := 104) rfl rfl rfl ?_
              refine K.iload at_104 (pc' := 106) rfl rfl ?_
              refine K.iconst at_106 (pc' := 107) rfl (z := 1) rfl ?_
              refine K.isub at_107 (pc' := 108) rfl (z := (3 : Int32)) (by decide) ?_
              refine K.callv (z := (⟨"com/example/index_rank_fuse/indexrankfuse/IntList", "get", "(I)I"⟩ : MethodName)) (argsL := [(.int (3 : Int32))]) (rest := []) at_108 (pc' := 111) rfl (c_get l Z a0 hw n0 h_248 (a := o_187) (p := (3 : Int32)) (b := b_197) (n := (4 : Int32)) (vs := [(.int v0), (.int v1), (.int v2), (.int v3)]) (y := v3) f_256 f_253 f_254 f_255 (by decide) rfl) f_256 (hw _ (List.mem_of_getElem? (i := 20) rfl)) (hw _ (List.mem_of_getElem? (i := 21) rfl)) (nf_sel (hw _ (List.mem_of_getElem? (i := 23) rfl)) rfl) (hw _ (List.mem_of_getElem? (i := 23) rfl)) (hw _ (List.mem_of_getElem? (i := 22) rfl)) (hw _ (List.mem_of_getElem? (i := 3) rfl)) (hw _ (List.mem_of_getElem? (i := 24) rfl)) (by decide) pd_5 rfl rfl (W := 0) (by simp [Value.category]) (by decide) (by decide) (by decide) (by decide) (fun v_267 h_265 q_266 => ?_)
              obtain ⟨rfl, rfl⟩ := q_266
              show G h_248 2 6 (mkF m 111 #[.val (.int v0), .val (.int v1), .val (.int v2), .val (.int v3), .val (.int v4), .val (.int sl), .val (.int (4 : Int32)), .val (.int i), .val (.ref o_187), .val (.int y), .unset] [(.int v3)])
              refine K.istore at_111 (pc' := 113) rfl (L' := #[.val (.int v0), .val (.int v1), .val (.int v2), .val (.int v3), .val (.int v4), .val (.int sl), .val (.int (4 : Int32)), .val (.int i), .val (.ref o_187), .val (.int y), .val (.int v3)]) rfl ?_
              refine K.iload at_113 (pc' := 115) rfl rfl ?_
              refine K.iload at_115 (pc' := 117) rfl rfl ?_
              refine K.iloadN at_117 (pc' := 118) rfl rfl ?_
              refine K.iloadN at_118 (pc' := 119) rfl rfl ?_
              refine K.iloadN at_119 (pc' := 120) rfl rfl ?_
              refine K.iloadN at_120 (pc' := 121) rfl rfl ?_
              refine K.iload at_121 (pc' := 123) rfl rfl ?_
              refine K.calls (argsL := [(.int i), (.int v0), (.int v1), (.int v2), (.int v3), (.int v4)]) (rest := [(.int y)]) at_123 (pc' := 126) rfl (c_nth l Z a0 hw n0 h_248 (i := i) (v0 := v0) (v1 := v1) (v2 := v2) (v3 := v3) (v4 := v4) ) (hw _ (List.mem_of_getElem? (i := 33) rfl)) (hw _ (List.mem_of_getElem? (i := 34) rfl)) (hw _ (List.mem_of_getElem? (i := 35) rfl)) (hw _ (List.mem_of_getElem? (i := 36) rfl)) (by decide) pd_6 rfl rfl (W := 1) (by simp [Value.category]) (by decide) (by decide) (by decide) (by decide) (fun v_271 h_269 q_270 => ?_)
              obtain ⟨nz, rfl, t_nz, rfl⟩ := q_270
              show G h_248 2 6 (mkF m 126 #[.val (.int v0), .val (.int v1), .val (.int v2), .val (.int v3), .val (.int v4), .val (.int sl), .val (.int (4 : Int32)), .val (.int i), .val (.ref o_187), .val (.int y), .val (.int v3)] [(.int nz), (.int y)])
              refine K.icmp_ne at_126 (pc1 := 129) rfl (by decide) (pc2 := 151) (by decide) (a := y.toInt) (b := nz.toInt) rfl rfl (fun c126 => ?_) (fun c126 => ?_)
              · exfalso; apply c126; rcases (by omega : i.toInt = 0 ∨ i.toInt = 1 ∨ i.toInt = 2 ∨ i.toInt = 3) with q | q | q | q
                · rw [hyv.1 q, t_nz.1 q]
                · rw [hyv.2.1 q, t_nz.2.1 q]
                · rw [hyv.2.2.1 q, t_nz.2.2.1 q]
                · rw [hyv.2.2.2 q, t_nz.2.2.2.1 q]
              · refine K.iload at_129 (pc' := 131) rfl rfl ?_
                refine K.iload at_131 (pc' := 133) rfl rfl ?_
                refine K.iconst at_133 (pc' := 134) rfl (z := 1) rfl ?_
                refine K.isub at_134 (pc' := 135) rfl (z := (3 : Int32)) (by decide) ?_
                refine K.iloadN at_135 (pc' := 136) rfl rfl ?_
                refine K.iloadN at_136 (pc' := 137) rfl rfl ?_
                refine K.iloadN at_137 (pc' := 138) rfl rfl ?_
                refine K.iloadN at_138 (pc' := 139) rfl rfl ?_
                refine K.iload at_139 (pc' := 141) rfl rfl ?_
                refine K.calls (argsL := [(.int (3 : Int32)), (.int v0), (.int v1), (.int v2), (.int v3), (.int v4)]) (rest := [(.int v3)]) at_141 (pc' := 144) rfl (c_nth l Z a0 hw n0 h_248 (i := (3 : Int32)) (v0 := v0) (v1 := v1) (v2 := v2) (v3 := v3) (v4 := v4) ) (hw _ (List.mem_of_getElem? (i := 33) rfl)) (hw _ (List.mem_of_getElem? (i := 34) rfl)) (hw _ (List.mem_of_getElem? (i := 35) rfl)) (hw _ (List.mem_of_getElem? (i := 36) rfl)) (by decide) pd_6 rfl rfl (W := 1) (by simp [Value.category]) (by decide) (by decide) (by decide) (by decide) (fun v_274 h_272 q_273 => ?_)
                obtain ⟨nl, rfl, t_nl, rfl⟩ := q_273
                show G h_248 2 6 (mkF m 144 #[.val (.int v0), .val (.int v1), .val (.int v2), .val (.int v3), .val (.int v4), .val (.int sl), .val (.int (4 : Int32)), .val (.int i), .val (.ref o_187), .val (.int y), .val (.int v3)] [(.int nl), (.int v3)])
                refine K.icmp_ne at_144 (pc1 := 147) rfl (by decide) (pc2 := 151) (by decide) (a := v3.toInt) (b := nl.toInt) rfl rfl (fun c144 => ?_) (fun c144 => ?_)
                · exfalso; apply c144; rw [t_nl.2.2.2.1 rfl]
                · refine K.iconst at_147 (pc' := 148) rfl (z := 1) rfl ?_
                  refine K.goto at_148 (by decide) (pc' := 152) (by decide) ?_
                  exact K.retz at_152 (Or.inr rfl) (by decide) (by decide) rfl
            · exfalso; omega
  · refine K.iload at_11 (pc' := 13) rfl rfl ?_
    refine K.iconst at_13 (pc' := 14) rfl (z := 3) rfl ?_
    obtain ⟨z14, e_z14⟩ : ∃ z, (sl.toUInt32 >>> ((3 : Int32) &&& 31).toUInt32).toInt32 = z := ⟨_, rfl⟩
    have r_z14 : z14.toInt = (sl.toInt % 4294967296) / 8 := by have q := c_iushr sl (3 : Int32) 3 (by decide) (by decide); rw [e_z14] at q; exact q
    refine K.iushr at_14 (pc' := 15) rfl e_z14 ?_
    refine K.ldcI at_15 (pc' := 17) rfl (hw _ (List.mem_of_getElem? (i := 0) rfl)) ?_
    obtain ⟨z17, e_z17⟩ : ∃ z, z14 &&& (2147483647 : Int32) = z := ⟨_, rfl⟩
    have r_z17 : z17.toInt = z14.toInt % 2147483648 := by have q := c_mask z14 (2147483647 : Int32) 31 (by decide) (by decide); rw [e_z17] at q; exact q
    refine K.iand at_17 (pc' := 18) rfl e_z17 ?_
    refine K.iload at_18 (pc' := 20) rfl rfl ?_
    obtain ⟨i, e_i⟩ : ∃ z, z17 % (5 : Int32) = z := ⟨_, rfl⟩
    have r_i : (0 ≤ z17.toInt → i.toInt = z17.toInt % 5) ∧ (z17.toInt < 0 → i.toInt = -((-z17.toInt) % 5)) := by have q := c_irem z17 (5 : Int32) 5 rfl; rw [e_i] at q; exact q
    have t_i : 0 ≤ i.toInt ∧ i.toInt < 5 := by omega
    clear r_i
    refine K.irem at_20 (pc' := 21) rfl (by decide) e_i ?_
    refine K.istore at_21 (pc' := 23) rfl (L' := #[.val (.int v0), .val (.int v1), .val (.int v2), .val (.int v3), .val (.int v4), .val (.int sl), .val (.int (5 : Int32)), .val (.int i), .unset, .unset, .unset]) rfl ?_
    refine K.newo at_23 (pc' := 26) rfl (hw _ (List.mem_of_getElem? (i := 1) rfl)) (hw _ (List.mem_of_getElem? (i := 2) rfl)) (hw _ (List.mem_of_getElem? (i := 3) rfl)) (by decide) (by decide) (fun h_276 o_275 g_o_275 E_277 x_o_275 D_o_275 => ?_)
    have ge_o_275 : n0 ≤ o_275 := g_o_275 ▸ Z0
    have sz_278 : n0 ≤ h_276.size := Nat.le_trans Z0 E_277.1
    have f_279 : Fld Z h_276 o_275 "com/example/index_rank_fuse/indexrankfuse/IntList" "values" "[I" .null := D_o_275 (Or.inl (hw _ (List.mem_of_getElem? (i := 12) rfl))) (ty := (.array .int)) (by decide)
    have f_280 : Fld Z h_276 o_275 "com/example/index_rank_fuse/indexrankfuse/IntList" "size" "I" (.int (0 : Int32)) := D_o_275 (Or.inl (hw _ (List.mem_of_getElem? (i := 19) rfl))) (ty := .int) (by decide)
    refine K.dup at_26 (pc' := 27) rfl rfl ?_
    refine K.callc (argsL := []) (rest := [(.ref o_275)]) at_27 (pc' := 30) rfl rfl (c_new l Z a0 hw n0 h_276 (a := o_275) x_o_275 sz_278 f_279 f_280 ge_o_275) (hw _ (List.mem_of_getElem? (i := 4) rfl)) (hw _ (List.mem_of_getElem? (i := 5) rfl)) (hw _ (List.mem_of_getElem? (i := 3) rfl)) (hw _ (List.mem_of_getElem? (i := 6) rfl)) (by decide) pd_3 rfl rfl (W := 1) (by simp [Value.category]) (by decide) (by decide) (by decide) (by decide) (fun v_283 h_281 q_282 => ?_)
    obtain ⟨b_285, rfl, K_286, f_287, f_288, f_289, f_290, f_291, f_292⟩ := q_282
    have ne_o_275_b_285 : o_275 ≠ b_285 := Nat.ne_of_lt (Nat.lt_of_lt_of_le x_o_275.lt f_287)
    have f_293 : Exa Z h_281 o_275 "com/example/index_rank_fuse/indexrankfuse/IntList" := x_o_275.keep K_286
    have sz_296 : n0 ≤ h_281.size := Nat.le_trans sz_278 K_286.1
    show G h_281 2 6 (mkF m 30 #[.val (.int v0), .val (.int v1), .val (.int v2), .val (.int v3), .val (.int v4), .val (.int sl), .val (.int (5 : Int32)), .val (.int i), .unset, .unset, .unset] [(.ref o_275)])
    refine K.astore at_30 (pc' := 32) rfl rfl (L' := #[.val (.int v0), .val (.int v1), .val (.int v2), .val (.int v3), .val (.int v4), .val (.int sl), .val (.int (5 : Int32)), .val (.int i), .val (.ref o_275), .unset, .unset]) rfl ?_
    refine K.iload at_32 (pc' := 34) rfl rfl ?_
    refine K.iconst at_34 (pc' := 35) rfl (z := 1) rfl ?_
    refine K.icmp_lt at_35 (pc1 := 38) rfl (by decide) (pc2 := 44) (by decide) (a := 5) (b := 1) rfl rfl (fun c35 => ?_) (fun c35 => ?_)
    · exfalso; omega
    · refine K.aload at_38 (pc' := 40) rfl rfl rfl ?_
      refine K.iloadN at_40 (pc' := 41) rfl rfl ?_
      refine K.callv (z := (⟨"com/example/index_rank_fuse/indexrankfuse/IntList", "add", "(I)V"⟩ : MethodName)) (argsL := [(.int v0)]) (rest := []) at_41 (pc' := 44) rfl (c_add0 l Z a0 hw n0 h_281 (a := o_275) (v0 := v0) (b := b_285) (x0 := (0 : Int32)) (x1 := (0 : Int32)) (x2 := (0 : Int32)) (x3 := (0 : Int32)) f_293 f_289 f_290 f_291 f_292 ge_o_275 f_288) f_293 (hw _ (List.mem_of_getElem? (i := 13) rfl)) (hw _ (List.mem_of_getElem? (i := 14) rfl)) (nf_sel (hw _ (List.mem_of_getElem? (i := 16) rfl)) rfl) (hw _ (List.mem_of_getElem? (i := 16) rfl)) (hw _ (List.mem_of_getElem? (i := 15) rfl)) (hw _ (List.mem_of_getElem? (i := 3) rfl)) (hw _ (List.mem_of_getElem? (i := 17) rfl)) (by decide) pd_4 rfl rfl (W := 0) (by simp [Value.category]) (by decide) (by decide) (by decide) (by decide) (fun v_299 h_297 q_298 => ?_)
      obtain ⟨rfl, K_301, f_302, f_303, f_304⟩ := q_298
      have f_305 : Exa Z h_297 o_275 "com/example/index_rank_fuse/indexrankfuse/IntList" := f_293.keep K_301
      have sz_309 : n0 ≤ h_297.size := Nat.le_trans sz_296 K_301.1
      show G h_297 2 6 (mkF m 44 #[.val (.int v0), .val (.int v1), .val (.int v2), .val (.int v3), .val (.int v4), .val (.int sl), .val (.int (5 : Int32)), .val (.int i), .val (.ref o_275), .unset, .unset] [])
      refine K.iload at_44 (pc' := 46) rfl rfl ?_
      refine K.iconst at_46 (pc' := 47) rfl (z := 2) rfl ?_
      refine K.icmp_lt at_47 (pc1 := 50) rfl (by decide) (pc2 := 56) (by decide) (a := 5) (b := 2) rfl rfl (fun c47 => ?_) (fun c47 => ?_)
      · exfalso; omega
      · refine K.aload at_50 (pc' := 52) rfl rfl rfl ?_
        refine K.iloadN at_52 (pc' := 53) rfl rfl ?_
        refine K.callv (z := (⟨"com/example/index_rank_fuse/indexrankfuse/IntList", "add", "(I)V"⟩ : MethodName)) (argsL := [(.int v1)]) (rest := []) at_53 (pc' := 56) rfl (c_add1 l Z a0 hw n0 h_297 (a := o_275) (v0 := v1) (b := b_285) (x0 := v0) (x1 := (0 : Int32)) (x2 := (0 : Int32)) (x3 := (0 : Int32)) f_305 f_302 f_303 f_304 f_292 ge_o_275 f_288) f_305 (hw _ (List.mem_of_getElem? (i := 13) rfl)) (hw _ (List.mem_of_getElem? (i := 14) rfl)) (nf_sel (hw _ (List.mem_of_getElem? (i := 16) rfl)) rfl) (hw _ (List.mem_of_getElem? (i := 16) rfl)) (hw _ (List.mem_of_getElem? (i := 15) rfl)) (hw _ (List.mem_of_getElem? (i := 3) rfl)) (hw _ (List.mem_of_getElem? (i := 17) rfl)) (by decide) pd_4 rfl rfl (W := 0) (by simp [Value.category]) (by decide) (by decide) (by decide) (by decide) (fun v_312 h_310 q_311 => ?_)
        obtain ⟨rfl, K_314, f_315, f_316, f_317⟩ := q_311
        have f_318 : Exa Z h_310 o_275 "com/example/index_rank_fuse/indexrankfuse/IntList" := f_305.keep K_314
        have sz_322 : n0 ≤ h_310.size := Nat.le_trans sz_309 K_314.1
        show G h_310 2 6 (mkF m 56 #[.val (.int v0), .val (.int v1), .val (.int v2), .val (.int v3), .val (.int v4), .val (.int sl), .val (.int (5 : Int32)), .val (.int i), .val (.ref o_275), .unset, .unset] [])
        refine K.iload at_56 (pc' := 58) rfl rfl ?_
        refine K.iconst at_58 (pc' := 59) rfl (z := 3) rfl ?_
        refine K.icmp_lt at_59 (pc1 := 62) rfl (by decide) (pc2 := 68) (by decide) (a := 5) (b := 3) rfl rfl (fun c59 => ?_) (fun c59 => ?_)
        · exfalso; omega
        · refine K.aload at_62 (pc' := 64) rfl rfl rfl ?_
          refine K.iloadN at_64 (pc' := 65) rfl rfl ?_
          refine K.callv (z := (⟨"com/example/index_rank_fuse/indexrankfuse/IntList", "add", "(I)V"⟩ : MethodName)) (argsL := [(.int v2)]) (rest := []) at_65 (pc' := 68) rfl (c_add2 l Z a0 hw n0 h_310 (a := o_275) (v0 := v2) (b := b_285) (x0 := v0) (x1 := v1) (x2 := (0 : Int32)) (x3 := (0 : Int32)) f_318 f_315 f_316 f_317 f_292 ge_o_275 f_288) f_318 (hw _ (List.mem_of_getElem? (i := 13) rfl)) (hw _ (List.mem_of_getElem? (i := 14) rfl)) (nf_sel (hw _ (List.mem_of_getElem? (i := 16) rfl)) rfl) (hw _ (List.mem_of_getElem? (i := 16) rfl)) (hw _ (List.mem_of_getElem? (i := 15) rfl)) (hw _ (List.mem_of_getElem? (i := 3) rfl)) (hw _ (List.mem_of_getElem? (i := 17) rfl)) (by decide) pd_4 rfl rfl (W := 0) (by simp [Value.category]) (by decide) (by decide) (by decide) (by decide) (fun v_325 h_323 q_324 => ?_)
          obtain ⟨rfl, K_327, f_328, f_329, f_330⟩ := q_324
          have f_331 : Exa Z h_323 o_275 "com/example/index_rank_fuse/indexrankfuse/IntList" := f_318.keep K_327
          have sz_335 : n0 ≤ h_323.size := Nat.le_trans sz_322 K_327.1
          show G h_323 2 6 (mkF m 68 #[.val (.int v0), .val (.int v1), .val (.int v2), .val (.int v3), .val (.int v4), .val (.int sl), .val (.int (5 : Int32)), .val (.int i), .val (.ref o_275), .unset, .unset] [])
          refine K.iload at_68 (pc' := 70) rfl rfl ?_
          refine K.iconst at_70 (pc' := 71) rfl (z := 4) rfl ?_
          refine K.icmp_lt at_71 (pc1 := 74) rfl (by decide) (pc2 := 80) (by decide) (a := 5) (b := 4) rfl rfl (fun c71 => ?_) (fun c71 => ?_)
          · exfalso; omega
          · refine K.aload at_74 (pc' := 76) rfl rfl rfl ?_
            refine K.iloadN at_76 (pc' := 77) rfl rfl ?_
            refine K.callv (z := (⟨"com/example/index_rank_fuse/indexrankfuse/IntList", "add", "(I)V"⟩ : MethodName)) (argsL := [(.int v3)]) (rest := []) at_77 (pc' := 80) rfl (c_add3 l Z a0 hw n0 h_323 (a := o_275) (v0 := v3) (b := b_285) (x0 := v0) (x1 := v1) (x2 := v2) (x3 := (0 : Int32)) f_331 f_328 f_329 f_330 f_292 ge_o_275 f_288) f_331 (hw _ (List.mem_of_getElem? (i := 13) rfl)) (hw _ (List.mem_of_getElem? (i := 14) rfl)) (nf_sel (hw _ (List.mem_of_getElem? (i := 16) rfl)) rfl) (hw _ (List.mem_of_getElem? (i := 16) rfl)) (hw _ (List.mem_of_getElem? (i := 15) rfl)) (hw _ (List.mem_of_getElem? (i := 3) rfl)) (hw _ (List.mem_of_getElem? (i := 17) rfl)) (by decide) pd_4 rfl rfl (W := 0) (by simp [Value.category]) (by decide) (by decide) (by decide) (by decide) (fun v_338 h_336 q_337 => ?_)
            obtain ⟨rfl, K_340, f_341, f_342, f_343⟩ := q_337
            have f_344 : Exa Z h_336 o_275 "com/example/index_rank_fuse/indexrankfuse/IntList" := f_331.keep K_340
            have sz_348 : n0 ≤ h_336.size := Nat.le_trans sz_335 K_340.1
            show G h_336 2 6 (mkF m 80 #[.val (.int v0), .val (.int v1), .val (.int v2), .val (.int v3), .val (.int v4), .val (.int sl), .val (.int (5 : Int32)), .val (.int i), .val (.ref o_275), .unset, .unset] [])
            refine K.iload at_80 (pc' := 82) rfl rfl ?_
            refine K.iconst at_82 (pc' := 83) rfl (z := 5) rfl ?_
            refine K.icmp_lt at_83 (pc1 := 86) rfl (by decide) (pc2 := 93) (by decide) (a := 5) (b := 5) rfl rfl (fun c83 => ?_) (fun c83 => ?_)
            · exfalso; omega
            · refine K.aload at_86 (pc' := 88) rfl rfl rfl ?_
              refine K.iload at_88 (pc' := 90) rfl rfl ?_
              refine K.callv (z := (⟨"com/example/index_rank_fuse/indexrankfuse/IntList", "add", "(I)V"⟩ : MethodName)) (argsL := [(.int v4)]) (rest := []) at_90 (pc' := 93) rfl (c_add4 l Z a0 hw n0 h_336 (a := o_275) (v0 := v4) (b := b_285) (x0 := v0) (x1 := v1) (x2 := v2) (x3 := v3) f_344 f_341 f_342 f_343 f_292 ge_o_275 f_288 sz_348) f_344 (hw _ (List.mem_of_getElem? (i := 13) rfl)) (hw _ (List.mem_of_getElem? (i := 14) rfl)) (nf_sel (hw _ (List.mem_of_getElem? (i := 16) rfl)) rfl) (hw _ (List.mem_of_getElem? (i := 16) rfl)) (hw _ (List.mem_of_getElem? (i := 15) rfl)) (hw _ (List.mem_of_getElem? (i := 3) rfl)) (hw _ (List.mem_of_getElem? (i := 17) rfl)) (by decide) pd_4 rfl rfl (W := 0) (by simp [Value.category]) (by decide) (by decide) (by decide) (by decide) (fun v_351 h_349 q_350 => ?_)
              obtain ⟨o_353, rfl, K_354, f_355, f_356, f_357, f_358, f_359, f_360⟩ := q_350
              have ne_o_275_o_353 : o_275 ≠ o_353 := Nat.ne_of_lt (Nat.lt_of_lt_of_le f_344.lt f_355)
              have ne_b_285_o_353 : b_285 ≠ o_353 := Nat.ne_of_lt (Nat.lt_of_lt_of_le f_343.lt f_355)
              have f_361 : Exa Z h_349 o_275 "com/example/index_rank_fuse/indexrankfuse/IntList" := f_344.keep K_354
              have f_364 : Ary Z h_349 b_285 .int [(.int v0), (.int v1), (.int v2), (.int v3)] := f_343.keep K_354 (ninS f_292 nin0)
              have sz_365 : n0 ≤ h_349.size := Nat.le_trans sz_348 K_354.1
              show G h_349 3 14 (mkF m 93 #[.val (.int v0), .val (.int v1), .val (.int v2), .val (.int v3), .val (.int v4), .val (.int sl), .val (.int (5 : Int32)), .val (.int i), .val (.ref o_275), .unset, .unset] [])
              refine K.aload at_93 (pc' := 95) rfl rfl rfl ?_
              refine K.iload at_95 (pc' := 97) rfl rfl ?_
              obtain ⟨y, hy, hyv⟩ : ∃ y : Int32, ([(.int v0), (.int v1), (.int v2), (.int v3), (.int v4), (.int (0 : Int32)), (.int (0 : Int32)), (.int (0 : Int32))] : List Value)[i.toInt.toNat]? = some (.int y) ∧ ((i.toInt = 0 → y = v0) ∧ (i.toInt = 1 → y = v1) ∧ (i.toInt = 2 → y = v2) ∧ (i.toInt = 3 → y = v3) ∧ (i.toInt = 4 → y = v4)) := by
                rcases (by omega : i.toInt = 0 ∨ i.toInt = 1 ∨ i.toInt = 2 ∨ i.toInt = 3 ∨ i.toInt = 4) with q | q | q | q | q
                · rw [q]; exact ⟨_, rfl, by simp⟩
                · rw [q]; exact ⟨_, rfl, by simp⟩
                · rw [q]; exact ⟨_, rfl, by simp⟩
                · rw [q]; exact ⟨_, rfl, by simp⟩
                · rw [q]; exact ⟨_, rfl, by simp⟩
              refine K.callv (z := (⟨"com/example/index_rank_fuse/indexrankfuse/IntList", "get", "(I)I"⟩ : MethodName)) (argsL := [(.int i)]) (rest := []) at_97 (pc' := 100) rfl (c_get l Z a0 hw n0 h_349 (a := o_275) (p := i) (b := o_353) (n := (5 : Int32)) (vs := [(.int v0), (.int v1), (.int v2), (.int v3), (.int v4), (.int (0 : Int32)), (.int (0 : Int32)), (.int (0 : Int32))]) (y := y) f_361 f_357 f_358 f_359 (by constructor <;> (try simp only [Int32.reduceToInt]) <;> omega) hy) f_361 (hw _ (List.mem_of_getElem? (i := 20) rfl)) (hw _ (List.mem_of_getElem? (i := 21) rfl)) (nf_sel (hw _ (List.mem_of_getElem? (i := 23) rfl)) rfl) (hw _ (List.mem_of_getElem? (i := 23) rfl)) (hw _ (List.mem_of_getElem? (i := 22) rfl)) (hw _ (List.mem_of_getElem? (i := 3) rfl)) (hw _ (List.mem_of_getElem? (i := 24) rfl)) (by decide) pd_5 rfl rfl (W := 0) (by simp [Value.category]) (by decide) (by decide) (by decide) (by decide) (fun v_368 h_366 q_367 => ?_)
              obtain ⟨rfl, rfl⟩ := q_367
              show G h_349 3 14 (mkF m 100 #[.val (.int v0), .val (.int v1), .val (.int v2), .val (.int v3), .val (.int v4), .val (.int sl), .val (.int (5 : Int32)), .val (.int i), .val (.ref o_275), .unset, .unset] [(.int y)])
              refine K.istore at_100 (pc' := 102) rfl (L' := #[.val (.int v0), .val (.int v1), .val (.int v2), .val (.int v3), .val (.int v4), .val (.int sl), .val (.int (5 : Int32)), .val (.int i), .val (.ref o_275), .val (.int y), .unset]) rfl ?_
              refine K.aload at_102 (pc' := 104) rfl rfl rfl ?_
              refine K.iload at_104 (pc' := 106) rfl rfl ?_
              refine K.iconst at_106 (pc' := 107) rfl (z := 1) rfl ?_
              refine K.isub at_107 (pc' := 108) rfl (z := (4 : Int32)) (by decide) ?_
              refine K.callv (z := (⟨"com/example/index_rank_fuse/indexrankfuse/IntList", "get", "(I)I"⟩ : MethodName)) (argsL := [(.int (4 : Int32))]) (rest := []) at_108 (pc' := 111) rfl (c_get l Z a0 hw n0 h_349 (a := o_275) (p := (4 : Int32)) (b := o_353) (n := (5 : Int32)) (vs := [(.int v0), (.int v1), (.int v2), (.int v3), (.int v4), (.int (0 : Int32)), (.int (0 : Int32)), (.int (0 : Int32))]) (y := v4) f_361 f_357 f_358 f_359 (by decide) rfl) f_361 (hw _ (List.mem_of_getElem? (i := 20) rfl)) (hw _ (List.mem_of_getElem? (i := 21) rfl)) (nf_sel (hw _ (List.mem_of_getElem? (i := 23) rfl)) rfl) (hw _ (List.mem_of_getElem? (i := 23) rfl)) (hw _ (List.mem_of_getElem? (i := 22) rfl)) (hw _ (List.mem_of_getElem? (i := 3) rfl)) (hw _ (List.mem_of_getElem? (i := 24) rfl)) (by decide) pd_5 rfl rfl (W := 0) (by simp [Value.category]) (by decide) (by decide) (by decide) (by decide) (fun v_372 h_370 q_371 => ?_)
              obtain ⟨rfl, rfl⟩ := q_371
              show G h_349 3 14 (mkF m 111 #[.val (.int v0), .val (.int v1), .val (.int v2), .val (.int v3), .val (.int v4), .val (.int sl), .val (.int (5 : Int32)), .val (.int i), .val (.ref o_275), .val (.int y), .unset] [(.int v4)])
              refine K.istore at_111 (pc' := 113) rfl (L' := #[.val (.int v0), .val (.int v1), .val (.int v2), .val (.int v3), .val (.int v4), .val (.int sl), .val (.int (5 : Int32)), .val (.int i), .val (.ref o_275), .val (.int y), .val (.int v4)]) rfl ?_
              refine K.iload at_113 (pc' := 115) rfl rfl ?_
              refine K.iload at_115 (pc' := 117) rfl rfl ?_
              refine K.iloadN at_117 (pc' := 118) rfl rfl ?_
              refine K.iloadN at_118 (pc' := 119) rfl rfl ?_
              refine K.iloadN at_119 (pc' := 120) rfl rfl ?_
              refine K.iloadN at_120 (pc' := 121) rfl rfl ?_
              refine K.iload at_121 (pc' := 123) rfl rfl ?_
              refine K.calls (argsL := [(.int i), (.int v0), (.int v1), (.int v2), (.int v3), (.int v4)]) (rest := [(.int y)]) at_123 (pc' := 126) rfl (c_nth l Z a0 hw n0 h_349 (i := i) (v0 := v0) (v1 := v1) (v2 := v2) (v3 := v3) (v4 := v4) ) (hw _ (List.mem_of_getElem? (i := 33) rfl)) (hw _ (List.mem_of_getElem? (i := 34) rfl)) (hw _ (List.mem_of_getElem? (i := 35) rfl)) (hw _ (List.mem_of_getElem? (i := 36) rfl)) (by decide) pd_6 rfl rfl (W := 1) (by simp [Value.category]) (by decide) (by decide) (by decide) (by decide) (fun v_376 h_374 q_375 => ?_)
              obtain ⟨nz, rfl, t_nz, rfl⟩ := q_375
              show G h_349 3 14 (mkF m 126 #[.val (.int v0), .val (.int v1), .val (.int v2), .val (.int v3), .val (.int v4), .val (.int sl), .val (.int (5 : Int32)), .val (.int i), .val (.ref o_275), .val (.int y), .val (.int v4)] [(.int nz), (.int y)])
              refine K.icmp_ne at_126 (pc1 := 129) rfl (by decide) (pc2 := 151) (by decide) (a := y.toInt) (b := nz.toInt) rfl rfl (fun c126 => ?_) (fun c126 => ?_)
              · exfalso; apply c126; rcases (by omega : i.toInt = 0 ∨ i.toInt = 1 ∨ i.toInt = 2 ∨ i.toInt = 3 ∨ i.toInt = 4) with q | q | q | q | q
                · rw [hyv.1 q, t_nz.1 q]
                · rw [hyv.2.1 q, t_nz.2.1 q]
                · rw [hyv.2.2.1 q, t_nz.2.2.1 q]
                · rw [hyv.2.2.2.1 q, t_nz.2.2.2.1 q]
                · rw [hyv.2.2.2.2 q, t_nz.2.2.2.2 q]
              · refine K.iload at_129 (pc' := 131) rfl rfl ?_
                refine K.iload at_131 (pc' := 133) rfl rfl ?_
                refine K.iconst at_133 (pc' := 134) rfl (z := 1) rfl ?_
                refine K.isub at_134 (pc' := 135) rfl (z := (4 : Int32)) (by decide) ?_
                refine K.iloadN at_135 (pc' := 136) rfl rfl ?_
                refine K.iloadN at_136 (pc' := 137) rfl rfl ?_
                refine K.iloadN at_137 (pc' := 138) rfl rfl ?_
                refine K.iloadN at_138 (pc' := 139) rfl rfl ?_
                refine K.iload at_139 (pc' := 141) rfl rfl ?_
                refine K.calls (argsL := [(.int (4 : Int32)), (.int v0), (.int v1), (.int v2), (.int v3), (.int v4)]) (rest := [(.int v4)]) at_141 (pc' := 144) rfl (c_nth l Z a0 hw n0 h_349 (i := (4 : Int32)) (v0 := v0) (v1 := v1) (v2 := v2) (v3 := v3) (v4 := v4) ) (hw _ (List.mem_of_getElem? (i := 33) rfl)) (hw _ (List.mem_of_getElem? (i := 34) rfl)) (hw _ (List.mem_of_getElem? (i := 35) rfl)) (hw _ (List.mem_of_getElem? (i := 36) rfl)) (by decide) pd_6 rfl rfl (W := 1) (by simp [Value.category]) (by decide) (by decide) (by decide) (by decide) (fun v_379 h_377 q_378 => ?_)
                obtain ⟨nl, rfl, t_nl, rfl⟩ := q_378
                show G h_349 3 14 (mkF m 144 #[.val (.int v0), .val (.int v1), .val (.int v2), .val (.int v3), .val (.int v4), .val (.int sl), .val (.int (5 : Int32)), .val (.int i), .val (.ref o_275), .val (.int y), .val (.int v4)] [(.int nl), (.int v4)])
                refine K.icmp_ne at_144 (pc1 := 147) rfl (by decide) (pc2 := 151) (by decide) (a := v4.toInt) (b := nl.toInt) rfl rfl (fun c144 => ?_) (fun c144 => ?_)
                · exfalso; apply c144; rw [t_nl.2.2.2.2 rfl]
                · refine K.iconst at_147 (pc' := 148) rfl (z := 1) rfl ?_
                  refine K.goto at_148 (by decide) (pc' := 152) (by decide) ?_
                  exact K.retz at_152 (Or.inr rfl) (by decide) (by decide) rfl
set_option maxRecDepth 65536 in
set_option maxHeartbeats 40000000 in
theorem comes_1 {Post : Tables → Env → Array Value → State → Outcome → State → Prop} (hpost : ∀ tb e args s v u, (limb_1_1.after args s (.returned v) u = true ∧ limb_1_2.after args s (.returned v) u = true ∧ True) → FrameEnd s (.returned v) u (Jvm.fieldLocs frame_1_writes args s ++ Jvm.arrayLocs frame_1_arrays args s ++ Jvm.staticLocs frame_1_statics s) 16 128 → Post tb e args s (.returned v) u) :
    ArmFor flags0 classFile x code maxLocals ret World_1 tables_1 room_1 Calls_1 rest_1 Pre_1 Post := by
  intro l hfl _ _ p e ha hc hk s m args below hf hA hF happ hP
  obtain ⟨hcalls, hrest, hpre⟩ := hP
  obtain ⟨-, -, -, hnamed, -, -, -, hat⟩ := (Spec.applies_iff hf).mp happ
  obtain ⟨hg, hn⟩ := and_e (Cond.before_iff.mp (show (Jvm.Cond.and given_1 narrow_1).before args s = true from hpre))
  obtain ⟨k0, j0⟩ := and_e hg
  obtain ⟨k1, j1⟩ := and_e j0
  obtain ⟨k2, j2⟩ := and_e j1
  obtain ⟨k3, j3⟩ := and_e j2
  obtain ⟨k4, j4⟩ := and_e j3
  obtain ⟨k5, j5⟩ := and_e j4
  obtain ⟨w0, w1, w2, w3, w4, w5, rfl⟩ : ∃ w0 w1 w2 w3 w4 w5 : Value, args = #[w0, w1, w2, w3, w4, w5] := by
    have hs : args.size = 6 := by simpa [Cond.value, given_1] using k0
    obtain ⟨L⟩ := args
    match L, hs with
    | [w0, w1, w2, w3, w4, w5], _ => exact ⟨w0, w1, w2, w3, w4, w5, rfl⟩
  have hw := fun d (hd : d ∈ tables_1) => atoms_spec (ws := Jvm.Cond.code x code maxLocals ret :: tables_1) hat d (List.mem_cons_of_mem _ hd)
  have hfit : Fit s := fun {y c} hc i hi => by
    obtain ⟨ha, rfl⟩ := Array.getElem?_eq_some_iff.mp hc
    have q := List.all_eq_true.mp ((Array.all_eq_true_iff_forall_mem.mp hF) _ (Array.getElem_mem ha)) i (List.mem_range.mpr hi)
    simpa [Array.getElem?_eq_getElem hi] using q
  obtain ⟨i0, ei0⟩ := is_v k1
  obtain rfl : w0 = (.int i0) := Option.some.inj ei0
  obtain ⟨i1, ei1⟩ := is_v k2
  obtain rfl : w1 = (.int i1) := Option.some.inj ei1
  obtain ⟨i2, ei2⟩ := is_v k3
  obtain rfl : w2 = (.int i2) := Option.some.inj ei2
  obtain ⟨i3, ei3⟩ := is_v k4
  obtain rfl : w3 = (.int i3) := Option.some.inj ei3
  obtain ⟨i4, ei4⟩ := is_v k5
  obtain rfl : w4 = (.int i4) := Option.some.inj ei4
  obtain ⟨i5, ei5⟩ := is_v j5
  obtain rfl : w5 = (.int i5) := Option.some.inj ei5
  obtain ⟨n, o, h1, h2, h3, _, L, rfl, ⟨rfl, N⟩, hq⟩ := c_law l s _ hw s.heap.size s.heap i0 i1 i2 i3 i4 i5 (Nat.le_refl _)  tables_1 p e ha hc hk s m _ below hf ((Spec.applies_iff_loose hf).mp happ).1 ⟨rfl, State.Warmed39.refl s, rfl⟩ trivial
  refine ⟨n, _, h1, h2, h3, hpost _ _ _ _ _ _ ⟨Cond.after_iff.mpr rfl, Cond.after_iff.mpr (eq_i res_at (Term.int_eval (1)) rfl), trivial⟩ ⟨hq.1, hq.2.1, (hq.2.2.sift fun y hy => Or.inr (N y hy)).mono (by decide) (by decide)⟩⟩
theorem main_1_1 : Claimed_1_1 := comes_1 fun _ _ _ _ _ _ h hF => ⟨h.1, hF⟩
theorem main_1_2 : Claimed_1_2 := comes_1 fun _ _ _ _ _ _ h hF => ⟨h.2.1, hF⟩
end Jvm.Pilot.@@N@@
namespace Jvm.Pilot.@@N@@
open Jvm Jvm.ClassFile Sem Op Lib Jvm.Free Jvm.Stand Jvm.Pilot.@@N@@.Jvm.D
/-! MADE BY PROGRAM (witnessworld.py) out of the Statement's table words and the real class files: 14 classes; the members and pool entries that the words name. The judged class is class 1, her method 2. -/
namespace start1
open Jvm.ClassFile
def u (s : String) : CpInfo := .utf8 (stringToUtf16 s)
/-- a pool by its gaps: so many unusable entries, then the entry; so many at the end -/
def gap : Nat → List CpInfo → List CpInfo
  | 0, r => r
  | n + 1, r => .unusable :: gap n r
def poolList (es : List (Nat × CpInfo)) (last : Nat) : List CpInfo := es.foldr (fun e r => gap e.1 (e.2 :: r)) (gap last [])
def pool (es : List (Nat × CpInfo)) (last : Nat) : Array CpInfo := ⟨poolList es last⟩
def fileOf (pool : Array CpInfo) (this : Nat) (attrs : Array Attribute := #[]) (ms : Array MethodInfo := #[]) (fl : Nat := 33) (sup : Nat := 0) (ifs : Array Nat := #[]) (fds : Array FieldInfo := #[]) : ClassFile where
  minorVersion := 0
  majorVersion := 65
  constantPool := pool
  accessFlags := fl
  thisClass := this
  superClass := sup
  interfaces := ifs
  fields := fds
  methods := ms
  attributes := attrs
def plain (name : String) (sup : Option ClassId) : Class where
  name := name
  kind := .ordinary
  loader := none
  accessFlags := 33
  super := sup
  interfaces := #[]
  cf := none
  fields := #[]
  methods := #[]
  instanceTypes := #[]
  staticTypes := #[]
  resolved := #[]
  callSites := []
  init := .initialized
  statics := none
  mirror := none

def pool0 : Array CpInfo := pool [(5, u "<init>"), (0, u "()V"), (1, .class_ 10), (1, u "java/lang/Object")] 113

def k0c0 : Code := { maxStack := 0, maxLocals := 1, code := object_method_1_code, exceptionTable := #[], attributes := #[] }
def k0m0 : Method := { name := "<init>", desc := "()V", sig := { parameters := [], returnType := none }, accessFlags := 1, code := some k0c0 }
/-- java/lang/Object -/
def k0 : Class := { plain "java/lang/Object" none with
  accessFlags := 33
  interfaces := #[]
  cf := some (fileOf pool0 8 #[] #[{ accessFlags := 1, nameIndex := 5, descriptorIndex := 6, attributes := #[] }] 33 0 #[] #[])
  fields := #[]
  methods := #[k0m0]
  instanceTypes := #[]
  staticTypes := #[]
  resolved := Array.replicate 124 none
  statics := none }

def pool1 : Array CpInfo := pool [(2, .class_ 4), (0, .nameAndType 5 6), (0, u "java/lang/Object"), (0, u "<init>"), (0, u "()V"), (0, .integer 2147483647), (0, .class_ 9), (0, u "com/example/index_rank_fuse/indexrankfuse/IntList"), (0, .methodref 8 3), (0, .methodref 8 12), (0, .nameAndType 13 14), (0, u "add"), (0, u "(I)V"), (0, .methodref 8 16), (0, .nameAndType 17 18), (0, u "get"), (0, u "(I)I"), (0, .methodref 20 21), (0, .class_ 22), (0, .nameAndType 23 24), (0, u "com/example/index_rank_fuse/indexrankfuse/IntListGetPinLaw"), (0, u "nth"), (0, u "(IIIIII)I"), (3, u "law"), (0, u "(IIIIII)Z")] 2

def k1m0 : Method := { name := "<init>", desc := "()V", sig := { parameters := [], returnType := none }, accessFlags := 1, code := none }
def k1c1 : Code := { maxStack := 2, maxLocals := 6, code := method_2_code, exceptionTable := #[], attributes := #[] }
def k1m1 : Method := { name := "nth", desc := "(IIIIII)I", sig := { parameters := [.int, .int, .int, .int, .int, .int], returnType := some .int }, accessFlags := 10, code := some k1c1 }
def k1c2 : Code := { maxStack := 7, maxLocals := 11, code := code, exceptionTable := #[], attributes := #[] }
def k1m2 : Method := { name := "law", desc := "(IIIIII)Z", sig := { parameters := [.int, .int, .int, .int, .int, .int], returnType := some .boolean }, accessFlags := 9, code := some k1c2 }
/-- com/example/index_rank_fuse/indexrankfuse/IntListGetPinLaw -/
def k1 : Class := { plain "com/example/index_rank_fuse/indexrankfuse/IntListGetPinLaw" (some 0) with
  accessFlags := 49
  interfaces := #[]
  cf := some (fileOf pool1 20 #[] #[{ accessFlags := 1, nameIndex := 5, descriptorIndex := 6, attributes := #[] }, { accessFlags := 10, nameIndex := 23, descriptorIndex := 24, attributes := #[] }, { accessFlags := 9, nameIndex := 28, descriptorIndex := 29, attributes := #[] }] 49 2 #[] #[])
  fields := #[]
  methods := #[k1m0, k1m1, k1m2]
  instanceTypes := #[]
  staticTypes := #[]
  resolved := Array.replicate 32 none
  statics := none }

def pool2 : Array CpInfo := pool [(1, .methodref 2 3), (0, .class_ 4), (0, .nameAndType 5 6), (0, u "java/lang/Object"), (0, u "<init>"), (0, u "()V"), (0, .fieldref 8 9), (0, .class_ 10), (0, .nameAndType 11 12), (0, u "com/example/index_rank_fuse/indexrankfuse/IntList"), (0, u "values"), (0, u "[I"), (0, .fieldref 8 14), (0, .nameAndType 15 16), (0, u "size"), (0, u "I"), (0, .methodref 18 19), (0, .class_ 20), (0, .nameAndType 21 22), (0, u "java/util/Arrays"), (0, u "copyOf"), (0, u "([II)[I"), (0, .methodref 24 25), (0, .class_ 26), (0, .nameAndType 27 28), (0, u "java/util/Objects"), (0, u "checkIndex"), (0, u "(II)I"), (6, u "add"), (0, u "(I)V"), (1, u "get"), (0, u "(I)I")] 4

def k2c0 : Code := { maxStack := 2, maxLocals := 1, code := prog_25_method_1_code, exceptionTable := #[], attributes := #[] }
def k2m0 : Method := { name := "<init>", desc := "()V", sig := { parameters := [], returnType := none }, accessFlags := 0, code := some k2c0 }
def k2c1 : Code := { maxStack := 5, maxLocals := 2, code := prog_25_method_2_code, exceptionTable := #[], attributes := #[] }
def k2m1 : Method := { name := "add", desc := "(I)V", sig := { parameters := [.int], returnType := none }, accessFlags := 0, code := some k2c1 }
def k2c2 : Code := { maxStack := 3, maxLocals := 2, code := prog_25_method_3_code, exceptionTable := #[], attributes := #[] }
def k2m2 : Method := { name := "get", desc := "(I)I", sig := { parameters := [.int], returnType := some .int }, accessFlags := 0, code := some k2c2 }
/-- com/example/index_rank_fuse/indexrankfuse/IntList -/
def k2 : Class := { plain "com/example/index_rank_fuse/indexrankfuse/IntList" (some 0) with
  accessFlags := 48
  interfaces := #[]
  cf := some (fileOf pool2 8 #[] #[{ accessFlags := 0, nameIndex := 5, descriptorIndex := 6, attributes := #[] }, { accessFlags := 0, nameIndex := 35, descriptorIndex := 36, attributes := #[] }, { accessFlags := 0, nameIndex := 38, descriptorIndex := 39, attributes := #[] }] 48 2 #[] #[{ accessFlags := 2, nameIndex := 11, descriptorIndex := 12, attributes := #[] }, { accessFlags := 2, nameIndex := 15, descriptorIndex := 16, attributes := #[] }])
  fields := #[{ name := "values", type := (.array .int), accessFlags := 2, slot := 0, constantValue := 0 }, { name := "size", type := .int, accessFlags := 2, slot := 1, constantValue := 0 }]
  methods := #[k2m0, k2m1, k2m2]
  instanceTypes := #[(.array .int), .int]
  staticTypes := #[]
  resolved := Array.replicate 44 none
  statics := none }

def pool3 : Array CpInfo := pool [(2, .class_ 4), (1, u "java/lang/Object"), (0, u "<init>"), (0, u "()V"), (35, .class_ 44), (1, u "java/util/Objects"), (60, .methodref 106 107), (0, .class_ 108), (0, .nameAndType 109 110), (0, u "jdk/internal/util/Preconditions"), (0, u "checkIndex"), (0, u "(IILjava/util/function/BiFunction;)I"), (60, u "(II)I")] 12

def k3m0 : Method := { name := "<init>", desc := "()V", sig := { parameters := [], returnType := none }, accessFlags := 2, code := none }
def k3c1 : Code := { maxStack := 3, maxLocals := 2, code := jdk_31_method_17_code, exceptionTable := #[], attributes := #[] }
def k3m1 : Method := { name := "checkIndex", desc := "(II)I", sig := { parameters := [.int, .int], returnType := some .int }, accessFlags := 9, code := some k3c1 }
/-- java/util/Objects -/
def k3 : Class := { plain "java/util/Objects" (some 0) with
  accessFlags := 49
  interfaces := #[]
  cf := some (fileOf pool3 42 #[] #[{ accessFlags := 2, nameIndex := 5, descriptorIndex := 6, attributes := #[] }, { accessFlags := 9, nameIndex := 109, descriptorIndex := 171, attributes := #[] }] 49 2 #[] #[])
  fields := #[]
  methods := #[k3m0, k3m1]
  instanceTypes := #[]
  staticTypes := #[]
  resolved := Array.replicate 184 none
  statics := none }

def pool4 : Array CpInfo := pool [(2, .class_ 4), (1, u "java/lang/Object"), (0, u "<init>"), (0, u "()V"), (17, .class_ 26), (1, u "jdk/internal/util/Preconditions"), (6, u "checkIndex"), (21, .class_ 56), (0, u "jdk/internal/util/Preconditions$4"), (57, .class_ 115), (0, u "jdk/internal/util/Preconditions$1"), (7, u "SIOOBE_FORMATTER"), (0, u "Ljava/util/function/BiFunction;"), (0, .class_ 126), (0, u "jdk/internal/util/Preconditions$2"), (3, u "AIOOBE_FORMATTER"), (0, .class_ 132), (0, u "jdk/internal/util/Preconditions$3"), (3, u "IOOBE_FORMATTER"), (41, u "(IILjava/util/function/BiFunction;)I")] 15

def k4m0 : Method := { name := "<init>", desc := "()V", sig := { parameters := [], returnType := none }, accessFlags := 1, code := none }
def k4c1 : Code := { maxStack := 3, maxLocals := 3, code := jdk_41_method_11_code, exceptionTable := #[], attributes := #[] }
def k4m1 : Method := { name := "checkIndex", desc := "(IILjava/util/function/BiFunction;)I", sig := { parameters := [.int, .int, (.object "java/util/function/BiFunction")], returnType := some .int }, accessFlags := 9, code := some k4c1 }
/-- jdk/internal/util/Preconditions -/
def k4 : Class := { plain "jdk/internal/util/Preconditions" (some 0) with
  accessFlags := 33
  interfaces := #[]
  cf := some (fileOf pool4 24 #[.nestMembers #[55, 131, 125, 114]] #[{ accessFlags := 1, nameIndex := 5, descriptorIndex := 6, attributes := #[] }, { accessFlags := 9, nameIndex := 33, descriptorIndex := 178, attributes := #[] }] 33 2 #[] #[{ accessFlags := 25, nameIndex := 123, descriptorIndex := 124, attributes := #[] }, { accessFlags := 25, nameIndex := 130, descriptorIndex := 124, attributes := #[] }, { accessFlags := 25, nameIndex := 136, descriptorIndex := 124, attributes := #[] }])
  fields := #[{ name := "SIOOBE_FORMATTER", type := (.object "java/util/function/BiFunction"), accessFlags := 25, slot := 0, constantValue := 0 }, { name := "AIOOBE_FORMATTER", type := (.object "java/util/function/BiFunction"), accessFlags := 25, slot := 1, constantValue := 0 }, { name := "IOOBE_FORMATTER", type := (.object "java/util/function/BiFunction"), accessFlags := 25, slot := 2, constantValue := 0 }]
  methods := #[k4m0, k4m1]
  instanceTypes := #[]
  staticTypes := #[(.object "java/util/function/BiFunction"), (.object "java/util/function/BiFunction"), (.object "java/util/function/BiFunction")]
  resolved := Array.replicate 194 none
  statics := none }

def pool5 : Array CpInfo := pool [(2, .class_ 4), (1, u "java/lang/Object"), (0, u "<init>"), (0, u "()V"), (7, .class_ 16), (1, u "java/util/Arrays"), (57, .class_ 76), (1, u "java/util/Arrays$NaturalOrder"), (36, .class_ 115), (1, u "java/util/Arrays$LegacyMergeSort"), (1, u "Z"), (32, .methodref 151 152), (0, .class_ 153), (0, .nameAndType 154 155), (0, u "java/lang/System"), (0, u "arraycopy"), (0, u "(Ljava/lang/Object;ILjava/lang/Object;II)V"), (146, u "copyOf"), (1, .methodref 305 306), (0, .class_ 307), (0, .nameAndType 308 309), (0, u "java/lang/Math"), (0, u "min"), (0, u "(II)I"), (65, .class_ 376), (0, u "java/util/Arrays$ArrayList"), (68, u "$assertionsDisabled"), (269, u "MIN_ARRAY_SORT_GRAN"), (0, u "I"), (2, u "INSERTIONSORT_THRESHOLD"), (151, u "([II)[I"), (103, .class_ 976), (0, u "java/util/Arrays$ArrayItr")] 52

def k5m0 : Method := { name := "<init>", desc := "()V", sig := { parameters := [], returnType := none }, accessFlags := 2, code := none }
def k5c1 : Code := { maxStack := 6, maxLocals := 3, code := jdk_65_method_123_code, exceptionTable := #[], attributes := #[] }
def k5m1 : Method := { name := "copyOf", desc := "([II)[I", sig := { parameters := [(.array .int), .int], returnType := some (.array .int) }, accessFlags := 9, code := some k5c1 }
/-- java/util/Arrays -/
def k5 : Class := { plain "java/util/Arrays" (some 0) with
  accessFlags := 49
  interfaces := #[]
  cf := some (fileOf pool5 14 #[.nestMembers #[975, 375, 113, 74]] #[{ accessFlags := 2, nameIndex := 5, descriptorIndex := 6, attributes := #[] }, { accessFlags := 9, nameIndex := 302, descriptorIndex := 871, attributes := #[] }] 49 2 #[] #[{ accessFlags := 26, nameIndex := 715, descriptorIndex := 716, attributes := #[] }, { accessFlags := 26, nameIndex := 719, descriptorIndex := 716, attributes := #[] }, { accessFlags := 4120, nameIndex := 445, descriptorIndex := 117, attributes := #[] }])
  fields := #[{ name := "MIN_ARRAY_SORT_GRAN", type := .int, accessFlags := 26, slot := 0, constantValue := 0 }, { name := "INSERTIONSORT_THRESHOLD", type := .int, accessFlags := 26, slot := 1, constantValue := 0 }, { name := "$assertionsDisabled", type := .boolean, accessFlags := 4120, slot := 2, constantValue := 0 }]
  methods := #[k5m0, k5m1]
  instanceTypes := #[]
  staticTypes := #[.int, .int, .boolean]
  resolved := Array.replicate 1029 none
  statics := none }

def pool6 : Array CpInfo := pool [(1, .class_ 2), (0, u "java/lang/Math"), (1, .class_ 6), (1, u "java/lang/Object"), (0, u "<init>"), (0, u "()V"), (89, .class_ 100), (1, u "java/lang/Math$RandomNumberGeneratorHolder"), (71, u "negativeZeroFloatBits"), (0, u "J"), (2, u "negativeZeroDoubleBits"), (24, u "min"), (43, u "$assertionsDisabled"), (0, u "Z"), (88, u "(II)I"), (2, u "twoToTheDoubleScaleDown"), (0, u "D"), (4, u "twoToTheDoubleScaleUp"), (9, u "E"), (3, u "PI"), (2, u "TAU"), (2, u "DEGREES_TO_RADIANS"), (0, u "RADIANS_TO_DEGREES")] 94

def k6m0 : Method := { name := "<init>", desc := "()V", sig := { parameters := [], returnType := none }, accessFlags := 2, code := none }
def k6c1 : Code := { maxStack := 2, maxLocals := 2, code := jdk_29_method_69_code, exceptionTable := #[], attributes := #[] }
def k6m1 : Method := { name := "min", desc := "(II)I", sig := { parameters := [.int, .int], returnType := some .int }, accessFlags := 9, code := some k6c1 }
/-- java/lang/Math -/
def k6 : Class := { plain "java/lang/Math" (some 0) with
  accessFlags := 49
  interfaces := #[]
  cf := some (fileOf pool6 1 #[.nestMembers #[98]] #[{ accessFlags := 2, nameIndex := 7, descriptorIndex := 8, attributes := #[] }, { accessFlags := 9, nameIndex := 201, descriptorIndex := 335, attributes := #[] }] 49 4 #[] #[{ accessFlags := 25, nameIndex := 354, descriptorIndex := 339, attributes := #[] }, { accessFlags := 25, nameIndex := 358, descriptorIndex := 339, attributes := #[] }, { accessFlags := 25, nameIndex := 361, descriptorIndex := 339, attributes := #[] }, { accessFlags := 26, nameIndex := 364, descriptorIndex := 339, attributes := #[] }, { accessFlags := 26, nameIndex := 365, descriptorIndex := 339, attributes := #[] }, { accessFlags := 26, nameIndex := 172, descriptorIndex := 173, attributes := #[] }, { accessFlags := 26, nameIndex := 176, descriptorIndex := 173, attributes := #[] }, { accessFlags := 8, nameIndex := 344, descriptorIndex := 339, attributes := #[] }, { accessFlags := 8, nameIndex := 338, descriptorIndex := 339, attributes := #[] }, { accessFlags := 4120, nameIndex := 245, descriptorIndex := 246, attributes := #[] }])
  fields := #[{ name := "E", type := .double, accessFlags := 25, slot := 0, constantValue := 0 }, { name := "PI", type := .double, accessFlags := 25, slot := 1, constantValue := 0 }, { name := "TAU", type := .double, accessFlags := 25, slot := 2, constantValue := 0 }, { name := "DEGREES_TO_RADIANS", type := .double, accessFlags := 26, slot := 3, constantValue := 0 }, { name := "RADIANS_TO_DEGREES", type := .double, accessFlags := 26, slot := 4, constantValue := 0 }, { name := "negativeZeroFloatBits", type := .long, accessFlags := 26, slot := 5, constantValue := 0 }, { name := "negativeZeroDoubleBits", type := .long, accessFlags := 26, slot := 6, constantValue := 0 }, { name := "twoToTheDoubleScaleUp", type := .double, accessFlags := 8, slot := 7, constantValue := 0 }, { name := "twoToTheDoubleScaleDown", type := .double, accessFlags := 8, slot := 8, constantValue := 0 }, { name := "$assertionsDisabled", type := .boolean, accessFlags := 4120, slot := 9, constantValue := 0 }]
  methods := #[k6m0, k6m1]
  instanceTypes := #[]
  staticTypes := #[.double, .double, .double, .double, .double, .long, .long, .double, .double, .boolean]
  resolved := Array.replicate 460 none
  statics := none }

def pool7 : Array CpInfo := pool [(2, .class_ 4), (1, u "java/lang/Object"), (0, u "<init>"), (0, u "()V"), (1, .class_ 10), (1, u "java/lang/System"), (0, u "allowSecurityManager"), (0, u "I"), (16, u "cons"), (0, u "Ljava/io/Console;"), (77, .class_ 110), (1, u "java/lang/System$CallersHolder"), (43, u "initialErrStream"), (0, u "Ljava/io/PrintStream;"), (19, u "security"), (0, u "Ljava/lang/SecurityManager;"), (31, .class_ 209), (0, u "java/lang/System$1"), (7, u "props"), (0, u "Ljava/util/Properties;"), (2, u "lineSeparator"), (0, u "Ljava/lang/String;"), (96, .class_ 321), (1, u "java/lang/System$LoggerFinder"), (5, .class_ 328), (0, u "java/lang/System$Logger"), (67, u "err"), (2, u "out"), (91, u "notSupportedJnuEncoding"), (15, u "in"), (17, u "initialIn"), (0, u "Ljava/io/InputStream;"), (35, u "bootLayer"), (0, u "Ljava/lang/ModuleLayer;"), (99, .class_ 664), (0, u "java/lang/System$2"), (9, u "NEVER"), (2, u "MAYBE"), (49, u "arraycopy"), (0, u "(Ljava/lang/Object;ILjava/lang/Object;II)V"), (72, .class_ 802), (0, u "java/lang/System$Logger$Level")] 31

def k7m0 : Method := { name := "<init>", desc := "()V", sig := { parameters := [], returnType := none }, accessFlags := 2, code := none }
def k7m1 : Method := { name := "arraycopy", desc := "(Ljava/lang/Object;ILjava/lang/Object;II)V", sig := { parameters := [(.object "java/lang/Object"), .int, (.object "java/lang/Object"), .int, .int], returnType := none }, accessFlags := 265, code := none }
/-- java/lang/System -/
def k7 : Class := { plain "java/lang/System" (some 0) with
  accessFlags := 49
  interfaces := #[]
  cf := some (fileOf pool7 8 #[.nestMembers #[319, 327, 801, 108, 663, 208]] #[{ accessFlags := 2, nameIndex := 5, descriptorIndex := 6, attributes := #[] }, { accessFlags := 265, nameIndex := 727, descriptorIndex := 728, attributes := #[] }] 49 2 #[] #[{ accessFlags := 25, nameIndex := 507, descriptorIndex := 526, attributes := #[] }, { accessFlags := 25, nameIndex := 399, descriptorIndex := 155, attributes := #[] }, { accessFlags := 25, nameIndex := 396, descriptorIndex := 155, attributes := #[] }, { accessFlags := 10, nameIndex := 525, descriptorIndex := 526, attributes := #[] }, { accessFlags := 26, nameIndex := 674, descriptorIndex := 12, attributes := #[] }, { accessFlags := 26, nameIndex := 677, descriptorIndex := 12, attributes := #[] }, { accessFlags := 10, nameIndex := 11, descriptorIndex := 12, attributes := #[] }, { accessFlags := 74, nameIndex := 175, descriptorIndex := 176, attributes := #[] }, { accessFlags := 10, nameIndex := 491, descriptorIndex := 222, attributes := #[] }, { accessFlags := 74, nameIndex := 29, descriptorIndex := 30, attributes := #[] }, { accessFlags := 74, nameIndex := 154, descriptorIndex := 155, attributes := #[] }, { accessFlags := 10, nameIndex := 217, descriptorIndex := 218, attributes := #[] }, { accessFlags := 10, nameIndex := 221, descriptorIndex := 222, attributes := #[] }, { accessFlags := 8, nameIndex := 562, descriptorIndex := 563, attributes := #[] }])
  fields := #[{ name := "in", type := (.object "java/io/InputStream"), accessFlags := 25, slot := 0, constantValue := 0 }, { name := "out", type := (.object "java/io/PrintStream"), accessFlags := 25, slot := 1, constantValue := 0 }, { name := "err", type := (.object "java/io/PrintStream"), accessFlags := 25, slot := 2, constantValue := 0 }, { name := "initialIn", type := (.object "java/io/InputStream"), accessFlags := 10, slot := 3, constantValue := 0 }, { name := "NEVER", type := .int, accessFlags := 26, slot := 4, constantValue := 0 }, { name := "MAYBE", type := .int, accessFlags := 26, slot := 5, constantValue := 0 }, { name := "allowSecurityManager", type := .int, accessFlags := 10, slot := 6, constantValue := 0 }, { name := "security", type := (.object "java/lang/SecurityManager"), accessFlags := 74, slot := 7, constantValue := 0 }, { name := "notSupportedJnuEncoding", type := (.object "java/lang/String"), accessFlags := 10, slot := 8, constantValue := 0 }, { name := "cons", type := (.object "java/io/Console"), accessFlags := 74, slot := 9, constantValue := 0 }, { name := "initialErrStream", type := (.object "java/io/PrintStream"), accessFlags := 74, slot := 10, constantValue := 0 }, { name := "props", type := (.object "java/util/Properties"), accessFlags := 10, slot := 11, constantValue := 0 }, { name := "lineSeparator", type := (.object "java/lang/String"), accessFlags := 10, slot := 12, constantValue := 0 }, { name := "bootLayer", type := (.object "java/lang/ModuleLayer"), accessFlags := 8, slot := 13, constantValue := 0 }]
  methods := #[k7m0, k7m1]
  instanceTypes := #[]
  staticTypes := #[(.object "java/io/InputStream"), (.object "java/io/PrintStream"), (.object "java/io/PrintStream"), (.object "java/io/InputStream"), .int, .int, .int, (.object "java/lang/SecurityManager"), (.object "java/lang/String"), (.object "java/io/Console"), (.object "java/io/PrintStream"), (.object "java/util/Properties"), (.object "java/lang/String"), (.object "java/lang/ModuleLayer")]
  resolved := Array.replicate 834 none
  statics := none }

def pool8 : Array CpInfo := pool [(1, u "java/lang/Cloneable"), (0, .class_ 1), (0, u "java/lang/Object"), (0, .class_ 3)] 3

/-- java/lang/Cloneable -/
def k8 : Class := { plain "java/lang/Cloneable" (some 0) with
  accessFlags := 1537
  interfaces := #[]
  cf := some (fileOf pool8 2 #[] #[] 1537 4 #[] #[])
  fields := #[]
  methods := #[]
  instanceTypes := #[]
  staticTypes := #[]
  resolved := Array.replicate 8 none
  statics := none }

def pool9 : Array CpInfo := pool [(1, u "java/io/Serializable"), (0, .class_ 1), (0, u "java/lang/Object"), (0, .class_ 3)] 3

/-- java/io/Serializable -/
def k9 : Class := { plain "java/io/Serializable" (some 0) with
  accessFlags := 1537
  interfaces := #[]
  cf := some (fileOf pool9 2 #[] #[] 1537 4 #[] #[])
  fields := #[]
  methods := #[]
  instanceTypes := #[]
  staticTypes := #[]
  resolved := Array.replicate 8 none
  statics := none }

/-- the primitive byte -/
def k10 : Class := { plain "byte" none with kind := .primitive 'B', accessFlags := 0x411 }
/-- [B -/
def k11 : Class := { plain "[B" (some 0) with kind := .array 10 .byte, interfaces := #[8, 9], accessFlags := 1041 }

/-- the primitive int -/
def k12 : Class := { plain "int" none with kind := .primitive 'I', accessFlags := 0x411 }
/-- [I -/
def k13 : Class := { plain "[I" (some 0) with kind := .array 12 .int, interfaces := #[8, 9], accessFlags := 1041 }

def heap : Heap := #[]
def classes : Array Class := #[k0, k1, k2, k3, k4, k5, k6, k7, k8, k9, k10, k11, k12, k13]
def interned : List (Array UInt16 × Addr) := []
def slotsUsed : Nat := 0
def theMethod : MethodId := ⟨1, 2⟩
def args0 : Array Value := #[.int 5, .int 7, .int 9, .int 1, .int 2, .int 3]
def aboutOver (below : List Frame) : State where
  vm := { classes := classes, interned := interned.toArray }
  heap := heap
  slotsUsed := slotsUsed
  threads := #[{ frames := .invoking theMethod args0 :: below }]
def below0 : List Frame := [.native { method := ⟨0, 0⟩, args := #[] }]
def about1 : State := aboutOver below0
def p0 : Program := .bare "" "" ""
def e0 : Env := launch0.env 0 0 0
theorem w_frames : about1.frames = Frame.invoking theMethod args0 :: below0 := rfl
set_option maxRecDepth 65536 in
theorem w_args : argsFit about1.vm theMethod args0 = true := by decide +kernel
set_option maxRecDepth 65536 in
theorem w_heap : heapFits about1 = true := by decide +kernel
set_option maxRecDepth 65536 in
theorem w_runnable : about1.curStatus? = some .runnable := by decide +kernel
set_option maxRecDepth 65536 in
theorem w_alone : about1.alone = true := by decide +kernel
set_option maxRecDepth 65536 in
theorem w_named : about1.methodNamed? x = some theMethod := by decide +kernel
set_option maxRecDepth 65536 in
theorem w_hears : about1.hears theMethod below0 = true := by decide +kernel
set_option maxRecDepth 65536 in
theorem w_ripe : about1.ripe theMethod args0 below0 = true := by decide +kernel
theorem w_running : about1.status = .running := rfl
set_option maxRecDepth 65536 in
theorem w_room : about1.hasRoom e0.platform room_1 = true :=
  launch0.hasRoom_least _ room_1 (by decide +kernel) (by decide +kernel) (by decide +kernel) (by decide +kernel) (by decide +kernel) (by decide +kernel)
theorem allAtoms_all (ts : List Jvm.Cond) (a : Array Jvm.Value) (st : Jvm.State) : (allAtoms ts).before a st = ts.all (fun c => c.before a st) := by
  induction ts with
  | nil => rfl
  | cons c t ih =>
    show (Jvm.Cond.and c (allAtoms t)).before a st = _
    rw [Jvm.Cond.before_and, ih, List.all_cons]
def words1 : List Jvm.Cond := Jvm.Cond.code x code maxLocals ret :: tables_1
/-- a 'code' word, met by the world's own term for the bytes: nothing is compared byte by byte -/
theorem code_word {y : MethodName} {bytes : ByteArray} {mx : Nat} {rt : Option FieldType} {a : Array Value} {s : State} {m : MethodId} {meth : Method} {c : Code} (h1 : s.methodNamed? y = some m) (h2 : s.vm.method? m = some meth) (h3 : meth.code = some c) (h4 : c.code = bytes)
    (h5 : (c.maxLocals == mx && c.exceptionTable.isEmpty && decide (c.maxStack ≤ mostOperands) && decide (meth.sig.returnType = rt) && !meth.locks && decide (parseMethodDescriptor y.desc = some meth.sig)) = true) : (Jvm.Cond.code y bytes mx rt).before a s = true := by
  simp only [Bool.and_eq_true, beq_iff_eq, Bool.not_eq_true', decide_eq_true_eq] at h5
  obtain ⟨⟨⟨⟨⟨g1, g2⟩, g3⟩, g4⟩, g5⟩, g6⟩ := h5
  simp [Cond.before, Cond.holds, Cond.value, h1, h2, h3, h4, g1, g2, g3, g4, g5, g6]
def isCode : Jvm.Cond → Bool
  | .code _ _ _ _ => true
  | _ => false
theorem all_split {L : List Jvm.Cond} {P : Jvm.Cond → Bool} (h1 : L.all (fun c => isCode c || P c) = true) (h2 : ∀ c ∈ L.filter isCode, P c = true) : L.all P = true := by
  refine List.all_eq_true.mpr fun c hc => ?_
  have h := List.all_eq_true.mp h1 c hc
  rcases Bool.eq_false_or_eq_true (isCode c) with hi | hi
  · exact h2 c (List.mem_filter.mpr ⟨hc, hi⟩)
  · simpa [hi] using h
set_option maxRecDepth 65536 in
theorem w_c0 : (Jvm.Cond.code x code maxLocals ret).before args0 about1 = true := code_word (m := ⟨1, 2⟩) (meth := k1m2) (c := k1c2) (by decide +kernel) rfl rfl rfl (by decide +kernel)
set_option maxRecDepth 65536 in
theorem w_c1 : (Jvm.Cond.code ({ cls := "com/example/index_rank_fuse/indexrankfuse/IntList", name := "<init>", desc := "()V" } : Jvm.MethodName) prog_25_method_1_code (1 : Nat) (Option.none : Option Jvm.ClassFile.FieldType)).before args0 about1 = true := code_word (m := ⟨2, 0⟩) (meth := k2m0) (c := k2c0) (by decide +kernel) rfl rfl rfl (by decide +kernel)
set_option maxRecDepth 65536 in
theorem w_c2 : (Jvm.Cond.code ({ cls := "java/lang/Object", name := "<init>", desc := "()V" } : Jvm.MethodName) object_method_1_code (1 : Nat) (Option.none : Option Jvm.ClassFile.FieldType)).before args0 about1 = true := code_word (m := ⟨0, 0⟩) (meth := k0m0) (c := k0c0) (by decide +kernel) rfl rfl rfl (by decide +kernel)
set_option maxRecDepth 65536 in
theorem w_c3 : (Jvm.Cond.code ({ cls := "com/example/index_rank_fuse/indexrankfuse/IntList", name := "add", desc := "(I)V" } : Jvm.MethodName) prog_25_method_2_code (2 : Nat) (Option.none : Option Jvm.ClassFile.FieldType)).before args0 about1 = true := code_word (m := ⟨2, 1⟩) (meth := k2m1) (c := k2c1) (by decide +kernel) rfl rfl rfl (by decide +kernel)
set_option maxRecDepth 65536 in
theorem w_c4 : (Jvm.Cond.code ({ cls := "com/example/index_rank_fuse/indexrankfuse/IntList", name := "get", desc := "(I)I" } : Jvm.MethodName) prog_25_method_3_code (2 : Nat) (Option.some Jvm.ClassFile.FieldType.int)).before args0 about1 = true := code_word (m := ⟨2, 2⟩) (meth := k2m2) (c := k2c2) (by decide +kernel) rfl rfl rfl (by decide +kernel)
set_option maxRecDepth 65536 in
theorem w_c5 : (Jvm.Cond.code ({ cls := "java/util/Objects", name := "checkIndex", desc := "(II)I" } : Jvm.MethodName) jdk_31_method_17_code (2 : Nat) (Option.some Jvm.ClassFile.FieldType.int)).before args0 about1 = true := code_word (m := ⟨3, 1⟩) (meth := k3m1) (c := k3c1) (by decide +kernel) rfl rfl rfl (by decide +kernel)
set_option maxRecDepth 65536 in
theorem w_c6 : (Jvm.Cond.code ({ cls := "jdk/internal/util/Preconditions", name := "checkIndex", desc := "(IILjava/util/function/BiFunction;)I" } : Jvm.MethodName) jdk_41_method_11_code (3 : Nat) (Option.some Jvm.ClassFile.FieldType.int)).before args0 about1 = true := code_word (m := ⟨4, 1⟩) (meth := k4m1) (c := k4c1) (by decide +kernel) rfl rfl rfl (by decide +kernel)
set_option maxRecDepth 65536 in
theorem w_c7 : (Jvm.Cond.code ({ cls := "com/example/index_rank_fuse/indexrankfuse/IntListGetPinLaw", name := "nth", desc := "(IIIIII)I" } : Jvm.MethodName) method_2_code (6 : Nat) (Option.some Jvm.ClassFile.FieldType.int)).before args0 about1 = true := code_word (m := ⟨1, 1⟩) (meth := k1m1) (c := k1c1) (by decide +kernel) rfl rfl rfl (by decide +kernel)
set_option maxRecDepth 65536 in
theorem w_c8 : (Jvm.Cond.code ({ cls := "java/util/Arrays", name := "copyOf", desc := "([II)[I" } : Jvm.MethodName) jdk_65_method_123_code (3 : Nat) (Option.some (Jvm.ClassFile.FieldType.array Jvm.ClassFile.FieldType.int))).before args0 about1 = true := code_word (m := ⟨5, 1⟩) (meth := k5m1) (c := k5c1) (by decide +kernel) rfl rfl rfl (by decide +kernel)
set_option maxRecDepth 65536 in
theorem w_c9 : (Jvm.Cond.code ({ cls := "java/lang/Math", name := "min", desc := "(II)I" } : Jvm.MethodName) jdk_29_method_69_code (2 : Nat) (Option.some Jvm.ClassFile.FieldType.int)).before args0 about1 = true := code_word (m := ⟨6, 1⟩) (meth := k6m1) (c := k6c1) (by decide +kernel) rfl rfl rfl (by decide +kernel)
def codes1 : List Jvm.Cond := [Jvm.Cond.code x code maxLocals ret, Jvm.Cond.code ({ cls := "com/example/index_rank_fuse/indexrankfuse/IntList", name := "<init>", desc := "()V" } : Jvm.MethodName) prog_25_method_1_code (1 : Nat) (Option.none : Option Jvm.ClassFile.FieldType), Jvm.Cond.code ({ cls := "java/lang/Object", name := "<init>", desc := "()V" } : Jvm.MethodName) object_method_1_code (1 : Nat) (Option.none : Option Jvm.ClassFile.FieldType), Jvm.Cond.code ({ cls := "com/example/index_rank_fuse/indexrankfuse/IntList", name := "add", desc := "(I)V" } : Jvm.MethodName) prog_25_method_2_code (2 : Nat) (Option.none : Option Jvm.ClassFile.FieldType), Jvm.Cond.code ({ cls := "com/example/index_rank_fuse/indexrankfuse/IntList", name := "get", desc := "(I)I" } : Jvm.MethodName) prog_25_method_3_code (2 : Nat) (Option.some Jvm.ClassFile.FieldType.int), Jvm.Cond.code ({ cls := "java/util/Objects", name := "checkIndex", desc := "(II)I" } : Jvm.MethodName) jdk_31_method_17_code (2 : Nat) (Option.some Jvm.ClassFile.FieldType.int), Jvm.Cond.code ({ cls := "jdk/internal/util/Preconditions", name := "checkIndex", desc := "(IILjava/util/function/BiFunction;)I" } : Jvm.MethodName) jdk_41_method_11_code (3 : Nat) (Option.some Jvm.ClassFile.FieldType.int), Jvm.Cond.code ({ cls := "com/example/index_rank_fuse/indexrankfuse/IntListGetPinLaw", name := "nth", desc := "(IIIIII)I" } : Jvm.MethodName) method_2_code (6 : Nat) (Option.some Jvm.ClassFile.FieldType.int), Jvm.Cond.code ({ cls := "java/util/Arrays", name := "copyOf", desc := "([II)[I" } : Jvm.MethodName) jdk_65_method_123_code (3 : Nat) (Option.some (Jvm.ClassFile.FieldType.array Jvm.ClassFile.FieldType.int)), Jvm.Cond.code ({ cls := "java/lang/Math", name := "min", desc := "(II)I" } : Jvm.MethodName) jdk_29_method_69_code (2 : Nat) (Option.some Jvm.ClassFile.FieldType.int)]
set_option maxRecDepth 65536 in
theorem codes_eq : words1.filter isCode = codes1 := rfl
theorem w_codes : ∀ c ∈ words1.filter isCode, c.before args0 about1 = true := by
  rw [codes_eq]
  intro c hc
  simp only [codes1, List.mem_cons, List.not_mem_nil, or_false] at hc
  rcases hc with rfl | rfl | rfl | rfl | rfl | rfl | rfl | rfl | rfl | rfl
  · exact w_c0
  · exact w_c1
  · exact w_c2
  · exact w_c3
  · exact w_c4
  · exact w_c5
  · exact w_c6
  · exact w_c7
  · exact w_c8
  · exact w_c9
set_option maxRecDepth 65536 in
theorem w_t1 : (words1.take 24).all (fun c => isCode c || c.before args0 about1) = true := by decide +kernel
set_option maxRecDepth 65536 in
theorem w_t2 : ((words1.drop 24).take 24).all (fun c => isCode c || c.before args0 about1) = true := by decide +kernel
set_option maxRecDepth 65536 in
theorem w_t3 : ((words1.drop 24).drop 24).all (fun c => isCode c || c.before args0 about1) = true := by decide +kernel
theorem w_tables : (allAtoms (Jvm.Cond.code x code maxLocals ret :: tables_1)).before args0 about1 = true := by
  rw [allAtoms_all]
  show words1.all (fun c => c.before args0 about1) = true
  refine all_split ?_ w_codes
  rw [← List.take_append_drop 24 words1, List.all_append, w_t1, ← List.take_append_drop 24 (words1.drop 24), List.all_append, w_t2, w_t3]
  rfl
set_option maxRecDepth 65536 in
theorem w_case : (Jvm.Cond.and given_1 narrow_1).before args0 about1 = true := by decide +kernel
theorem w_applies : (headSpec (Jvm.Cond.code x code maxLocals ret :: tables_1) room_1).applies x e0.platform about1 = true :=
  (Spec.applies_iff w_frames).mpr ⟨w_running, w_runnable, w_alone, w_named, w_hears, w_ripe, w_room, w_tables⟩
theorem atStart : AtStart classFile x code maxLocals ret World_1 tables_1 room_1 Calls_1 rest_1 Pre_1 launch0 p0 e0 about1 theMethod args0 below0 :=
  ⟨lists_1, trivial, launch0.admits_env _ _ _, launch0.least_env, fairChoices_fair.cas, fairChoices_fair.clock, w_frames, w_args, w_heap, w_applies, trivial, trivial, w_case⟩
end start1
theorem witness_1 : WitnessClaimed_1 := ⟨start1.p0, start1.e0, start1.about1, start1.theMethod, start1.args0, start1.below0, start1.atStart⟩
end Jvm.Pilot.@@N@@
