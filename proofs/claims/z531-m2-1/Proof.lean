import JvmDerived
import JvmDerived.Pilot.@@N@@Statement
import JvmDerived.Pilot.@@N@@Code
set_option linter.unusedVariables false
set_option linter.unusedSimpArgs false
namespace Jvm.Wk
open Sem ClassFile Op Lib Jvm.Stand Jvm.Free Jvm.LawKit Jvm.RoadKit
/-- a boolean as an int -/
def b2 (P : Prop) [Decidable P] : Int32 := if P then 1 else 0
theorem b2_t {P : Prop} [Decidable P] (h : P) : b2 P = 1 := if_pos h
theorem b2_f {P : Prop} [Decidable P] (h : ¬ P) : b2 P = 0 := if_neg h
theorem b2_01 (P : Prop) [Decidable P] : b2 P = 0 ∨ b2 P = 1 := by by_cases h : P <;> simp [b2, h]
theorem b2_congr {P P' : Prop} [Decidable P] [Decidable P'] (h : P ↔ P') : b2 P = b2 P' := by simp only [b2, h]
theorem b2_int (P : Prop) [Decidable P] : (b2 P).toInt = if P then 1 else 0 := by by_cases h : P <;> simp [b2, h]
theorem b2_ne0 (P : Prop) [Decidable P] : (b2 P).toInt ≠ 0 ↔ P := by by_cases h : P <;> simp [b2, h]
theorem b2_eq0 (P : Prop) [Decidable P] : (b2 P).toInt = 0 ↔ ¬ P := by by_cases h : P <;> simp [b2, h]
theorem b2_inj (P P' : Prop) [Decidable P] [Decidable P'] : (b2 P).toInt = (b2 P').toInt ↔ (P ↔ P') := by by_cases h : P <;> by_cases h' : P' <;> simp [b2, h, h']
theorem eqI {x y : Int32} (h : x.toInt = y.toInt) : x = y := Int32.toInt_inj.mp h
theorem eqL {x y : Int64} (h : x.toInt = y.toInt) : x = y := Int64.toInt_inj.mp h
/-- from the frame f, with the heap h and so many cells and slots made, the body ends as Q says -/
def Go (p : Program) (l : Launch) (e : Env) (R : Room) (s : State) (m : MethodId) (args : Array Value) (below : List Frame) (meth : Method) (c : Code) (n0 : Nat) (Q : Option Value → Heap → Prop) (h : Heap) (kc ks : Nat) (f : JFrame) : Prop :=
  ∀ (T : State) (locs : List Loc), Stand p l e R s m args below meth c T locs kc ks → T.heap = h → Fr n0 locs →
    ∃ s₂ o, Steps p.tables e below (T.setTop f) s₂ ∧ s₂.status = .running ∧ Ended s₂ below o ∧ ∃ v L, o = .returned v ∧ (Q v s₂.heap ∧ Fr n0 L) ∧ FrameEnd s o s₂ L R.cells R.slots
/-- the ambient of a body's walk, hidden behind G -/
def Cx (l : Launch) (R : Room) (Z : State) (n0 : Nat) (Q : Option Value → Heap → Prop) (own nm : String) (bytes : ByteArray) (maxL : Nat) (ret : Option FieldType) (m : MethodId) (G : Heap → Nat → Nat → JFrame → Prop) : Prop :=
  ∃ (p : Program) (e : Env) (s : State) (args : Array Value) (below : List Frame) (meth : Method) (c : Code), G = Go p l e R s m args below meth c n0 Q ∧ p.tables.exec = Jvm.exec ∧ c.code = bytes ∧ c.maxLocals = maxL ∧ s.vm.findClass own = some m.cls ∧ Z.Warmed39 s.vm ∧ meth.sig.returnType = ret ∧ meth.locks = false ∧ meth.name = nm
/-- the contract of a body, asked with these arguments at this heap -/
def MeetsW (l : Launch) (Z : State) (n0 : Nat) (y : MethodName) (bytes : ByteArray) (maxL : Nat) (ret : Option FieldType) (rm : Room) (as' : Array Value) (h0 : Heap) (Q : Option Value → Heap → Prop) : Prop :=
  ∀ ws : List Cond, MetFree l y (head1 (Cond.code y bytes maxL ret :: ws) rm) (fun a U => a = as' ∧ Z.Warmed39 U.vm ∧ U.heap = h0) (fun _ _ _ _ _ => True) (fun _ U o U' => ∃ v L, o = .returned v ∧ (Q v U'.heap ∧ Fr n0 L) ∧ FrameEnd U o U' L rm.cells rm.slots)
/-- an array with just these values -/
def Ary (Z : State) (h : Heap) (a : Addr) (ty : FieldType) (vs : List Value) : Prop := ∃ c : Cell, Arr Z h a c ty ∧ c.slots.toList = vs ∧ vs.length < 2 ^ 31
section Facts
variable {Z : State} {h h' : Heap} {a b : Addr} {ty : FieldType} {vs : List Value} {v : Value} {sl : Nat} {ws : List Addr}
theorem Ary.lt (A : Ary Z h a ty vs) : a < h.size := by obtain ⟨c, A, -⟩ := A; exact A.lt
theorem Ary.ext (A : Ary Z h a ty vs) (E : Ext h h') : Ary Z h' a ty vs := by obtain ⟨c, A, r⟩ := A; exact ⟨c, A.ext E, r⟩
theorem Ary.other (A : Ary Z h b ty vs) (W : Wr h h' a sl v) (q : b ≠ a) : Ary Z h' b ty vs := by obtain ⟨c, A, r⟩ := A; exact ⟨c, A.other W q, r⟩
theorem Ary.keep (A : Ary Z h a ty vs) (K : Keep h h' ws) (q : a ∉ ws) : Ary Z h' a ty vs := by obtain ⟨c, A, r⟩ := A; exact ⟨c, ⟨K.2.1 a c A.1 q, A.2⟩, r⟩
theorem Ary.same (A : Ary Z h a ty vs) (W : Wr h h' a sl v) : Ary Z h' a ty (vs.set sl v) := by
  obtain ⟨c, A, r, r'⟩ := A
  refine ⟨_, A.same W, ?_, by rw [List.length_set]; exact r'⟩
  show (c.slots.setIfInBounds sl v).toList = _
  rw [Array.toList_setIfInBounds, r]
theorem clamp_of {j : Int32} {i : Nat} (hj : j.toInt = i) : j.toNatClampNeg = i := by simp only [Int32.toNatClampNeg, hj]; rfl
theorem in_of {c : Cell} {j : Int32} {i : Nat} (hj : j.toInt = i) (hi : i < c.slots.toList.length) : ¬ (j < 0 ∨ c.slots.size ≤ j.toNatClampNeg) := by
  rw [clamp_of hj]
  have h0 : ¬ j < 0 := by rw [Int32.lt_iff_toInt_lt, hj, show (0 : Int32).toInt = 0 from rfl]; omega
  rw [Array.length_toList] at hi
  intro q; rcases q with q | q
  · exact h0 q
  · omega
theorem at_of {c : Cell} {j : Int32} {i : Nat} {v : Value} (hj : j.toInt = i) (hv : c.slots.toList[i]? = some v) : c.slots[j.toNatClampNeg]? = some v := by
  rw [clamp_of hj, ← Array.getElem?_toList]; exact hv
theorem len_int {n : Nat} (h : n < 2 ^ 31) : n.toInt32.toInt = n := len_toInt h
theorem nar_byte_of {x : Int32} (h : -128 ≤ x.toInt ∧ x.toInt < 128) : nar .byte x = x := by
  apply Int32.toInt_inj.mp
  have q := c_i2b x
  show x.toInt8.toInt32.toInt = _
  omega
theorem nar_char_of {x : Int32} (h : 0 ≤ x.toInt ∧ x.toInt < 65536) : nar .char x = x := by
  apply Int32.toInt_inj.mp
  have q := c_i2c x
  show x.toUInt32.toUInt16.toUInt32.toInt32.toInt = _
  omega
theorem Ary.toArv {d : Value} (A : Ary Z h a ty vs) (hf : ∀ v ∈ vs, fits ty v = true) (hd : fits ty d = true) : ∃ (k : ClassId) (z : Int32), z.toInt = ((vs.length : Nat) : Int) ∧ Arv Z h a k ty z vs d := by
  obtain ⟨c, Ar, rfl, hlt⟩ := A
  have hl : c.slots.size < 2 ^ 31 := by rwa [Array.length_toList] at hlt
  refine ⟨c.cls, c.slots.size.toInt32, by rw [Array.length_toList]; exact len_int hl, c, Ar, rfl, by rw [clamp_of (len_int hl)], ?_, ?_, ?_⟩
  · rw [Int32.lt_iff_toInt_lt, len_int hl, show (0 : Int32).toInt = 0 from rfl]; omega
  · intro k hk; simp [List.getD_eq_getElem?_getD, hk]
  · intro i hi
    have q : c.slots.toList.getD i d = c.slots[i] := by simp [List.getD_eq_getElem?_getD, hi]
    rw [q]; exact hf _ (by simp)
theorem Arv.toAry {d : Value} {k : ClassId} {z : Int32} (F : Arv Z h a k ty z vs d) (hz : z.toInt = (vs.length : Nat)) : Ary Z h a ty vs := by
  obtain ⟨c, Ar, -, S, -, H, -⟩ := F
  rw [clamp_of hz] at S
  refine ⟨c, Ar, ?_, by have := z.toInt_lt; omega⟩
  apply List.ext_getElem?
  intro i
  by_cases hi : i < c.slots.size
  · rw [Array.getElem?_toList, H i hi, List.getD_eq_getElem?_getD]
    have hi' : i < vs.length := by omega
    simp [hi']
  · rw [List.getElem?_eq_none (by rw [Array.length_toList]; omega), List.getElem?_eq_none (by omega)]
theorem Fld.keepO {C n d : String} (F : Fld Z h a C n d v) (K : Keep h h' ws) (q : a ∉ ws) : Fld Z h' a C n d v := F.keep K q
theorem Keep.of_ext (E : Ext h h') : Keep h h' ws := (Keep.refl h ws).ext E
end Facts
section Steps
variable {l : Launch} {R : Room} {Z : State} {n0 : Nat} {Q : Option Value → Heap → Prop} {own nm : String} {bytes : ByteArray} {maxL : Nat} {ret : Option FieldType} {m : MethodId} {G : Heap → Nat → Nat → JFrame → Prop} {h : Heap} {kc ks pc pc' pc1 pc2 : Nat} {L L' : Array Slot} {S : List Value} {a0 : Array Value}
theorem MeetsW.intro {y : MethodName} {rm : Room} {as' : Array Value} {h0 : Heap} (hpl : plainFor y = true) {L0 : Array Slot} (hef : ∀ m, entryFrame m as' maxL = mkF m 0 L0 [])
    (body : ∀ m G, Cx l rm Z n0 Q y.cls y.name bytes maxL ret m G → G h0 0 0 (mkF m 0 L0 [])) : MeetsW l Z n0 y bytes maxL ret rm as' h0 Q := by
  intro ws
  refine MetFree.of_bodySF hpl hisR ?_
  intro p e s m args below meth c s₁ Bd hml0 hP hK
  obtain ⟨rfl, hZ, hh⟩ := hP
  have hnm := (name_of_methodNamed Bd.named Bd.method).1
  have X0 : Stand p l e rm s m args below meth c s₁ [] 0 0 := Stand.of_body Bd
  have e0 : s₁.heap = h0 := by rw [← hh, Bd.state]; rfl
  have q := body m _ ⟨p, e, s, args, below, meth, c, rfl, Bd.exec, Bd.bytes, hml0, findClass_of_methodNamed Bd.named, hZ, Bd.returns, Bd.notSynchronized, hnm⟩ s₁ [] X0 e0 (Fr.nil n0)
  rw [hef]; exact q
theorem Cx.step (K : Cx l R Z n0 Q own nm bytes maxL ret m G) {f f' : JFrame}
    (hs : ∀ (p : Program) (e : Env) (below : List Frame) (T : State) (c : Code), At T m c below → p.tables.exec = Jvm.exec → c.code = bytes → ∀ t, Steps p.tables e below (T.setTop f') t → Steps p.tables e below (T.setTop f) t)
    (hr : G h kc ks f') : G h kc ks f := by
  obtain ⟨p, e, s, args, below, meth, c, rfl, hx, hby, hml, hown, hZ, hret, hlk, hn⟩ := K
  intro T locs X eT N
  obtain ⟨s₂, o, h1, h2⟩ := hr T locs X eT N
  exact ⟨s₂, o, hs p e below T c X.here hx hby _ h1, h2⟩
theorem Cx.stepX (K : Cx l R Z n0 Q own nm bytes maxL ret m G) {f f' : JFrame} {h' : Heap}
    (hs : ∀ (p : Program) (e : Env) (s : State) (args : Array Value) (below : List Frame) (meth : Method) (c : Code) (T : State) (locs : List Loc), Stand p l e R s m args below meth c T locs kc ks → T.heap = h → p.tables.exec = Jvm.exec → c.code = bytes → s.vm.findClass own = some m.cls → Z.Warmed39 s.vm → ∃ T', Stand p l e R s m args below meth c T' locs kc ks ∧ T'.heap = h ∧ ∀ t, Steps p.tables e below (T'.setTop f') t → Steps p.tables e below (T.setTop f) t)
    (hr : G h kc ks f') : G h kc ks f := by
  obtain ⟨p, e, s, args, below, meth, c, rfl, hx, hby, hml, hown, hZ, hret, hlk, hn⟩ := K
  intro T locs X eT N
  obtain ⟨T', X', e', st⟩ := hs p e s args below meth c T locs X eT hx hby hown hZ
  obtain ⟨s₂, o, h1, h2⟩ := hr T' locs X' e' N
  exact ⟨s₂, o, st _ h1, h2⟩
theorem Cx.cast (K : Cx l R Z n0 Q own nm bytes maxL ret m G) {f f' : JFrame} (q : f = f') (hr : G h kc ks f') : G h kc ks f := q ▸ hr
theorem Cx.iloadN (K : Cx l R Z n0 Q own nm bytes maxL ret m G) {k : Fin 4} {v : Int32} (hd : decode bytes pc = .ok (.iload_n k, 1)) (hp : pc + 1 = pc') (hl : L[k.val]? = some (.val (.int v))) (hr : G h kc ks (mkF m pc' L (.int v :: S))) : G h kc ks (mkF m pc L (S)) := by
  subst hp
  exact K.step (fun p e below T c h hx hb0 t hr => XS.iloadN h hx rfl (hb hb0 hd) hl hr) hr
theorem Cx.iload (K : Cx l R Z n0 Q own nm bytes maxL ret m G) {k : Nat} {v : Int32} (hd : decode bytes pc = .ok (.iload k, 2)) (hp : pc + 2 = pc') (hl : L[k]? = some (.val (.int v))) (hr : G h kc ks (mkF m pc' L (.int v :: S))) : G h kc ks (mkF m pc L (S)) := by
  subst hp
  exact K.step (fun p e below T c h hx hb0 t hr => XS.iload h hx rfl (hb hb0 hd) hl hr) hr
theorem Cx.istoreN (K : Cx l R Z n0 Q own nm bytes maxL ret m G) {k : Fin 4} {x : Int32} (hd : decode bytes pc = .ok (.istore_n k, 1)) (hp : pc + 1 = pc') (hl : storeLocals L k.val (.int x) = some L') (hr : G h kc ks (mkF m pc' L' (S))) : G h kc ks (mkF m pc L (.int x :: S)) := by
  subst hp
  exact K.step (fun p e below T c h hx hb0 t hr => XS.istoreN h hx rfl (hb hb0 hd) rfl hl hr) hr
theorem Cx.istore (K : Cx l R Z n0 Q own nm bytes maxL ret m G) {k : Nat} {x : Int32} (hd : decode bytes pc = .ok (.istore k, 2)) (hp : pc + 2 = pc') (hl : storeLocals L k (.int x) = some L') (hr : G h kc ks (mkF m pc' L' (S))) : G h kc ks (mkF m pc L (.int x :: S)) := by
  subst hp
  exact K.step (fun p e below T c h hx hb0 t hr => XS.istore h hx rfl (hb hb0 hd) rfl hl hr) hr
theorem Cx.lloadN (K : Cx l R Z n0 Q own nm bytes maxL ret m G) {k : Fin 4} {v : Int64} (hd : decode bytes pc = .ok (.lload_n k, 1)) (hp : pc + 1 = pc') (hl : L[k.val]? = some (.val (.long v))) (hr : G h kc ks (mkF m pc' L (.long v :: S))) : G h kc ks (mkF m pc L (S)) := by
  subst hp
  exact K.step (fun p e below T c h hx hb0 t hr => XS.lloadN h hx rfl (hb hb0 hd) hl hr) hr
theorem Cx.lload (K : Cx l R Z n0 Q own nm bytes maxL ret m G) {k : Nat} {v : Int64} (hd : decode bytes pc = .ok (.lload k, 2)) (hp : pc + 2 = pc') (hl : L[k]? = some (.val (.long v))) (hr : G h kc ks (mkF m pc' L (.long v :: S))) : G h kc ks (mkF m pc L (S)) := by
  subst hp
  exact K.step (fun p e below T c h hx hb0 t hr => XS.lload h hx rfl (hb hb0 hd) hl hr) hr
theorem Cx.lstoreN (K : Cx l R Z n0 Q own nm bytes maxL ret m G) {k : Fin 4} {x : Int64} (hd : decode bytes pc = .ok (.lstore_n k, 1)) (hp : pc + 1 = pc') (hl : storeLocals L k.val (.long x) = some L') (hr : G h kc ks (mkF m pc' L' (S))) : G h kc ks (mkF m pc L (.long x :: S)) := by
  subst hp
  exact K.step (fun p e below T c h hx hb0 t hr => XS.lstoreN h hx rfl (hb hb0 hd) rfl hl hr) hr
theorem Cx.lstore (K : Cx l R Z n0 Q own nm bytes maxL ret m G) {k : Nat} {x : Int64} (hd : decode bytes pc = .ok (.lstore k, 2)) (hp : pc + 2 = pc') (hl : storeLocals L k (.long x) = some L') (hr : G h kc ks (mkF m pc' L' (S))) : G h kc ks (mkF m pc L (.long x :: S)) := by
  subst hp
  exact K.step (fun p e below T c h hx hb0 t hr => XS.lstore h hx rfl (hb hb0 hd) rfl hl hr) hr
theorem Cx.aloadN (K : Cx l R Z n0 Q own nm bytes maxL ret m G) {k : Fin 4} {v : Value} (hd : decode bytes pc = .ok (.aload_n k, 1)) (hp : pc + 1 = pc') (hl : L[k.val]? = some (.val v)) (hv : v.isRef = true) (hr : G h kc ks (mkF m pc' L (v :: S))) : G h kc ks (mkF m pc L (S)) := by
  subst hp
  exact K.step (fun p e below T c h hx hb0 t hr => XS.aloadN h hx rfl (hb hb0 hd) hl hv hr) hr
theorem Cx.aload (K : Cx l R Z n0 Q own nm bytes maxL ret m G) {k : Nat} {v : Value} (hd : decode bytes pc = .ok (.aload k, 2)) (hp : pc + 2 = pc') (hl : L[k]? = some (.val v)) (hv : v.isRef = true) (hr : G h kc ks (mkF m pc' L (v :: S))) : G h kc ks (mkF m pc L (S)) := by
  subst hp
  exact K.step (fun p e below T c h hx hb0 t hr => XS.aload h hx rfl (hb hb0 hd) hl hv hr) hr
theorem Cx.astoreN (K : Cx l R Z n0 Q own nm bytes maxL ret m G) {k : Fin 4} {x : Value} (hd : decode bytes pc = .ok (.astore_n k, 1)) (hp : pc + 1 = pc') (hv : x.isRef = true) (hl : storeLocals L k.val x = some L') (hr : G h kc ks (mkF m pc' L' (S))) : G h kc ks (mkF m pc L (x :: S)) := by
  subst hp
  exact K.step (fun p e below T c h hx hb0 t hr => XS.astoreN h hx rfl (hb hb0 hd) rfl hv hl hr) hr
theorem Cx.astore (K : Cx l R Z n0 Q own nm bytes maxL ret m G) {k : Nat} {x : Value} (hd : decode bytes pc = .ok (.astore k, 2)) (hp : pc + 2 = pc') (hv : x.isRef = true) (hl : storeLocals L k x = some L') (hr : G h kc ks (mkF m pc' L' (S))) : G h kc ks (mkF m pc L (x :: S)) := by
  subst hp
  exact K.step (fun p e below T c h hx hb0 t hr => XS.astore h hx rfl (hb hb0 hd) rfl hv hl hr) hr
theorem Cx.dloadN (K : Cx l R Z n0 Q own nm bytes maxL ret m G) {k : Fin 4} {v : UInt64} (hd : decode bytes pc = .ok (.dload_n k, 1)) (hp : pc + 1 = pc') (hl : L[k.val]? = some (.val (.double v))) (hr : G h kc ks (mkF m pc' L (.double v :: S))) : G h kc ks (mkF m pc L (S)) := by
  subst hp
  exact K.step (fun p e below T c h hx hb0 t hr => XS.dloadN h hx rfl (hb hb0 hd) hl hr) hr
theorem Cx.dload (K : Cx l R Z n0 Q own nm bytes maxL ret m G) {k : Nat} {v : UInt64} (hd : decode bytes pc = .ok (.dload k, 2)) (hp : pc + 2 = pc') (hl : L[k]? = some (.val (.double v))) (hr : G h kc ks (mkF m pc' L (.double v :: S))) : G h kc ks (mkF m pc L (S)) := by
  subst hp
  exact K.step (fun p e below T c h hx hb0 t hr => XS.dload h hx rfl (hb hb0 hd) hl hr) hr
theorem Cx.dstoreN (K : Cx l R Z n0 Q own nm bytes maxL ret m G) {k : Fin 4} {x : UInt64} (hd : decode bytes pc = .ok (.dstore_n k, 1)) (hp : pc + 1 = pc') (hl : storeLocals L k.val (.double x) = some L') (hr : G h kc ks (mkF m pc' L' (S))) : G h kc ks (mkF m pc L (.double x :: S)) := by
  subst hp
  exact K.step (fun p e below T c h hx hb0 t hr => XS.dstoreN h hx rfl (hb hb0 hd) rfl hl hr) hr
theorem Cx.dstore (K : Cx l R Z n0 Q own nm bytes maxL ret m G) {k : Nat} {x : UInt64} (hd : decode bytes pc = .ok (.dstore k, 2)) (hp : pc + 2 = pc') (hl : storeLocals L k (.double x) = some L') (hr : G h kc ks (mkF m pc' L' (S))) : G h kc ks (mkF m pc L (.double x :: S)) := by
  subst hp
  exact K.step (fun p e below T c h hx hb0 t hr => XS.dstore h hx rfl (hb hb0 hd) rfl hl hr) hr
theorem Cx.dconst0 (K : Cx l R Z n0 Q own nm bytes maxL ret m G) {z : UInt64} (hd : decode bytes pc = .ok (.dconst 0, 1)) (hp : pc + 1 = pc') (hz : FP.dconst0 = z) (hr : G h kc ks (mkF m pc' L (.double z :: S))) : G h kc ks (mkF m pc L (S)) := by
  subst hp hz
  exact K.step (fun p e below T c h hx hb0 t hr => XS.dconst0 h hx rfl (hb hb0 hd) rfl hr) hr
theorem Cx.dconst1 (K : Cx l R Z n0 Q own nm bytes maxL ret m G) {z : UInt64} (hd : decode bytes pc = .ok (.dconst 1, 1)) (hp : pc + 1 = pc') (hz : FP.dconst1 = z) (hr : G h kc ks (mkF m pc' L (.double z :: S))) : G h kc ks (mkF m pc L (S)) := by
  subst hp hz
  exact K.step (fun p e below T c h hx hb0 t hr => XS.dconst1 h hx rfl (hb hb0 hd) rfl hr) hr
theorem Cx.i2d (K : Cx l R Z n0 Q own nm bytes maxL ret m G) {x : Int32} {z : UInt64} (hd : decode bytes pc = .ok (.i2d, 1)) (hp : pc + 1 = pc') (hz : FP.i2d x = z) (hr : G h kc ks (mkF m pc' L (.double z :: S))) : G h kc ks (mkF m pc L (.int x :: S)) := by
  subst hp hz
  exact K.step (fun p e below T c h hx hb0 t hr => XS.i2dS h hx rfl (hb hb0 hd) rfl rfl hr) hr
theorem Cx.l2d (K : Cx l R Z n0 Q own nm bytes maxL ret m G) {x : Int64} {z : UInt64} (hd : decode bytes pc = .ok (.l2d, 1)) (hp : pc + 1 = pc') (hz : FP.l2d x = z) (hr : G h kc ks (mkF m pc' L (.double z :: S))) : G h kc ks (mkF m pc L (.long x :: S)) := by
  subst hp hz
  exact K.step (fun p e below T c h hx hb0 t hr => XS.l2dS h hx rfl (hb hb0 hd) rfl rfl hr) hr
theorem Cx.d2l (K : Cx l R Z n0 Q own nm bytes maxL ret m G) {x : UInt64} {z : Int64} (hd : decode bytes pc = .ok (.d2l, 1)) (hp : pc + 1 = pc') (hz : FP.d2l x = z) (hr : G h kc ks (mkF m pc' L (.long z :: S))) : G h kc ks (mkF m pc L (.double x :: S)) := by
  subst hp hz
  exact K.step (fun p e below T c h hx hb0 t hr => XS.d2lS h hx rfl (hb hb0 hd) rfl rfl hr) hr
theorem Cx.dadd (K : Cx l R Z n0 Q own nm bytes maxL ret m G) {x y z : UInt64} (hd : decode bytes pc = .ok (.dadd, 1)) (hp : pc + 1 = pc') (hn : Jvm.Free.Fl.NoNaN64 (FP.dadd x y)) (hz : FP.dadd x y = z) (hr : G h kc ks (mkF m pc' L (.double z :: S))) : G h kc ks (mkF m pc L (.double y :: .double x :: S)) := by
  subst hp hz
  exact K.step (fun p e below T c h hx hb0 t hr => XS.daddS h hx rfl (hb hb0 hd) rfl hn rfl hr) hr
theorem Cx.dmul (K : Cx l R Z n0 Q own nm bytes maxL ret m G) {x y z : UInt64} (hd : decode bytes pc = .ok (.dmul, 1)) (hp : pc + 1 = pc') (hn : Jvm.Free.Fl.NoNaN64 (FP.dmul x y)) (hz : FP.dmul x y = z) (hr : G h kc ks (mkF m pc' L (.double z :: S))) : G h kc ks (mkF m pc L (.double y :: .double x :: S)) := by
  subst hp hz
  exact K.step (fun p e below T c h hx hb0 t hr => XS.dmulS h hx rfl (hb hb0 hd) rfl hn rfl hr) hr
theorem Cx.ddiv (K : Cx l R Z n0 Q own nm bytes maxL ret m G) {x y z : UInt64} (hd : decode bytes pc = .ok (.ddiv, 1)) (hp : pc + 1 = pc') (hn : Jvm.Free.Fl.NoNaN64 (FP.ddiv x y)) (hz : FP.ddiv x y = z) (hr : G h kc ks (mkF m pc' L (.double z :: S))) : G h kc ks (mkF m pc L (.double y :: .double x :: S)) := by
  subst hp hz
  exact K.step (fun p e below T c h hx hb0 t hr => XS.ddivS h hx rfl (hb hb0 hd) rfl hn rfl hr) hr
theorem Cx.dsub (K : Cx l R Z n0 Q own nm bytes maxL ret m G) {x y z : UInt64} (hd : decode bytes pc = .ok (.dsub, 1)) (hp : pc + 1 = pc') (hn : Jvm.Free.Fl.NoNaN64 (FP.dsub x y)) (hz : FP.dsub x y = z) (hr : G h kc ks (mkF m pc' L (.double z :: S))) : G h kc ks (mkF m pc L (.double y :: .double x :: S)) := by
  subst hp hz
  exact K.step (fun p e below T c h hx hb0 t hr => XS.dsubS h hx rfl (hb hb0 hd) rfl hn rfl hr) hr
theorem Cx.dcmp (K : Cx l R Z n0 Q own nm bytes maxL ret m G) {o : CmpOp} {x y : UInt64} {z : Int32} (hd : decode bytes pc = .ok (.dcmp o, 1)) (hp : pc + 1 = pc') (hz : cmpValue (FP.dcmp x y) o = z) (hr : G h kc ks (mkF m pc' L (.int z :: S))) : G h kc ks (mkF m pc L (.double y :: .double x :: S)) := by
  subst hp hz
  exact K.step (fun p e below T c h hx hb0 t hr => XS.dcmpS h hx rfl (hb hb0 hd) rfl rfl hr) hr
theorem Cx.iconst (K : Cx l R Z n0 Q own nm bytes maxL ret m G) {i : Int} {z : Int32} (hd : decode bytes pc = .ok (.iconst i, 1)) (hp : pc + 1 = pc') (hz : Int32.ofInt i = z) (hr : G h kc ks (mkF m pc' L (.int z :: S))) : G h kc ks (mkF m pc L (S)) := by
  subst hp hz
  exact K.step (fun p e below T c h hx hb0 t hr => XS.iconst h hx rfl (hb hb0 hd) hr) hr
theorem Cx.bipush (K : Cx l R Z n0 Q own nm bytes maxL ret m G) {i : Int} {z : Int32} (hd : decode bytes pc = .ok (.bipush i, 2)) (hp : pc + 2 = pc') (hz : (Int8.ofInt i).toInt32 = z) (hr : G h kc ks (mkF m pc' L (.int z :: S))) : G h kc ks (mkF m pc L (S)) := by
  subst hp hz
  exact K.step (fun p e below T c h hx hb0 t hr => XS.bipush h hx rfl (hb hb0 hd) hr) hr
theorem Cx.sipush (K : Cx l R Z n0 Q own nm bytes maxL ret m G) {i : Int} {z : Int32} (hd : decode bytes pc = .ok (.sipush i, 3)) (hp : pc + 3 = pc') (hz : (Int16.ofInt i).toInt32 = z) (hr : G h kc ks (mkF m pc' L (.int z :: S))) : G h kc ks (mkF m pc L (S)) := by
  subst hp hz
  exact K.step (fun p e below T c h hx hb0 t hr => XS.sipush h hx rfl (hb hb0 hd) hr) hr
theorem Cx.lconst (K : Cx l R Z n0 Q own nm bytes maxL ret m G) {k : Fin 2} {z : Int64} (hd : decode bytes pc = .ok (.lconst k, 1)) (hp : pc + 1 = pc') (hz : Int64.ofNat k = z) (hr : G h kc ks (mkF m pc' L (.long z :: S))) : G h kc ks (mkF m pc L (S)) := by
  subst hp hz
  exact K.step (fun p e below T c h hx hb0 t hr => XS.lconst h hx rfl (hb hb0 hd) hr) hr
theorem Cx.anull (K : Cx l R Z n0 Q own nm bytes maxL ret m G) (hd : decode bytes pc = .ok (.aconst_null, 1)) (hp : pc + 1 = pc')  (hr : G h kc ks (mkF m pc' L (.null :: S))) : G h kc ks (mkF m pc L (S)) := by
  subst hp
  exact K.step (fun p e below T c h hx hb0 t hr => XS.aconstNull h hx rfl (hb hb0 hd) hr) hr
theorem Cx.iadd (K : Cx l R Z n0 Q own nm bytes maxL ret m G) {x y z : Int32} (hd : decode bytes pc = .ok (.iadd, 1)) (hp : pc + 1 = pc') (hz : x + y = z) (hr : G h kc ks (mkF m pc' L (.int z :: S))) : G h kc ks (mkF m pc L (.int y :: .int x :: S)) := by
  subst hp hz
  exact K.step (fun p e below T c h hx hb0 t hr => XS.iadd h hx rfl (hb hb0 hd) rfl hr) hr
theorem Cx.ladd (K : Cx l R Z n0 Q own nm bytes maxL ret m G) {x y z : Int64} (hd : decode bytes pc = .ok (.ladd, 1)) (hp : pc + 1 = pc') (hz : x + y = z) (hr : G h kc ks (mkF m pc' L (.long z :: S))) : G h kc ks (mkF m pc L (.long y :: .long x :: S)) := by
  subst hp hz
  exact K.step (fun p e below T c h hx hb0 t hr => XS.ladd h hx rfl (hb hb0 hd) rfl hr) hr
theorem Cx.isub (K : Cx l R Z n0 Q own nm bytes maxL ret m G) {x y z : Int32} (hd : decode bytes pc = .ok (.isub, 1)) (hp : pc + 1 = pc') (hz : x - y = z) (hr : G h kc ks (mkF m pc' L (.int z :: S))) : G h kc ks (mkF m pc L (.int y :: .int x :: S)) := by
  subst hp hz
  exact K.step (fun p e below T c h hx hb0 t hr => XS.isub h hx rfl (hb hb0 hd) rfl hr) hr
theorem Cx.lsub (K : Cx l R Z n0 Q own nm bytes maxL ret m G) {x y z : Int64} (hd : decode bytes pc = .ok (.lsub, 1)) (hp : pc + 1 = pc') (hz : x - y = z) (hr : G h kc ks (mkF m pc' L (.long z :: S))) : G h kc ks (mkF m pc L (.long y :: .long x :: S)) := by
  subst hp hz
  exact K.step (fun p e below T c h hx hb0 t hr => XS.lsub h hx rfl (hb hb0 hd) rfl hr) hr
theorem Cx.imul (K : Cx l R Z n0 Q own nm bytes maxL ret m G) {x y z : Int32} (hd : decode bytes pc = .ok (.imul, 1)) (hp : pc + 1 = pc') (hz : x * y = z) (hr : G h kc ks (mkF m pc' L (.int z :: S))) : G h kc ks (mkF m pc L (.int y :: .int x :: S)) := by
  subst hp hz
  exact K.step (fun p e below T c h hx hb0 t hr => XS.imul h hx rfl (hb hb0 hd) rfl hr) hr
theorem Cx.lmul (K : Cx l R Z n0 Q own nm bytes maxL ret m G) {x y z : Int64} (hd : decode bytes pc = .ok (.lmul, 1)) (hp : pc + 1 = pc') (hz : x * y = z) (hr : G h kc ks (mkF m pc' L (.long z :: S))) : G h kc ks (mkF m pc L (.long y :: .long x :: S)) := by
  subst hp hz
  exact K.step (fun p e below T c h hx hb0 t hr => XS.lmul h hx rfl (hb hb0 hd) rfl hr) hr
theorem Cx.iand (K : Cx l R Z n0 Q own nm bytes maxL ret m G) {x y z : Int32} (hd : decode bytes pc = .ok (.iand, 1)) (hp : pc + 1 = pc') (hz : x &&& y = z) (hr : G h kc ks (mkF m pc' L (.int z :: S))) : G h kc ks (mkF m pc L (.int y :: .int x :: S)) := by
  subst hp hz
  exact K.step (fun p e below T c h hx hb0 t hr => XS.iand h hx rfl (hb hb0 hd) rfl hr) hr
theorem Cx.land (K : Cx l R Z n0 Q own nm bytes maxL ret m G) {x y z : Int64} (hd : decode bytes pc = .ok (.land, 1)) (hp : pc + 1 = pc') (hz : x &&& y = z) (hr : G h kc ks (mkF m pc' L (.long z :: S))) : G h kc ks (mkF m pc L (.long y :: .long x :: S)) := by
  subst hp hz
  exact K.step (fun p e below T c h hx hb0 t hr => XS.land h hx rfl (hb hb0 hd) rfl hr) hr
theorem Cx.ior (K : Cx l R Z n0 Q own nm bytes maxL ret m G) {x y z : Int32} (hd : decode bytes pc = .ok (.ior, 1)) (hp : pc + 1 = pc') (hz : x ||| y = z) (hr : G h kc ks (mkF m pc' L (.int z :: S))) : G h kc ks (mkF m pc L (.int y :: .int x :: S)) := by
  subst hp hz
  exact K.step (fun p e below T c h hx hb0 t hr => XS.ior h hx rfl (hb hb0 hd) rfl hr) hr
theorem Cx.lor (K : Cx l R Z n0 Q own nm bytes maxL ret m G) {x y z : Int64} (hd : decode bytes pc = .ok (.lor, 1)) (hp : pc + 1 = pc') (hz : x ||| y = z) (hr : G h kc ks (mkF m pc' L (.long z :: S))) : G h kc ks (mkF m pc L (.long y :: .long x :: S)) := by
  subst hp hz
  exact K.step (fun p e below T c h hx hb0 t hr => XS.lor h hx rfl (hb hb0 hd) rfl hr) hr
theorem Cx.ixor (K : Cx l R Z n0 Q own nm bytes maxL ret m G) {x y z : Int32} (hd : decode bytes pc = .ok (.ixor, 1)) (hp : pc + 1 = pc') (hz : x ^^^ y = z) (hr : G h kc ks (mkF m pc' L (.int z :: S))) : G h kc ks (mkF m pc L (.int y :: .int x :: S)) := by
  subst hp hz
  exact K.step (fun p e below T c h hx hb0 t hr => XS.ixor h hx rfl (hb hb0 hd) rfl hr) hr
theorem Cx.lxor (K : Cx l R Z n0 Q own nm bytes maxL ret m G) {x y z : Int64} (hd : decode bytes pc = .ok (.lxor, 1)) (hp : pc + 1 = pc') (hz : x ^^^ y = z) (hr : G h kc ks (mkF m pc' L (.long z :: S))) : G h kc ks (mkF m pc L (.long y :: .long x :: S)) := by
  subst hp hz
  exact K.step (fun p e below T c h hx hb0 t hr => XS.lxor h hx rfl (hb hb0 hd) rfl hr) hr
theorem Cx.ishl (K : Cx l R Z n0 Q own nm bytes maxL ret m G) {x y z : Int32} (hd : decode bytes pc = .ok (.ishl, 1)) (hp : pc + 1 = pc') (hz : x <<< (y &&& 31) = z) (hr : G h kc ks (mkF m pc' L (.int z :: S))) : G h kc ks (mkF m pc L (.int y :: .int x :: S)) := by
  subst hp hz
  exact K.step (fun p e below T c h hx hb0 t hr => XS.ishl h hx rfl (hb hb0 hd) rfl hr) hr
theorem Cx.ishr (K : Cx l R Z n0 Q own nm bytes maxL ret m G) {x y z : Int32} (hd : decode bytes pc = .ok (.ishr, 1)) (hp : pc + 1 = pc') (hz : x >>> (y &&& 31) = z) (hr : G h kc ks (mkF m pc' L (.int z :: S))) : G h kc ks (mkF m pc L (.int y :: .int x :: S)) := by
  subst hp hz
  exact K.step (fun p e below T c h hx hb0 t hr => XS.ishr h hx rfl (hb hb0 hd) rfl hr) hr
theorem Cx.iushr (K : Cx l R Z n0 Q own nm bytes maxL ret m G) {x y z : Int32} (hd : decode bytes pc = .ok (.iushr, 1)) (hp : pc + 1 = pc') (hz : (x.toUInt32 >>> (y &&& 31).toUInt32).toInt32 = z) (hr : G h kc ks (mkF m pc' L (.int z :: S))) : G h kc ks (mkF m pc L (.int y :: .int x :: S)) := by
  subst hp hz
  exact K.step (fun p e below T c h hx hb0 t hr => XS.iushr h hx rfl (hb hb0 hd) rfl hr) hr
theorem Cx.lshl (K : Cx l R Z n0 Q own nm bytes maxL ret m G) {x z : Int64} {y : Int32} (hd : decode bytes pc = .ok (.lshl, 1)) (hp : pc + 1 = pc') (hz : x <<< (y &&& 0x3f).toInt64 = z) (hr : G h kc ks (mkF m pc' L (.long z :: S))) : G h kc ks (mkF m pc L (.int y :: .long x :: S)) := by
  subst hp hz
  exact K.step (fun p e below T c h hx hb0 t hr => XS.lshl h hx rfl (hb hb0 hd) rfl hr) hr
theorem Cx.lshr (K : Cx l R Z n0 Q own nm bytes maxL ret m G) {x z : Int64} {y : Int32} (hd : decode bytes pc = .ok (.lshr, 1)) (hp : pc + 1 = pc') (hz : x >>> (y &&& 0x3f).toInt64 = z) (hr : G h kc ks (mkF m pc' L (.long z :: S))) : G h kc ks (mkF m pc L (.int y :: .long x :: S)) := by
  subst hp hz
  exact K.step (fun p e below T c h hx hb0 t hr => XS.lshr h hx rfl (hb hb0 hd) rfl hr) hr
theorem Cx.lushr (K : Cx l R Z n0 Q own nm bytes maxL ret m G) {x z : Int64} {y : Int32} (hd : decode bytes pc = .ok (.lushr, 1)) (hp : pc + 1 = pc') (hz : (x.toUInt64 >>> (y &&& 0x3f).toInt64.toUInt64).toInt64 = z) (hr : G h kc ks (mkF m pc' L (.long z :: S))) : G h kc ks (mkF m pc L (.int y :: .long x :: S)) := by
  subst hp hz
  exact K.step (fun p e below T c h hx hb0 t hr => XS.lushr h hx rfl (hb hb0 hd) rfl hr) hr
theorem Cx.idiv (K : Cx l R Z n0 Q own nm bytes maxL ret m G) {x y z : Int32} (hd : decode bytes pc = .ok (.idiv, 1)) (hp : pc + 1 = pc') (hy : y ≠ 0) (hz : x / y = z) (hr : G h kc ks (mkF m pc' L (.int z :: S))) : G h kc ks (mkF m pc L (.int y :: .int x :: S)) := by
  subst hp hz
  exact K.step (fun p e below T c h hx hb0 t hr => XS.idiv h hx rfl (hb hb0 hd) rfl hy hr) hr
theorem Cx.ldiv (K : Cx l R Z n0 Q own nm bytes maxL ret m G) {x y z : Int64} (hd : decode bytes pc = .ok (.ldiv, 1)) (hp : pc + 1 = pc') (hy : y ≠ 0) (hz : x / y = z) (hr : G h kc ks (mkF m pc' L (.long z :: S))) : G h kc ks (mkF m pc L (.long y :: .long x :: S)) := by
  subst hp hz
  exact K.step (fun p e below T c h hx hb0 t hr => XS.ldiv h hx rfl (hb hb0 hd) rfl hy hr) hr
theorem Cx.irem (K : Cx l R Z n0 Q own nm bytes maxL ret m G) {x y z : Int32} (hd : decode bytes pc = .ok (.irem, 1)) (hp : pc + 1 = pc') (hy : y ≠ 0) (hz : x % y = z) (hr : G h kc ks (mkF m pc' L (.int z :: S))) : G h kc ks (mkF m pc L (.int y :: .int x :: S)) := by
  subst hp hz
  exact K.step (fun p e below T c h hx hb0 t hr => XS.irem h hx rfl (hb hb0 hd) rfl hy (by rw [irem_eq_mod]; exact hr)) hr
theorem Cx.lrem (K : Cx l R Z n0 Q own nm bytes maxL ret m G) {x y z : Int64} (hd : decode bytes pc = .ok (.lrem, 1)) (hp : pc + 1 = pc') (hy : y ≠ 0) (hz : x % y = z) (hr : G h kc ks (mkF m pc' L (.long z :: S))) : G h kc ks (mkF m pc L (.long y :: .long x :: S)) := by
  subst hp hz
  exact K.step (fun p e below T c h hx hb0 t hr => XS.lrem h hx rfl (hb hb0 hd) rfl hy (by rw [lrem_mod]; exact hr)) hr
theorem Cx.ineg (K : Cx l R Z n0 Q own nm bytes maxL ret m G) {x z : Int32} (hd : decode bytes pc = .ok (.ineg, 1)) (hp : pc + 1 = pc') (hz : -x = z) (hr : G h kc ks (mkF m pc' L (.int z :: S))) : G h kc ks (mkF m pc L (.int x :: S)) := by
  subst hp hz
  exact K.step (fun p e below T c h hx hb0 t hr => XS.ineg h hx rfl (hb hb0 hd) rfl hr) hr
theorem Cx.lneg (K : Cx l R Z n0 Q own nm bytes maxL ret m G) {x z : Int64} (hd : decode bytes pc = .ok (.lneg, 1)) (hp : pc + 1 = pc') (hz : -x = z) (hr : G h kc ks (mkF m pc' L (.long z :: S))) : G h kc ks (mkF m pc L (.long x :: S)) := by
  subst hp hz
  exact K.step (fun p e below T c h hx hb0 t hr => XS.lneg h hx rfl (hb hb0 hd) rfl hr) hr
theorem Cx.i2b (K : Cx l R Z n0 Q own nm bytes maxL ret m G) {x : Int32} {z : Int32} (hd : decode bytes pc = .ok (.i2b, 1)) (hp : pc + 1 = pc') (hz : x.toInt8.toInt32 = z) (hr : G h kc ks (mkF m pc' L (.int z :: S))) : G h kc ks (mkF m pc L (.int x :: S)) := by
  subst hp hz
  exact K.step (fun p e below T c h hx hb0 t hr => XS.i2b h hx rfl (hb hb0 hd) rfl hr) hr
theorem Cx.i2c (K : Cx l R Z n0 Q own nm bytes maxL ret m G) {x : Int32} {z : Int32} (hd : decode bytes pc = .ok (.i2c, 1)) (hp : pc + 1 = pc') (hz : x.toUInt32.toUInt16.toUInt32.toInt32 = z) (hr : G h kc ks (mkF m pc' L (.int z :: S))) : G h kc ks (mkF m pc L (.int x :: S)) := by
  subst hp hz
  exact K.step (fun p e below T c h hx hb0 t hr => XS.i2c h hx rfl (hb hb0 hd) rfl hr) hr
theorem Cx.i2s (K : Cx l R Z n0 Q own nm bytes maxL ret m G) {x : Int32} {z : Int32} (hd : decode bytes pc = .ok (.i2s, 1)) (hp : pc + 1 = pc') (hz : x.toInt16.toInt32 = z) (hr : G h kc ks (mkF m pc' L (.int z :: S))) : G h kc ks (mkF m pc L (.int x :: S)) := by
  subst hp hz
  exact K.step (fun p e below T c h hx hb0 t hr => XS.i2s h hx rfl (hb hb0 hd) rfl hr) hr
theorem Cx.i2l (K : Cx l R Z n0 Q own nm bytes maxL ret m G) {x : Int32} {z : Int64} (hd : decode bytes pc = .ok (.i2l, 1)) (hp : pc + 1 = pc') (hz : x.toInt64 = z) (hr : G h kc ks (mkF m pc' L (.long z :: S))) : G h kc ks (mkF m pc L (.int x :: S)) := by
  subst hp hz
  exact K.step (fun p e below T c h hx hb0 t hr => XS.i2l h hx rfl (hb hb0 hd) rfl hr) hr
theorem Cx.l2i (K : Cx l R Z n0 Q own nm bytes maxL ret m G) {x : Int64} {z : Int32} (hd : decode bytes pc = .ok (.l2i, 1)) (hp : pc + 1 = pc') (hz : x.toInt32 = z) (hr : G h kc ks (mkF m pc' L (.int z :: S))) : G h kc ks (mkF m pc L (.long x :: S)) := by
  subst hp hz
  exact K.step (fun p e below T c h hx hb0 t hr => XS.l2i h hx rfl (hb hb0 hd) rfl hr) hr
theorem Cx.iinc (K : Cx l R Z n0 Q own nm bytes maxL ret m G) {k : Nat} {cst : Int} {x z : Int32} (hd : decode bytes pc = .ok (.iinc k cst, 3)) (hp : pc + 3 = pc') (hl : L[k]? = some (.val (.int x))) (hz : x + Int32.ofInt cst = z) (hl' : storeLocals L k (.int z) = some L') (hr : G h kc ks (mkF m pc' L' (S))) : G h kc ks (mkF m pc L (S)) := by
  subst hp hz
  exact K.step (fun p e below T c h hx hb0 t hr => XS.iinc h hx rfl (hb hb0 hd) hl hl' hr) hr
theorem Cx.dup (K : Cx l R Z n0 Q own nm bytes maxL ret m G) {x : Value} (hd : decode bytes pc = .ok (.dup, 1)) (hp : pc + 1 = pc') (hc : x.category = 1) (hr : G h kc ks (mkF m pc' L (x :: x :: S))) : G h kc ks (mkF m pc L (x :: S)) := by
  subst hp
  exact K.step (fun p e below T c h hx hb0 t hr => XS.dup h hx rfl (hb hb0 hd) rfl hc hr) hr
theorem Cx.pop (K : Cx l R Z n0 Q own nm bytes maxL ret m G) {x : Value} (hd : decode bytes pc = .ok (.pop, 1)) (hp : pc + 1 = pc') (hc : x.category = 1) (hr : G h kc ks (mkF m pc' L (S))) : G h kc ks (mkF m pc L (x :: S)) := by
  subst hp
  exact K.step (fun p e below T c h hx hb0 t hr => XS.pop h hx rfl (hb hb0 hd) rfl hc hr) hr
theorem Cx.dupX1 (K : Cx l R Z n0 Q own nm bytes maxL ret m G) {x y : Value} (hd : decode bytes pc = .ok (.dup_x1, 1)) (hp : pc + 1 = pc') (hc : x.category = 1) (hc2 : y.category = 1) (hr : G h kc ks (mkF m pc' L (x :: y :: x :: S))) : G h kc ks (mkF m pc L (x :: y :: S)) := by
  subst hp
  exact K.step (fun p e below T c h hx hb0 t hr => XS.dupX1 h hx rfl (hb hb0 hd) rfl hc hc2 hr) hr
theorem Cx.goto (K : Cx l R Z n0 Q own nm bytes maxL ret m G) {o : Int} (hd : decode bytes pc = .ok (.goto o, 3)) (ho : 0 ≤ (pc : Int) + o) (hp : ((pc : Int) + o).toNat = pc') (hr : G h kc ks (mkF m pc' L S)) : G h kc ks (mkF m pc L S) :=
  K.step (fun p e below T c h hx hb0 t hr => XS.goto h hx rfl (pc0 := pc) (pc' := pc') rfl (hb hb0 hd) ho hp hr) hr
theorem icmpW (cd : ClassFile.Cond) {x y : Int32} {a b : Int} (ha : x.toInt = a) (hb : y.toInt = b) : if_icmp.holds cd x y = (match cd with | .lt => decide (a < b) | .ge => decide (b ≤ a) | .gt => decide (b < a) | .le => decide (a ≤ b) | .eq => decide (a = b) | .ne => decide (a ≠ b)) := by
  subst ha hb
  cases cd <;> rw [Bool.eq_iff_iff] <;> simp [if_icmp.holds, Int32.lt_iff_toInt_lt, Int32.le_iff_toInt_le, Int32.toInt_inj]
theorem lcmpW0 (cd : ClassFile.Cond) {x y : Int64} {a b : Int} (ha : x.toInt = a) (hb : y.toInt = b) : ifCond.holds cd (if x > y then 1 else if x = y then 0 else -1) = (match cd with | .lt => decide (a < b) | .ge => decide (b ≤ a) | .gt => decide (b < a) | .le => decide (a ≤ b) | .eq => decide (a = b) | .ne => decide (a ≠ b)) := by
  subst ha hb
  rcases Int.lt_trichotomy x.toInt y.toInt with h | h | h
  · have e : (if x > y then (1 : Int32) else if x = y then 0 else -1) = -1 := by rw [if_neg (by rw [gt_iff_lt, Int64.lt_iff_toInt_lt]; omega), if_neg (by rw [← Int64.toInt_inj]; omega)]
    rw [e, if0, icmpW cd (a := -1) (b := 0) rfl rfl]
    cases cd <;> exact decide_eq_decide.mpr (by omega)
  · have e : (if x > y then (1 : Int32) else if x = y then 0 else -1) = 0 := by rw [if_neg (by rw [gt_iff_lt, Int64.lt_iff_toInt_lt]; omega), if_pos (by rw [← Int64.toInt_inj]; omega)]
    rw [e, if0, icmpW cd (a := 0) (b := 0) rfl rfl]
    cases cd <;> exact decide_eq_decide.mpr (by omega)
  · have e : (if x > y then (1 : Int32) else if x = y then 0 else -1) = 1 := by rw [if_pos (by rw [gt_iff_lt, Int64.lt_iff_toInt_lt]; omega)]
    rw [e, if0, icmpW cd (a := 1) (b := 0) rfl rfl]
    cases cd <;> exact decide_eq_decide.mpr (by omega)
theorem Cx.icmp_lt (K : Cx l R Z n0 Q own nm bytes maxL ret m G) {o : Int} {x y : Int32} {a b : Int} (hd : decode bytes pc = .ok (.if_icmp .lt o, 3)) (hp : pc + 3 = pc1) (ho : 0 ≤ (pc : Int) + o) (hq : ((pc : Int) + o).toNat = pc2) (ha : x.toInt = a) (hb' : y.toInt = b) (ht : a < b → G h kc ks (mkF m pc2 L S)) (hf : b ≤ a → G h kc ks (mkF m pc1 L S)) : G h kc ks (mkF m pc L (.int y :: .int x :: S)) := by
  subst hp
  have q := icmpW .lt ha hb'
  by_cases hc : a < b
  · exact K.step (fun p e below T c h hx hb0 t hr => XS.icmpYes h hx rfl (pc0 := pc) (pc' := pc2) rfl (hb hb0 hd) rfl (q.trans (decide_eq_true hc)) ho hq hr) (ht hc)
  · exact K.step (fun p e below T c h hx hb0 t hr => XS.icmpNo h hx rfl (hb hb0 hd) rfl (q.trans (decide_eq_false hc)) hr) (hf (by omega))
theorem Cx.if_lt (K : Cx l R Z n0 Q own nm bytes maxL ret m G) {o : Int} {x : Int32} {a : Int} (hd : decode bytes pc = .ok (.ifCond .lt o, 3)) (hp : pc + 3 = pc1) (ho : 0 ≤ (pc : Int) + o) (hq : ((pc : Int) + o).toNat = pc2) (ha : x.toInt = a) (ht : a < 0 → G h kc ks (mkF m pc2 L S)) (hf : 0 ≤ a → G h kc ks (mkF m pc1 L S)) : G h kc ks (mkF m pc L (.int x :: S)) := by
  subst hp
  have q := (if0 .lt x).trans (icmpW .lt ha (b := 0) rfl)
  by_cases hc : a < 0
  · exact K.step (fun p e below T c h hx hb0 t hr => XS.ifYes h hx rfl (pc0 := pc) (pc' := pc2) rfl (hb hb0 hd) rfl (q.trans (decide_eq_true hc)) ho hq hr) (ht hc)
  · exact K.step (fun p e below T c h hx hb0 t hr => XS.ifNo h hx rfl (hb hb0 hd) rfl (q.trans (decide_eq_false hc)) hr) (hf (by omega))
theorem Cx.lcmp_lt (K : Cx l R Z n0 Q own nm bytes maxL ret m G) {o : Int} {x y : Int64} {a b : Int} (hd0 : decode bytes pc = .ok (.lcmp, 1)) (hd : decode bytes (pc + 1) = .ok (.ifCond .lt o, 3)) (hp : pc + 4 = pc1) (ho : 0 ≤ ((pc + 1 : Nat) : Int) + o) (hq : (((pc + 1 : Nat) : Int) + o).toNat = pc2) (ha : x.toInt = a) (hb' : y.toInt = b) (ht : a < b → G h kc ks (mkF m pc2 L S)) (hf : b ≤ a → G h kc ks (mkF m pc1 L S)) : G h kc ks (mkF m pc L (.long y :: .long x :: S)) := by
  subst hp
  have q := lcmpW0 .lt ha hb'
  refine K.step (f' := mkF m (pc + 1) L (.int (if x > y then 1 else if x = y then 0 else -1) :: S)) (fun p e below T c h hx hb0 t hr => XS.lcmp h hx rfl (hb hb0 hd0) rfl hr) ?_
  by_cases hc : a < b
  · exact K.step (fun p e below T c h hx hb0 t hr => XS.ifYes h hx rfl (pc0 := pc + 1) (pc' := pc2) rfl (hb hb0 hd) rfl (q.trans (decide_eq_true hc)) ho hq hr) (ht hc)
  · exact K.step (fun p e below T c h hx hb0 t hr => XS.ifNo h hx rfl (hb hb0 hd) rfl (q.trans (decide_eq_false hc)) hr) (hf (by omega))
theorem Cx.icmp_ge (K : Cx l R Z n0 Q own nm bytes maxL ret m G) {o : Int} {x y : Int32} {a b : Int} (hd : decode bytes pc = .ok (.if_icmp .ge o, 3)) (hp : pc + 3 = pc1) (ho : 0 ≤ (pc : Int) + o) (hq : ((pc : Int) + o).toNat = pc2) (ha : x.toInt = a) (hb' : y.toInt = b) (ht : b ≤ a → G h kc ks (mkF m pc2 L S)) (hf : a < b → G h kc ks (mkF m pc1 L S)) : G h kc ks (mkF m pc L (.int y :: .int x :: S)) := by
  subst hp
  have q := icmpW .ge ha hb'
  by_cases hc : b ≤ a
  · exact K.step (fun p e below T c h hx hb0 t hr => XS.icmpYes h hx rfl (pc0 := pc) (pc' := pc2) rfl (hb hb0 hd) rfl (q.trans (decide_eq_true hc)) ho hq hr) (ht hc)
  · exact K.step (fun p e below T c h hx hb0 t hr => XS.icmpNo h hx rfl (hb hb0 hd) rfl (q.trans (decide_eq_false hc)) hr) (hf (by omega))
theorem Cx.if_ge (K : Cx l R Z n0 Q own nm bytes maxL ret m G) {o : Int} {x : Int32} {a : Int} (hd : decode bytes pc = .ok (.ifCond .ge o, 3)) (hp : pc + 3 = pc1) (ho : 0 ≤ (pc : Int) + o) (hq : ((pc : Int) + o).toNat = pc2) (ha : x.toInt = a) (ht : 0 ≤ a → G h kc ks (mkF m pc2 L S)) (hf : a < 0 → G h kc ks (mkF m pc1 L S)) : G h kc ks (mkF m pc L (.int x :: S)) := by
  subst hp
  have q := (if0 .ge x).trans (icmpW .ge ha (b := 0) rfl)
  by_cases hc : 0 ≤ a
  · exact K.step (fun p e below T c h hx hb0 t hr => XS.ifYes h hx rfl (pc0 := pc) (pc' := pc2) rfl (hb hb0 hd) rfl (q.trans (decide_eq_true hc)) ho hq hr) (ht hc)
  · exact K.step (fun p e below T c h hx hb0 t hr => XS.ifNo h hx rfl (hb hb0 hd) rfl (q.trans (decide_eq_false hc)) hr) (hf (by omega))
theorem Cx.lcmp_ge (K : Cx l R Z n0 Q own nm bytes maxL ret m G) {o : Int} {x y : Int64} {a b : Int} (hd0 : decode bytes pc = .ok (.lcmp, 1)) (hd : decode bytes (pc + 1) = .ok (.ifCond .ge o, 3)) (hp : pc + 4 = pc1) (ho : 0 ≤ ((pc + 1 : Nat) : Int) + o) (hq : (((pc + 1 : Nat) : Int) + o).toNat = pc2) (ha : x.toInt = a) (hb' : y.toInt = b) (ht : b ≤ a → G h kc ks (mkF m pc2 L S)) (hf : a < b → G h kc ks (mkF m pc1 L S)) : G h kc ks (mkF m pc L (.long y :: .long x :: S)) := by
  subst hp
  have q := lcmpW0 .ge ha hb'
  refine K.step (f' := mkF m (pc + 1) L (.int (if x > y then 1 else if x = y then 0 else -1) :: S)) (fun p e below T c h hx hb0 t hr => XS.lcmp h hx rfl (hb hb0 hd0) rfl hr) ?_
  by_cases hc : b ≤ a
  · exact K.step (fun p e below T c h hx hb0 t hr => XS.ifYes h hx rfl (pc0 := pc + 1) (pc' := pc2) rfl (hb hb0 hd) rfl (q.trans (decide_eq_true hc)) ho hq hr) (ht hc)
  · exact K.step (fun p e below T c h hx hb0 t hr => XS.ifNo h hx rfl (hb hb0 hd) rfl (q.trans (decide_eq_false hc)) hr) (hf (by omega))
theorem Cx.icmp_gt (K : Cx l R Z n0 Q own nm bytes maxL ret m G) {o : Int} {x y : Int32} {a b : Int} (hd : decode bytes pc = .ok (.if_icmp .gt o, 3)) (hp : pc + 3 = pc1) (ho : 0 ≤ (pc : Int) + o) (hq : ((pc : Int) + o).toNat = pc2) (ha : x.toInt = a) (hb' : y.toInt = b) (ht : b < a → G h kc ks (mkF m pc2 L S)) (hf : a ≤ b → G h kc ks (mkF m pc1 L S)) : G h kc ks (mkF m pc L (.int y :: .int x :: S)) := by
  subst hp
  have q := icmpW .gt ha hb'
  by_cases hc : b < a
  · exact K.step (fun p e below T c h hx hb0 t hr => XS.icmpYes h hx rfl (pc0 := pc) (pc' := pc2) rfl (hb hb0 hd) rfl (q.trans (decide_eq_true hc)) ho hq hr) (ht hc)
  · exact K.step (fun p e below T c h hx hb0 t hr => XS.icmpNo h hx rfl (hb hb0 hd) rfl (q.trans (decide_eq_false hc)) hr) (hf (by omega))
theorem Cx.if_gt (K : Cx l R Z n0 Q own nm bytes maxL ret m G) {o : Int} {x : Int32} {a : Int} (hd : decode bytes pc = .ok (.ifCond .gt o, 3)) (hp : pc + 3 = pc1) (ho : 0 ≤ (pc : Int) + o) (hq : ((pc : Int) + o).toNat = pc2) (ha : x.toInt = a) (ht : 0 < a → G h kc ks (mkF m pc2 L S)) (hf : a ≤ 0 → G h kc ks (mkF m pc1 L S)) : G h kc ks (mkF m pc L (.int x :: S)) := by
  subst hp
  have q := (if0 .gt x).trans (icmpW .gt ha (b := 0) rfl)
  by_cases hc : 0 < a
  · exact K.step (fun p e below T c h hx hb0 t hr => XS.ifYes h hx rfl (pc0 := pc) (pc' := pc2) rfl (hb hb0 hd) rfl (q.trans (decide_eq_true hc)) ho hq hr) (ht hc)
  · exact K.step (fun p e below T c h hx hb0 t hr => XS.ifNo h hx rfl (hb hb0 hd) rfl (q.trans (decide_eq_false hc)) hr) (hf (by omega))
theorem Cx.lcmp_gt (K : Cx l R Z n0 Q own nm bytes maxL ret m G) {o : Int} {x y : Int64} {a b : Int} (hd0 : decode bytes pc = .ok (.lcmp, 1)) (hd : decode bytes (pc + 1) = .ok (.ifCond .gt o, 3)) (hp : pc + 4 = pc1) (ho : 0 ≤ ((pc + 1 : Nat) : Int) + o) (hq : (((pc + 1 : Nat) : Int) + o).toNat = pc2) (ha : x.toInt = a) (hb' : y.toInt = b) (ht : b < a → G h kc ks (mkF m pc2 L S)) (hf : a ≤ b → G h kc ks (mkF m pc1 L S)) : G h kc ks (mkF m pc L (.long y :: .long x :: S)) := by
  subst hp
  have q := lcmpW0 .gt ha hb'
  refine K.step (f' := mkF m (pc + 1) L (.int (if x > y then 1 else if x = y then 0 else -1) :: S)) (fun p e below T c h hx hb0 t hr => XS.lcmp h hx rfl (hb hb0 hd0) rfl hr) ?_
  by_cases hc : b < a
  · exact K.step (fun p e below T c h hx hb0 t hr => XS.ifYes h hx rfl (pc0 := pc + 1) (pc' := pc2) rfl (hb hb0 hd) rfl (q.trans (decide_eq_true hc)) ho hq hr) (ht hc)
  · exact K.step (fun p e below T c h hx hb0 t hr => XS.ifNo h hx rfl (hb hb0 hd) rfl (q.trans (decide_eq_false hc)) hr) (hf (by omega))
theorem Cx.icmp_le (K : Cx l R Z n0 Q own nm bytes maxL ret m G) {o : Int} {x y : Int32} {a b : Int} (hd : decode bytes pc = .ok (.if_icmp .le o, 3)) (hp : pc + 3 = pc1) (ho : 0 ≤ (pc : Int) + o) (hq : ((pc : Int) + o).toNat = pc2) (ha : x.toInt = a) (hb' : y.toInt = b) (ht : a ≤ b → G h kc ks (mkF m pc2 L S)) (hf : b < a → G h kc ks (mkF m pc1 L S)) : G h kc ks (mkF m pc L (.int y :: .int x :: S)) := by
  subst hp
  have q := icmpW .le ha hb'
  by_cases hc : a ≤ b
  · exact K.step (fun p e below T c h hx hb0 t hr => XS.icmpYes h hx rfl (pc0 := pc) (pc' := pc2) rfl (hb hb0 hd) rfl (q.trans (decide_eq_true hc)) ho hq hr) (ht hc)
  · exact K.step (fun p e below T c h hx hb0 t hr => XS.icmpNo h hx rfl (hb hb0 hd) rfl (q.trans (decide_eq_false hc)) hr) (hf (by omega))
theorem Cx.if_le (K : Cx l R Z n0 Q own nm bytes maxL ret m G) {o : Int} {x : Int32} {a : Int} (hd : decode bytes pc = .ok (.ifCond .le o, 3)) (hp : pc + 3 = pc1) (ho : 0 ≤ (pc : Int) + o) (hq : ((pc : Int) + o).toNat = pc2) (ha : x.toInt = a) (ht : a ≤ 0 → G h kc ks (mkF m pc2 L S)) (hf : 0 < a → G h kc ks (mkF m pc1 L S)) : G h kc ks (mkF m pc L (.int x :: S)) := by
  subst hp
  have q := (if0 .le x).trans (icmpW .le ha (b := 0) rfl)
  by_cases hc : a ≤ 0
  · exact K.step (fun p e below T c h hx hb0 t hr => XS.ifYes h hx rfl (pc0 := pc) (pc' := pc2) rfl (hb hb0 hd) rfl (q.trans (decide_eq_true hc)) ho hq hr) (ht hc)
  · exact K.step (fun p e below T c h hx hb0 t hr => XS.ifNo h hx rfl (hb hb0 hd) rfl (q.trans (decide_eq_false hc)) hr) (hf (by omega))
theorem Cx.lcmp_le (K : Cx l R Z n0 Q own nm bytes maxL ret m G) {o : Int} {x y : Int64} {a b : Int} (hd0 : decode bytes pc = .ok (.lcmp, 1)) (hd : decode bytes (pc + 1) = .ok (.ifCond .le o, 3)) (hp : pc + 4 = pc1) (ho : 0 ≤ ((pc + 1 : Nat) : Int) + o) (hq : (((pc + 1 : Nat) : Int) + o).toNat = pc2) (ha : x.toInt = a) (hb' : y.toInt = b) (ht : a ≤ b → G h kc ks (mkF m pc2 L S)) (hf : b < a → G h kc ks (mkF m pc1 L S)) : G h kc ks (mkF m pc L (.long y :: .long x :: S)) := by
  subst hp
  have q := lcmpW0 .le ha hb'
  refine K.step (f' := mkF m (pc + 1) L (.int (if x > y then 1 else if x = y then 0 else -1) :: S)) (fun p e below T c h hx hb0 t hr => XS.lcmp h hx rfl (hb hb0 hd0) rfl hr) ?_
  by_cases hc : a ≤ b
  · exact K.step (fun p e below T c h hx hb0 t hr => XS.ifYes h hx rfl (pc0 := pc + 1) (pc' := pc2) rfl (hb hb0 hd) rfl (q.trans (decide_eq_true hc)) ho hq hr) (ht hc)
  · exact K.step (fun p e below T c h hx hb0 t hr => XS.ifNo h hx rfl (hb hb0 hd) rfl (q.trans (decide_eq_false hc)) hr) (hf (by omega))
theorem Cx.icmp_eq (K : Cx l R Z n0 Q own nm bytes maxL ret m G) {o : Int} {x y : Int32} {a b : Int} (hd : decode bytes pc = .ok (.if_icmp .eq o, 3)) (hp : pc + 3 = pc1) (ho : 0 ≤ (pc : Int) + o) (hq : ((pc : Int) + o).toNat = pc2) (ha : x.toInt = a) (hb' : y.toInt = b) (ht : a = b → G h kc ks (mkF m pc2 L S)) (hf : a ≠ b → G h kc ks (mkF m pc1 L S)) : G h kc ks (mkF m pc L (.int y :: .int x :: S)) := by
  subst hp
  have q := icmpW .eq ha hb'
  by_cases hc : a = b
  · exact K.step (fun p e below T c h hx hb0 t hr => XS.icmpYes h hx rfl (pc0 := pc) (pc' := pc2) rfl (hb hb0 hd) rfl (q.trans (decide_eq_true hc)) ho hq hr) (ht hc)
  · exact K.step (fun p e below T c h hx hb0 t hr => XS.icmpNo h hx rfl (hb hb0 hd) rfl (q.trans (decide_eq_false hc)) hr) (hf (by omega))
theorem Cx.if_eq (K : Cx l R Z n0 Q own nm bytes maxL ret m G) {o : Int} {x : Int32} {a : Int} (hd : decode bytes pc = .ok (.ifCond .eq o, 3)) (hp : pc + 3 = pc1) (ho : 0 ≤ (pc : Int) + o) (hq : ((pc : Int) + o).toNat = pc2) (ha : x.toInt = a) (ht : a = 0 → G h kc ks (mkF m pc2 L S)) (hf : a ≠ 0 → G h kc ks (mkF m pc1 L S)) : G h kc ks (mkF m pc L (.int x :: S)) := by
  subst hp
  have q := (if0 .eq x).trans (icmpW .eq ha (b := 0) rfl)
  by_cases hc : a = 0
  · exact K.step (fun p e below T c h hx hb0 t hr => XS.ifYes h hx rfl (pc0 := pc) (pc' := pc2) rfl (hb hb0 hd) rfl (q.trans (decide_eq_true hc)) ho hq hr) (ht hc)
  · exact K.step (fun p e below T c h hx hb0 t hr => XS.ifNo h hx rfl (hb hb0 hd) rfl (q.trans (decide_eq_false hc)) hr) (hf (by omega))
theorem Cx.lcmp_eq (K : Cx l R Z n0 Q own nm bytes maxL ret m G) {o : Int} {x y : Int64} {a b : Int} (hd0 : decode bytes pc = .ok (.lcmp, 1)) (hd : decode bytes (pc + 1) = .ok (.ifCond .eq o, 3)) (hp : pc + 4 = pc1) (ho : 0 ≤ ((pc + 1 : Nat) : Int) + o) (hq : (((pc + 1 : Nat) : Int) + o).toNat = pc2) (ha : x.toInt = a) (hb' : y.toInt = b) (ht : a = b → G h kc ks (mkF m pc2 L S)) (hf : a ≠ b → G h kc ks (mkF m pc1 L S)) : G h kc ks (mkF m pc L (.long y :: .long x :: S)) := by
  subst hp
  have q := lcmpW0 .eq ha hb'
  refine K.step (f' := mkF m (pc + 1) L (.int (if x > y then 1 else if x = y then 0 else -1) :: S)) (fun p e below T c h hx hb0 t hr => XS.lcmp h hx rfl (hb hb0 hd0) rfl hr) ?_
  by_cases hc : a = b
  · exact K.step (fun p e below T c h hx hb0 t hr => XS.ifYes h hx rfl (pc0 := pc + 1) (pc' := pc2) rfl (hb hb0 hd) rfl (q.trans (decide_eq_true hc)) ho hq hr) (ht hc)
  · exact K.step (fun p e below T c h hx hb0 t hr => XS.ifNo h hx rfl (hb hb0 hd) rfl (q.trans (decide_eq_false hc)) hr) (hf (by omega))
theorem Cx.icmp_ne (K : Cx l R Z n0 Q own nm bytes maxL ret m G) {o : Int} {x y : Int32} {a b : Int} (hd : decode bytes pc = .ok (.if_icmp .ne o, 3)) (hp : pc + 3 = pc1) (ho : 0 ≤ (pc : Int) + o) (hq : ((pc : Int) + o).toNat = pc2) (ha : x.toInt = a) (hb' : y.toInt = b) (ht : a ≠ b → G h kc ks (mkF m pc2 L S)) (hf : a = b → G h kc ks (mkF m pc1 L S)) : G h kc ks (mkF m pc L (.int y :: .int x :: S)) := by
  subst hp
  have q := icmpW .ne ha hb'
  by_cases hc : a ≠ b
  · exact K.step (fun p e below T c h hx hb0 t hr => XS.icmpYes h hx rfl (pc0 := pc) (pc' := pc2) rfl (hb hb0 hd) rfl (q.trans (decide_eq_true hc)) ho hq hr) (ht hc)
  · exact K.step (fun p e below T c h hx hb0 t hr => XS.icmpNo h hx rfl (hb hb0 hd) rfl (q.trans (decide_eq_false hc)) hr) (hf (by omega))
theorem Cx.if_ne (K : Cx l R Z n0 Q own nm bytes maxL ret m G) {o : Int} {x : Int32} {a : Int} (hd : decode bytes pc = .ok (.ifCond .ne o, 3)) (hp : pc + 3 = pc1) (ho : 0 ≤ (pc : Int) + o) (hq : ((pc : Int) + o).toNat = pc2) (ha : x.toInt = a) (ht : a ≠ 0 → G h kc ks (mkF m pc2 L S)) (hf : a = 0 → G h kc ks (mkF m pc1 L S)) : G h kc ks (mkF m pc L (.int x :: S)) := by
  subst hp
  have q := (if0 .ne x).trans (icmpW .ne ha (b := 0) rfl)
  by_cases hc : a ≠ 0
  · exact K.step (fun p e below T c h hx hb0 t hr => XS.ifYes h hx rfl (pc0 := pc) (pc' := pc2) rfl (hb hb0 hd) rfl (q.trans (decide_eq_true hc)) ho hq hr) (ht hc)
  · exact K.step (fun p e below T c h hx hb0 t hr => XS.ifNo h hx rfl (hb hb0 hd) rfl (q.trans (decide_eq_false hc)) hr) (hf (by omega))
theorem Cx.lcmp_ne (K : Cx l R Z n0 Q own nm bytes maxL ret m G) {o : Int} {x y : Int64} {a b : Int} (hd0 : decode bytes pc = .ok (.lcmp, 1)) (hd : decode bytes (pc + 1) = .ok (.ifCond .ne o, 3)) (hp : pc + 4 = pc1) (ho : 0 ≤ ((pc + 1 : Nat) : Int) + o) (hq : (((pc + 1 : Nat) : Int) + o).toNat = pc2) (ha : x.toInt = a) (hb' : y.toInt = b) (ht : a ≠ b → G h kc ks (mkF m pc2 L S)) (hf : a = b → G h kc ks (mkF m pc1 L S)) : G h kc ks (mkF m pc L (.long y :: .long x :: S)) := by
  subst hp
  have q := lcmpW0 .ne ha hb'
  refine K.step (f' := mkF m (pc + 1) L (.int (if x > y then 1 else if x = y then 0 else -1) :: S)) (fun p e below T c h hx hb0 t hr => XS.lcmp h hx rfl (hb hb0 hd0) rfl hr) ?_
  by_cases hc : a ≠ b
  · exact K.step (fun p e below T c h hx hb0 t hr => XS.ifYes h hx rfl (pc0 := pc + 1) (pc' := pc2) rfl (hb hb0 hd) rfl (q.trans (decide_eq_true hc)) ho hq hr) (ht hc)
  · exact K.step (fun p e below T c h hx hb0 t hr => XS.ifNo h hx rfl (hb hb0 hd) rfl (q.trans (decide_eq_false hc)) hr) (hf (by omega))
theorem Cx.ifneB (K : Cx l R Z n0 Q own nm bytes maxL ret m G) {o : Int} {P : Prop} [Decidable P] (hd : decode bytes pc = .ok (.ifCond .ne o, 3)) (hp : pc + 3 = pc1) (ho : 0 ≤ (pc : Int) + o) (hq : ((pc : Int) + o).toNat = pc2) (ht : P → G h kc ks (mkF m pc2 L S)) (hf : ¬ P → G h kc ks (mkF m pc1 L S)) : G h kc ks (mkF m pc L (.int (b2 P) :: S)) :=
  K.if_ne hd hp ho hq rfl (fun q => ht ((b2_ne0 P).mp q)) (fun q => hf ((b2_eq0 P).mp q))
theorem Cx.ifeqB (K : Cx l R Z n0 Q own nm bytes maxL ret m G) {o : Int} {P : Prop} [Decidable P] (hd : decode bytes pc = .ok (.ifCond .eq o, 3)) (hp : pc + 3 = pc1) (ho : 0 ≤ (pc : Int) + o) (hq : ((pc : Int) + o).toNat = pc2) (ht : ¬ P → G h kc ks (mkF m pc2 L S)) (hf : P → G h kc ks (mkF m pc1 L S)) : G h kc ks (mkF m pc L (.int (b2 P) :: S)) :=
  K.if_eq hd hp ho hq rfl (fun q => ht ((b2_eq0 P).mp q)) (fun q => hf ((b2_ne0 P).mp q))
theorem Cx.icmpneB (K : Cx l R Z n0 Q own nm bytes maxL ret m G) {o : Int} {P P' : Prop} [Decidable P] [Decidable P'] (hd : decode bytes pc = .ok (.if_icmp .ne o, 3)) (hp : pc + 3 = pc1) (ho : 0 ≤ (pc : Int) + o) (hq : ((pc : Int) + o).toNat = pc2) (ht : ¬ (P ↔ P') → G h kc ks (mkF m pc2 L S)) (hf : (P ↔ P') → G h kc ks (mkF m pc1 L S)) : G h kc ks (mkF m pc L (.int (b2 P') :: .int (b2 P) :: S)) :=
  K.icmp_ne hd hp ho hq rfl rfl (fun q => ht (fun z => q ((b2_inj P P').mpr z))) (fun q => hf ((b2_inj P P').mp q))
theorem Cx.icmpeqB (K : Cx l R Z n0 Q own nm bytes maxL ret m G) {o : Int} {P P' : Prop} [Decidable P] [Decidable P'] (hd : decode bytes pc = .ok (.if_icmp .eq o, 3)) (hp : pc + 3 = pc1) (ho : 0 ≤ (pc : Int) + o) (hq : ((pc : Int) + o).toNat = pc2) (ht : (P ↔ P') → G h kc ks (mkF m pc2 L S)) (hf : ¬ (P ↔ P') → G h kc ks (mkF m pc1 L S)) : G h kc ks (mkF m pc L (.int (b2 P') :: .int (b2 P) :: S)) :=
  K.icmp_eq hd hp ho hq rfl rfl (fun q => ht ((b2_inj P P').mp q)) (fun q => hf (fun z => q ((b2_inj P P').mpr z)))
theorem Cx.ifnull0 (K : Cx l R Z n0 Q own nm bytes maxL ret m G) {o : Int} (hd : decode bytes pc = .ok (.ifnull o, 3)) (ho : 0 ≤ (pc : Int) + o) (hq : ((pc : Int) + o).toNat = pc2) (hr : G h kc ks (mkF m pc2 L S)) : G h kc ks (mkF m pc L (.null :: S)) :=
  K.step (fun p e below T c h hx hb0 t hr => XS.ifnullYes h hx rfl (pc0 := pc) (pc' := pc2) rfl (hb hb0 hd) rfl ho hq hr) hr
theorem Cx.ifnull1 (K : Cx l R Z n0 Q own nm bytes maxL ret m G) {o : Int} {b : Addr} (hd : decode bytes pc = .ok (.ifnull o, 3)) (hp : pc + 3 = pc') (hr : G h kc ks (mkF m pc' L S)) : G h kc ks (mkF m pc L (.ref b :: S)) := by
  subst hp
  exact K.step (fun p e below T c h hx hb0 t hr => XS.ifnullNo h hx rfl (hb hb0 hd) rfl hr) hr
theorem Cx.ifnonnull1 (K : Cx l R Z n0 Q own nm bytes maxL ret m G) {o : Int} {b : Addr} (hd : decode bytes pc = .ok (.ifnonnull o, 3)) (ho : 0 ≤ (pc : Int) + o) (hq : ((pc : Int) + o).toNat = pc2) (hr : G h kc ks (mkF m pc2 L S)) : G h kc ks (mkF m pc L (.ref b :: S)) :=
  K.step (fun p e below T c h hx hb0 t hr => XS.ifnonnullYes h hx rfl (pc0 := pc) (pc' := pc2) rfl (hb hb0 hd) rfl ho hq hr) hr
theorem Cx.ifnonnull0 (K : Cx l R Z n0 Q own nm bytes maxL ret m G) {o : Int} (hd : decode bytes pc = .ok (.ifnonnull o, 3)) (hp : pc + 3 = pc') (hr : G h kc ks (mkF m pc' L S)) : G h kc ks (mkF m pc L (.null :: S)) := by
  subst hp
  exact K.step (fun p e below T c h hx hb0 t hr => XS.ifnonnullNo h hx rfl (hb hb0 hd) rfl hr) hr
theorem Cx.acmpNe (K : Cx l R Z n0 Q own nm bytes maxL ret m G) {o : Int} {a b : Addr} (hd : decode bytes pc = .ok (.if_acmp .ne o, 3)) (hp : pc + 3 = pc1) (ho : 0 ≤ (pc : Int) + o) (hq : ((pc : Int) + o).toNat = pc2) (ht : a ≠ b → G h kc ks (mkF m pc2 L S)) (hf : a = b → G h kc ks (mkF m pc1 L S)) : G h kc ks (mkF m pc L (.ref b :: .ref a :: S)) := by
  subst hp
  by_cases hc : a = b
  · exact K.step (fun p e below T c h hx hb0 t hr => XS.acmpNo h hx rfl (hb hb0 hd) rfl (by simp [if_acmp.holds, hc]) hr) (hf hc)
  · exact K.step (fun p e below T c h hx hb0 t hr => XS.acmpYes h hx rfl (pc0 := pc) (pc' := pc2) rfl (hb hb0 hd) rfl (by simp [if_acmp.holds, hc]) ho hq hr) (ht hc)
theorem Cx.acmpEq (K : Cx l R Z n0 Q own nm bytes maxL ret m G) {o : Int} {a b : Addr} (hd : decode bytes pc = .ok (.if_acmp .eq o, 3)) (hp : pc + 3 = pc1) (ho : 0 ≤ (pc : Int) + o) (hq : ((pc : Int) + o).toNat = pc2) (ht : a = b → G h kc ks (mkF m pc2 L S)) (hf : a ≠ b → G h kc ks (mkF m pc1 L S)) : G h kc ks (mkF m pc L (.ref b :: .ref a :: S)) := by
  subst hp
  by_cases hc : a = b
  · exact K.step (fun p e below T c h hx hb0 t hr => XS.acmpYes h hx rfl (pc0 := pc) (pc' := pc2) rfl (hb hb0 hd) rfl (by simp [if_acmp.holds, hc]) ho hq hr) (ht hc)
  · exact K.step (fun p e below T c h hx hb0 t hr => XS.acmpNo h hx rfl (hb hb0 hd) rfl (by simp [if_acmp.holds, hc]) hr) (hf hc)
theorem Cx.lsHit (K : Cx l R Z n0 Q own nm bytes maxL ret m G) {dflt : Int} {pairs : Array (Int × Int)} {len : Nat} {k : Int32} {a off : Int} (hd : decode bytes pc = .ok (.lookupswitch dflt pairs, len)) (hsorted : (pairs.toList.zip (pairs.toList.drop 1)).all (fun (a, next) => a.1 < next.1) = true) (hfind : pairs.find? (·.1 == k.toInt) = some (a, off)) (ho : 0 ≤ (pc : Int) + off) (hq : ((pc : Int) + off).toNat = pc2) (hr : G h kc ks (mkF m pc2 L S)) : G h kc ks (mkF m pc L (.int k :: S)) := by
  subst hq
  exact K.stepX (h' := h) (fun p e s args below meth c T locs X eT hx hb0 hown hZ => ⟨T, X, eT, fun t hr => X.lookupswitchHit hx (g := mkF m pc L (.int k :: S)) rfl rfl (hb hb0 hd) hsorted hfind ho _ hr⟩) hr
theorem Cx.lsMiss (K : Cx l R Z n0 Q own nm bytes maxL ret m G) {dflt : Int} {pairs : Array (Int × Int)} {len : Nat} {k : Int32} (hd : decode bytes pc = .ok (.lookupswitch dflt pairs, len)) (hsorted : (pairs.toList.zip (pairs.toList.drop 1)).all (fun (a, next) => a.1 < next.1) = true) (hfind : ∀ p ∈ pairs.toList, p.1 ≠ k.toInt) (ho : 0 ≤ (pc : Int) + dflt) (hq : ((pc : Int) + dflt).toNat = pc2) (hr : G h kc ks (mkF m pc2 L S)) : G h kc ks (mkF m pc L (.int k :: S)) := by
  subst hq
  exact K.stepX (h' := h) (fun p e s args below meth c T locs X eT hx hb0 hown hZ => ⟨T, X, eT, fun t hr => X.lookupswitchMiss hx (g := mkF m pc L (.int k :: S)) rfl rfl (hb hb0 hd) hsorted (find_miss hfind) ho _ hr⟩) hr
theorem Cx.ldcI (K : Cx l R Z n0 Q own nm bytes maxL ret m G) {index : Nat} {v : Int32} (hd : decode bytes pc = .ok (.ldc index, 2)) (hp : pc + 2 = pc') (w : (Cond.constant own index v).before a0 Z = true) (hr : G h kc ks (mkF m pc' L (.int v :: S))) : G h kc ks (mkF m pc L S) := by
  subst hp
  exact K.stepX (h' := h) (fun p e s args below meth c T locs X eT hx hb0 hown hZ => ⟨T, X, eT, X.ldcInt hx hown (mvT hZ w) (g := mkF m pc L S) rfl (hb hb0 hd)⟩) hr
theorem Cx.ldcwI (K : Cx l R Z n0 Q own nm bytes maxL ret m G) {index : Nat} {v : Int32} (hd : decode bytes pc = .ok (.ldc_w index, 3)) (hp : pc + 3 = pc') (w : (Cond.constant own index v).before a0 Z = true) (hr : G h kc ks (mkF m pc' L (.int v :: S))) : G h kc ks (mkF m pc L S) := by
  subst hp
  exact K.stepX (h' := h) (fun p e s args below meth c T locs X eT hx hb0 hown hZ => ⟨T, X, eT, X.ldcwInt hx hown (mvT hZ w) (g := mkF m pc L S) rfl (hb hb0 hd)⟩) hr
theorem Cx.ldc2J (K : Cx l R Z n0 Q own nm bytes maxL ret m G) {index : Nat} {v : Int64} (hd : decode bytes pc = .ok (.ldc2_w index, 3)) (hp : pc + 3 = pc') (w : (Cond.constantLong own index v).before a0 Z = true) (hr : G h kc ks (mkF m pc' L (.long v :: S))) : G h kc ks (mkF m pc L S) := by
  subst hp
  exact K.stepX (h' := h) (fun p e s args below meth c T locs X eT hx hb0 hown hZ => ⟨T, X, eT, X.ldc2Long hx hown (mvT hZ w) (g := mkF m pc L S) rfl (hb hb0 hd)⟩) hr
theorem Cx.ldc2D (K : Cx l R Z n0 Q own nm bytes maxL ret m G) {index : Nat} {v : UInt64} (hd : decode bytes pc = .ok (.ldc2_w index, 3)) (hp : pc + 3 = pc') (w : (Cond.constantDouble own index v).before a0 Z = true) (hr : G h kc ks (mkF m pc' L (.double v :: S))) : G h kc ks (mkF m pc L S) := by
  subst hp
  exact K.stepX (h' := h) (fun p e s args below meth c T locs X eT hx hb0 hown hZ => ⟨T, X, eT, X.ldc2DoubleC hx hown (mvT hZ w) (g := mkF m pc L S) rfl (hb hb0 hd)⟩) hr
theorem Cx.getf (K : Cx l R Z n0 Q own nm bytes maxL ret m G) {R0 O n d host : String} {index : Nat} {a : Addr} {v : Value} (hd : decode bytes pc = .ok (.getfield index, 3)) (hp : pc + 3 = pc') (w : (Cond.fieldLink own index R0 n d).before a0 Z = true ∨ (Cond.fieldLinkNest own index R0 n d host).before a0 Z = true) (via : Via Z R0 O n d) (F : Fld Z h a O n d v) (hr : G h kc ks (mkF m pc' L (v :: S))) : G h kc ks (mkF m pc L (.ref a :: S)) := by
  subst hp
  exact K.stepX (h' := h) (fun p e s args below meth c T locs X eT hx hb0 hown hZ => RoadKit.getF X hx hZ hown w via eT F (g := mkF m pc L (.ref a :: S)) rfl rfl (hb hb0 hd)) hr
theorem Cx.gets (K : Cx l R Z n0 Q own nm bytes maxL ret m G) {R0 O n d host : String} {index : Nat} {v : Value} (hd : decode bytes pc = .ok (.getstatic index, 3)) (hp : pc + 3 = pc') (w : (Cond.fieldLink own index R0 n d).before a0 Z = true ∨ (Cond.fieldLinkNest own index R0 n d host).before a0 Z = true) (via : Via Z R0 O n d) (F : Sta Z h O n d v) (hr : G h kc ks (mkF m pc' L (v :: S))) : G h kc ks (mkF m pc L S) := by
  subst hp
  exact K.stepX (h' := h) (fun p e s args below meth c T locs X eT hx hb0 hown hZ => RoadKit.getS2 X hx hZ hown w via eT F (g := mkF m pc L S) rfl (hb hb0 hd)) hr
theorem Cx.putf (K : Cx l R Z n0 Q own nm bytes maxL ret m G) {R0 O n d host C : String} {index kk : Nat} {ty : FieldType} {a : Addr} {v old : Value} (hd : decode bytes pc = .ok (.putfield index, 3)) (hp : pc + 3 = pc') (w : (Cond.fieldLink own index R0 n d).before a0 Z = true ∨ (Cond.fieldLinkNest own index R0 n d host).before a0 Z = true) (via : Via Z R0 O n d) (F : Fld Z h a O n d old) (E : Exa Z h a C)
    (LL : (Cond.lays C O n d).before a0 Z = true ∨ ((Cond.laysFinal C O n d).before a0 Z = true ∧ own = O ∧ nm = "<init>")) (wi : (Cond.instantiable C kk).before a0 Z = true) (hty : parseFieldDescriptor d = some ty) (hn : narrow ty v = v) (hf : fits ty v = true) (ga : n0 ≤ a)
    (hr : ∀ h', Wr h h' a (Jvm.RoadKit.slotOf Z O n d) v → G h' kc ks (mkF m pc' L S)) : G h kc ks (mkF m pc L (v :: .ref a :: S)) := by
  obtain ⟨p, e, s, args, below, meth, c, rfl, hx, hby, hml, hown, hZ, hret, hlk, hnm⟩ := K
  subst hp
  intro T locs X eT N
  obtain ⟨T', h', X', e', W, st⟩ := RoadKit.putF X hx hZ hown w via eT F E (LL.imp id fun q => ⟨q.1, q.2.1, hnm.trans q.2.2⟩) wi hty hn hf (g := mkF m pc L (v :: .ref a :: S)) rfl rfl (hb hby hd)
  obtain ⟨s₂, o, h1, h2⟩ := hr h' W T' _ X' e' (Fr.snoc X' N ga)
  exact ⟨s₂, o, st _ h1, h2⟩
theorem Cx.newo (K : Cx l R Z n0 Q own nm bytes maxL ret m G) {C : String} {index n : Nat} (hd : decode bytes pc = .ok (.new index, 3)) (hp : pc + 3 = pc') (w : (Cond.classLink own index C).before a0 Z = true) (wi : (Cond.instantiable C n).before a0 Z = true) (wz : (Cond.initialized C).before a0 Z = true) (hc : kc + 1 ≤ R.cells) (hl : ks + n ≤ R.slots)
    (hr : ∀ h' a, a = h.size → Ext h h' → Exa Z h' a C → (∀ {O nm d : String} {ty : FieldType}, Laid Z a0 C O nm d → parseFieldDescriptor d = some ty → Fld Z h' a O nm d (defaultValue ty)) → G h' (kc + 1) (ks + n) (mkF m pc' L (.ref a :: S))) : G h kc ks (mkF m pc L S) := by
  obtain ⟨p, e, s, args, below, meth, c, rfl, hx, hby, hml, hown, hZ, hret, hlk, hnm⟩ := K
  subst hp
  intro T locs X eT N
  obtain ⟨T', h', X', e', E, A, D, -, st⟩ := RoadKit.newO X hx hZ hown w wi wz eT (g := mkF m pc L S) rfl (hb hby hd) hc hl
  obtain ⟨s₂, o, h1, h2⟩ := hr h' _ rfl E A D T' _ X' e' N
  exact ⟨s₂, o, st _ h1, h2⟩
theorem Cx.newa (K : Cx l R Z n0 Q own nm bytes maxL ret m G) {aty : ArrayType} {n : Int32} {k cap : Nat} (hd : decode bytes pc = .ok (.newarray aty, 2)) (hp : pc + 2 = pc') (w : (Cond.arrayClass (newarray.typeOf aty)).before a0 Z = true) (hn : n.toInt = (k : Nat)) (hk : k ≤ cap) (hbig : cap * 8 ≤ 536870912) (hc : kc + 1 ≤ R.cells) (hl : ks + cap ≤ R.slots) {ad : String} (had : "[" ++ (newarray.typeOf aty).toString = ad)
    (hr : ∀ h' a, a = h.size → Ext h h' → Ary Z h' a (newarray.typeOf aty) (List.replicate k (defaultValue (newarray.typeOf aty))) → Exa Z h' a ad → G h' (kc + 1) (ks + cap) (mkF m pc' L (.ref a :: S))) : G h kc ks (mkF m pc L (.int n :: S)) := by
  obtain ⟨p, e, s, args, below, meth, c, rfl, hx, hby, hml, hown, hZ, hret, hlk, hnm⟩ := K
  subst hp
  intro T locs X eT N
  have hn0 : ¬ n < 0 := by rw [Int32.lt_iff_toInt_lt, hn, show (0 : Int32).toInt = 0 from rfl]; omega
  obtain ⟨T', h', cA, X', e', E, A, EX, st⟩ := RoadKit.newPE X hx hZ w eT (g := mkF m pc L (.int n :: S)) rfl (hb hby hd) rfl hn0 (cap := cap) (by rw [clamp_of hn]; exact hk) hbig hc hl had
  obtain ⟨s₂, o, h1, h2⟩ := hr h' _ rfl E ⟨_, A, by simp [newA, clamp_of hn], by rw [List.length_replicate]; have := n.toInt_lt; omega⟩ EX T' _ X' e' N
  exact ⟨s₂, o, st _ h1, h2⟩
theorem Cx.iald (K : Cx l R Z n0 Q own nm bytes maxL ret m G) {a : Addr} {vs : List Value} {j : Int32} {i : Nat} {v : Value} (hd : decode bytes pc = .ok (.iaload, 1)) (hp : pc + 1 = pc') (A : Ary Z h a .int vs) (hj : j.toInt = (i : Nat)) (hv : vs[i]? = some v) (hr : G h kc ks (mkF m pc' L (v :: S))) : G h kc ks (mkF m pc L (.int j :: .ref a :: S)) := by
  subst hp
  obtain ⟨cl, Ar, rfl, hlt⟩ := A
  have hi : i < cl.slots.toList.length := (List.getElem?_eq_some_iff.mp hv).1
  exact K.stepX (h' := h) (fun p e s args below meth c T locs X eT hx hb0 hown hZ => ⟨T, X, eT, fun t hr => X.iaload hx (j := j) (v := v) (by rw [eT]; exact Ar.1) (State.isArrayOf_alike hZ.alike Ar.2.1) Ar.2.2 (in_of hj hi) (at_of hj hv) (g := mkF m pc L (.int j :: .ref a :: S)) rfl rfl (hb hb0 hd) _ hr⟩) hr
theorem Cx.lald (K : Cx l R Z n0 Q own nm bytes maxL ret m G) {a : Addr} {vs : List Value} {j : Int32} {i : Nat} {v : Value} (hd : decode bytes pc = .ok (.laload, 1)) (hp : pc + 1 = pc') (A : Ary Z h a .long vs) (hj : j.toInt = (i : Nat)) (hv : vs[i]? = some v) (hr : G h kc ks (mkF m pc' L (v :: S))) : G h kc ks (mkF m pc L (.int j :: .ref a :: S)) := by
  subst hp
  obtain ⟨cl, Ar, rfl, hlt⟩ := A
  have hi : i < cl.slots.toList.length := (List.getElem?_eq_some_iff.mp hv).1
  exact K.stepX (h' := h) (fun p e s args below meth c T locs X eT hx hb0 hown hZ => ⟨T, X, eT, fun t hr => X.laload hx (j := j) (v := v) (by rw [eT]; exact Ar.1) (State.isArrayOf_alike hZ.alike Ar.2.1) Ar.2.2 (in_of hj hi) (at_of hj hv) (g := mkF m pc L (.int j :: .ref a :: S)) rfl rfl (hb hb0 hd) _ hr⟩) hr
theorem Cx.cald (K : Cx l R Z n0 Q own nm bytes maxL ret m G) {a : Addr} {vs : List Value} {j : Int32} {i : Nat} {v : Value} (hd : decode bytes pc = .ok (.caload, 1)) (hp : pc + 1 = pc') (A : Ary Z h a .char vs) (hj : j.toInt = (i : Nat)) (hv : vs[i]? = some v) (hr : G h kc ks (mkF m pc' L (v :: S))) : G h kc ks (mkF m pc L (.int j :: .ref a :: S)) := by
  subst hp
  obtain ⟨cl, Ar, rfl, hlt⟩ := A
  have hi : i < cl.slots.toList.length := (List.getElem?_eq_some_iff.mp hv).1
  exact K.stepX (h' := h) (fun p e s args below meth c T locs X eT hx hb0 hown hZ => ⟨T, X, eT, fun t hr => X.caload hx (j := j) (v := v) (by rw [eT]; exact Ar.1) (State.isArrayOf_alike hZ.alike Ar.2.1) Ar.2.2 (in_of hj hi) (at_of hj hv) (g := mkF m pc L (.int j :: .ref a :: S)) rfl rfl (hb hb0 hd) _ hr⟩) hr
theorem Cx.bald (K : Cx l R Z n0 Q own nm bytes maxL ret m G) {a : Addr} {vs : List Value} {j : Int32} {i : Nat} {v : Value} (hd : decode bytes pc = .ok (.baload, 1)) (hp : pc + 1 = pc') (A : Ary Z h a .byte vs) (hj : j.toInt = (i : Nat)) (hv : vs[i]? = some v) (hr : G h kc ks (mkF m pc' L (v :: S))) : G h kc ks (mkF m pc L (.int j :: .ref a :: S)) := by
  subst hp
  obtain ⟨cl, Ar, rfl, hlt⟩ := A
  have hi : i < cl.slots.toList.length := (List.getElem?_eq_some_iff.mp hv).1
  exact K.stepX (h' := h) (fun p e s args below meth c T locs X eT hx hb0 hown hZ => ⟨T, X, eT, fun t hr => X.baloadBytes hx (j := j) (v := v) (by rw [eT]; exact Ar.1) (State.isArrayOf_alike hZ.alike Ar.2.1) Ar.2.2 (in_of hj hi) (at_of hj hv) (g := mkF m pc L (.int j :: .ref a :: S)) rfl rfl (hb hb0 hd) _ hr⟩) hr
theorem Cx.alen (K : Cx l R Z n0 Q own nm bytes maxL ret m G) {a : Addr} {vs : List Value} {ty : FieldType} (hd : decode bytes pc = .ok (.arraylength, 1)) (hp : pc + 1 = pc') (A : Ary Z h a ty vs) (hr : ∀ z : Int32, z.toInt = (vs.length : Nat) → G h kc ks (mkF m pc' L (.int z :: S))) : G h kc ks (mkF m pc L (.ref a :: S)) := by
  subst hp
  obtain ⟨cl, Ar, rfl, hlt⟩ := A
  refine K.stepX (h' := h) (f' := mkF m (pc + 1) L (.int cl.slots.size.toInt32 :: S)) (fun p e s args below meth c T locs X eT hx hb0 hown hZ => ⟨T, X, eT, fun t hr => X.arraylength hx (by rw [eT]; exact Ar.1) (State.isArrayOf_alike hZ.alike Ar.2.1) (g := mkF m pc L (.ref a :: S)) rfl rfl (hb hb0 hd) _ hr⟩) (hr _ ?_)
  rw [Array.length_toList] at hlt ⊢
  exact len_int hlt
theorem Cx.iast (K : Cx l R Z n0 Q own nm bytes maxL ret m G) {a : Addr} {vs : List Value} {j : Int32} {x : Int32} {i : Nat} (hd : decode bytes pc = .ok (.iastore, 1)) (hp : pc + 1 = pc') (A : Ary Z h a .int vs) (hj : j.toInt = (i : Nat)) (hi : i < vs.length) (ga : n0 ≤ a) (hr : ∀ h', Wr h h' a i (.int x) → Ary Z h' a .int (vs.set i (.int x)) → G h' kc ks (mkF m pc' L S)) : G h kc ks (mkF m pc L (.int x :: .int j :: .ref a :: S)) := by
  obtain ⟨p, e, s, args, below, meth, c, rfl, hx, hby, hml, hown, hZ, hret, hlk, hnm⟩ := K
  subst hp
  intro T locs X eT N
  have A0 := A
  obtain ⟨cl, Ar, rfl, hlt⟩ := A
  obtain ⟨T', h', X', e', W, st⟩ := RoadKit.stI X hx hZ eT Ar (j := j) (in_of hj hi) (g := mkF m pc L (.int x :: .int j :: .ref a :: S)) rfl rfl (hb hby hd)
  have W' := W
  rw [clamp_of hj] at W'
  obtain ⟨s₂, o, h1, h2⟩ := hr h' W' (A0.same W') T' _ X' e' (Fr.snoc X' N ga)
  exact ⟨s₂, o, st _ h1, h2⟩
theorem Cx.last (K : Cx l R Z n0 Q own nm bytes maxL ret m G) {a : Addr} {vs : List Value} {j : Int32} {x : Int64} {i : Nat} (hd : decode bytes pc = .ok (.lastore, 1)) (hp : pc + 1 = pc') (A : Ary Z h a .long vs) (hj : j.toInt = (i : Nat)) (hi : i < vs.length) (ga : n0 ≤ a) (hr : ∀ h', Wr h h' a i (.long x) → Ary Z h' a .long (vs.set i (.long x)) → G h' kc ks (mkF m pc' L S)) : G h kc ks (mkF m pc L (.long x :: .int j :: .ref a :: S)) := by
  obtain ⟨p, e, s, args, below, meth, c, rfl, hx, hby, hml, hown, hZ, hret, hlk, hnm⟩ := K
  subst hp
  intro T locs X eT N
  have A0 := A
  obtain ⟨cl, Ar, rfl, hlt⟩ := A
  obtain ⟨T', h', X', e', W, st⟩ := RoadKit.stJ X hx hZ eT Ar (j := j) (in_of hj hi) (g := mkF m pc L (.long x :: .int j :: .ref a :: S)) rfl rfl (hb hby hd)
  have W' := W
  rw [clamp_of hj] at W'
  obtain ⟨s₂, o, h1, h2⟩ := hr h' W' (A0.same W') T' _ X' e' (Fr.snoc X' N ga)
  exact ⟨s₂, o, st _ h1, h2⟩
theorem Cx.cast_ (K : Cx l R Z n0 Q own nm bytes maxL ret m G) {a : Addr} {vs : List Value} {j : Int32} {x : Int32} {i : Nat} (hd : decode bytes pc = .ok (.castore, 1)) (hp : pc + 1 = pc') (A : Ary Z h a .char vs) (hj : j.toInt = (i : Nat)) (hi : i < vs.length) (ga : n0 ≤ a) (hr : ∀ h', Wr h h' a i (.int (nar .char x)) → Ary Z h' a .char (vs.set i (.int (nar .char x))) → G h' kc ks (mkF m pc' L S)) : G h kc ks (mkF m pc L (.int x :: .int j :: .ref a :: S)) := by
  obtain ⟨p, e, s, args, below, meth, c, rfl, hx, hby, hml, hown, hZ, hret, hlk, hnm⟩ := K
  subst hp
  intro T locs X eT N
  have A0 := A
  obtain ⟨cl, Ar, rfl, hlt⟩ := A
  obtain ⟨T', h', X', e', W, st⟩ := RoadKit.stC X hx hZ eT Ar (j := j) (in_of hj hi) (g := mkF m pc L (.int x :: .int j :: .ref a :: S)) rfl rfl (hb hby hd)
  have W' := W
  rw [clamp_of hj] at W'
  obtain ⟨s₂, o, h1, h2⟩ := hr h' W' (A0.same W') T' _ X' e' (Fr.snoc X' N ga)
  exact ⟨s₂, o, st _ h1, h2⟩
theorem Cx.bast (K : Cx l R Z n0 Q own nm bytes maxL ret m G) {a : Addr} {vs : List Value} {j : Int32} {x : Int32} {i : Nat} (hd : decode bytes pc = .ok (.bastore, 1)) (hp : pc + 1 = pc') (A : Ary Z h a .byte vs) (hj : j.toInt = (i : Nat)) (hi : i < vs.length) (ga : n0 ≤ a) (hr : ∀ h', Wr h h' a i (.int (nar .byte x)) → Ary Z h' a .byte (vs.set i (.int (nar .byte x))) → G h' kc ks (mkF m pc' L S)) : G h kc ks (mkF m pc L (.int x :: .int j :: .ref a :: S)) := by
  obtain ⟨p, e, s, args, below, meth, c, rfl, hx, hby, hml, hown, hZ, hret, hlk, hnm⟩ := K
  subst hp
  intro T locs X eT N
  have A0 := A
  obtain ⟨cl, Ar, rfl, hlt⟩ := A
  obtain ⟨T', h', X', e', W, st⟩ := RoadKit.stB X hx hZ eT Ar (j := j) (in_of hj hi) (g := mkF m pc L (.int x :: .int j :: .ref a :: S)) rfl rfl (hb hby hd)
  have W' := W
  rw [clamp_of hj] at W'
  obtain ⟨s₂, o, h1, h2⟩ := hr h' W' (A0.same W') T' _ X' e' (Fr.snoc X' N ga)
  exact ⟨s₂, o, st _ h1, h2⟩
theorem Cx.init0 (K : Cx l R Z n0 Q own nm bytes maxL ret m G) {idx W : Nat} {a : Addr} (hd : decode bytes pc = .ok (.invokespecial idx, 3)) (hp : pc + 3 = pc') (w1 : (Cond.methodLink own idx Lib.objectInit).before a0 Z = true) (w2 : (Cond.instanceMethod Lib.objectInit).before a0 Z = true) (w3 : (Cond.code Lib.objectInit ⟨#[0xb1]⟩ 1 none).before a0 Z = true) (hL : L.size = maxL) (hf : 1 ≤ R.frames) (hW : (S.map fun v => v.category).sum ≤ W) (hl : W + 12 ≤ R.locals)
    (hr : G h kc ks (mkF m pc' L S)) : G h kc ks (mkF m pc L (.ref a :: S)) := by
  obtain ⟨p, e, s, args, below, meth, c, rfl, hx, hby, hml, hown, hZ, hret, hlk, hnm⟩ := K
  subst hp
  intro T locs X eT N
  obtain ⟨T', X', e', st⟩ := RoadKit.initO X hx hZ hown w1 w2 w3 eT (g := mkF m pc L (.ref a :: S)) rfl (by rw [hml]; exact hL) rfl (hb hby hd) hf (W := W) (by show 2 * 0 + _ ≤ _; omega) hl
  obtain ⟨s₂, o, h1, h2⟩ := hr T' _ X' e' N
  exact ⟨s₂, o, st _ h1, h2⟩
theorem Cx.calls (K : Cx l R Z n0 Q own nm bytes maxL ret m G) {y : MethodName} {b' : ByteArray} {ml' : Nat} {rt' r : Option FieldType} {rm : Room} {Qc : Option Value → Heap → Prop} {index : Nat} {argsL rest : List Value} {W : Nat} {ps : List FieldType} (hd : decode bytes pc = .ok (.invokestatic index, 3)) (hp : pc + 3 = pc') (M : MeetsW l Z n0 y b' ml' rt' rm argsL.toArray h Qc) (w1 : (Cond.methodLink own index y).before a0 Z = true) (w2 : (Cond.static y).before a0 Z = true) (w3 : (Cond.initialized y.cls).before a0 Z = true) (w4 : (Cond.code y b' ml' rt').before a0 Z = true) (hy : y.cls ≠ "java/lang/invoke/MethodHandle" ∧ y.cls ≠ "java/lang/invoke/VarHandle") (hpd : parseMethodDescriptor y.desc = some ⟨ps, r⟩) (hlen : argsL.length = ps.length) (hL : L.size = maxL) (hW : (rest.map fun v => v.category).sum ≤ W) (hf : rm.frames + 1 ≤ R.frames) (hl : W + (ml' + 11) + rm.locals ≤ R.locals) (hc : kc + rm.cells ≤ R.cells) (hsl : ks + rm.slots ≤ R.slots) (hr : ∀ v h', Qc v h' → G h' (kc + rm.cells) (ks + rm.slots) (mkF m pc' L (v.toList ++ rest))) : G h kc ks (mkF m pc L (argsL.reverse ++ rest)) := by
  obtain ⟨p, e, s, args, below, meth, c, rfl, hx, hby, hml, hown, hZ, hret, hlk, hnm⟩ := K
  subst hp
  intro T locs X eT N
  obtain ⟨v, _, ⟨T', Lo, ko, no⟩, -, X', ⟨Lc, hQ, l', y', z'⟩, st⟩ := Jvm.LawKit.callS X hx (y := y) hown (mvT hZ w1) (mvT hZ w2) (mvT hZ w3) (mvT hZ w4) hy (backOf (Q := fun v h L => Qc v h ∧ Fr n0 L) (W := W) (M []) hZ w4 w3 hf hl) (g := mkF m pc L (argsL.reverse ++ rest)) rfl (by rw [hml]; exact hL) (argsL := argsL) (rest := rest) (lenOf hpd hlen) rfl (by show 2 * 0 + _ ≤ _; omega) (hb hby hd) (fun _ _ => ⟨rfl, eT, hc, hsl⟩)
  dsimp only [Pt.U, Pt.locs, Pt.cells, Pt.slots] at X' l' y' z' st hQ
  subst l' y' z'
  obtain ⟨s₂, o, h1, h2⟩ := hr v T'.heap hQ.1 T' _ X' rfl (Fr.app N hQ.2)
  exact ⟨s₂, o, st _ h1, h2⟩
theorem Cx.callc (K : Cx l R Z n0 Q own nm bytes maxL ret m G) {y : MethodName} {b' : ByteArray} {ml' : Nat} {r : Option FieldType} {rm : Room} {Qc : Option Value → Heap → Prop} {index : Nat} {argsL rest : List Value} {W : Nat} {ps : List FieldType} {a : Addr} (hd : decode bytes pc = .ok (.invokespecial index, 3)) (hp : pc + 3 = pc') (hi : y.name = "<init>") (M : MeetsW l Z n0 y b' ml' none rm (Value.ref a :: argsL).toArray h Qc) (w1 : (Cond.methodLink own index y).before a0 Z = true) (w2 : (Cond.instanceMethod y).before a0 Z = true) (w3 : (Cond.initialized y.cls).before a0 Z = true) (w4 : (Cond.code y b' ml' none).before a0 Z = true) (hy : y.cls ≠ "java/lang/invoke/MethodHandle" ∧ y.cls ≠ "java/lang/invoke/VarHandle") (hpd : parseMethodDescriptor y.desc = some ⟨ps, r⟩) (hlen : argsL.length = ps.length) (hL : L.size = maxL) (hW : (rest.map fun v => v.category).sum ≤ W) (hf : rm.frames + 1 ≤ R.frames) (hl : W + (ml' + 11) + rm.locals ≤ R.locals) (hc : kc + rm.cells ≤ R.cells) (hsl : ks + rm.slots ≤ R.slots) (hr : ∀ v h', Qc v h' → G h' (kc + rm.cells) (ks + rm.slots) (mkF m pc' L (v.toList ++ rest))) : G h kc ks (mkF m pc L (argsL.reverse ++ .ref a :: rest)) := by
  obtain ⟨p, e, s, args, below, meth, c, rfl, hx, hby, hml, hown, hZ, hret, hlk, hnm⟩ := K
  subst hp
  intro T locs X eT N
  obtain ⟨v, _, ⟨T', Lo, ko, no⟩, -, X', ⟨Lc, hQ, l', y', z'⟩, st⟩ := X.specialBack hx (y := y) hi hown (mvT hZ w1) (mvT hZ w2) (mvT hZ w4) hy (backOf (Q := fun v h L => Qc v h ∧ Fr n0 L) (W := W) (M []) hZ w4 w3 hf hl) (g := mkF m pc L (argsL.reverse ++ .ref a :: rest)) rfl (by rw [hml]; exact hL) (Steps.refl _) (a := a) (argsL := argsL) (rest := rest) (lenOf hpd hlen) rfl (by show 2 * 0 + _ ≤ _; omega) (hb hby hd) (fun _ _ => ⟨rfl, eT, hc, hsl⟩)
  dsimp only [Pt.U, Pt.locs, Pt.cells, Pt.slots] at X' l' y' z' st hQ
  subst l' y' z'
  obtain ⟨s₂, o, h1, h2⟩ := hr v T'.heap hQ.1 T' _ X' rfl (Fr.app N hQ.2)
  exact ⟨s₂, o, st.trans h1, h2⟩
theorem Cx.callv (K : Cx l R Z n0 Q own nm bytes maxL ret m G) {y z : MethodName} {b' : ByteArray} {ml' : Nat} {rt' r : Option FieldType} {rm : Room} {Qc : Option Value → Heap → Prop} {index : Nat} {argsL rest : List Value} {W : Nat} {ps : List FieldType} {C : String} {a : Addr} (hd : decode bytes pc = .ok (.invokevirtual index, 3)) (hp : pc + 3 = pc') (M : MeetsW l Z n0 z b' ml' rt' rm (Value.ref a :: argsL).toArray h Qc) (E : Exa Z h a C) (w1 : (Cond.methodLink own index y).before a0 Z = true) (w5 : (Cond.declares y).before a0 Z = true) (nf : ∀ s : State, Z.Warmed39 s.vm → NotFace s y) (w6 : (Cond.selects C y z).before a0 Z = true) (w2 : (Cond.instanceMethod z).before a0 Z = true) (w3 : (Cond.initialized z.cls).before a0 Z = true) (w4 : (Cond.code z b' ml' rt').before a0 Z = true) (hy : y.cls ≠ "java/lang/invoke/MethodHandle" ∧ y.cls ≠ "java/lang/invoke/VarHandle") (hpd : parseMethodDescriptor y.desc = some ⟨ps, r⟩) (hlen : argsL.length = ps.length) (hL : L.size = maxL) (hW : (rest.map fun v => v.category).sum ≤ W) (hf : rm.frames + 1 ≤ R.frames) (hl : W + (ml' + 11) + rm.locals ≤ R.locals) (hc : kc + rm.cells ≤ R.cells) (hsl : ks + rm.slots ≤ R.slots) (hr : ∀ v h', Qc v h' → G h' (kc + rm.cells) (ks + rm.slots) (mkF m pc' L (v.toList ++ rest))) : G h kc ks (mkF m pc L (argsL.reverse ++ .ref a :: rest)) := by
  obtain ⟨p, e, s, args, below, meth, c, rfl, hx, hby, hml, hown, hZ, hret, hlk, hnm⟩ := K
  subst hp
  intro T locs X eT N
  obtain ⟨cq, kq, qa, qb, qc⟩ := isOf hZ eT E
  obtain ⟨v, _, ⟨T', Lo, ko, no⟩, -, X', ⟨Lc, hQ, l', y', z'⟩, st⟩ := X.virtualBack hx (y := y) (z := z) hown (mvT hZ w1) (mvT hZ w5) (nf s hZ) (mvT hZ w6) (mvT hZ w2) hy (backOf (Q := fun v h L => Qc v h ∧ Fr n0 L) (W := W) (M []) hZ w4 w3 hf hl) qa qc (g := mkF m pc L (argsL.reverse ++ .ref a :: rest)) rfl (by rw [hml]; exact hL) (Steps.refl _) (argsL := argsL) (rest := rest) (lenOf hpd hlen) rfl (by show 2 * 0 + _ ≤ _; omega) (hb hby hd) (fun _ _ => ⟨rfl, eT, hc, hsl⟩)
  dsimp only [Pt.U, Pt.locs, Pt.cells, Pt.slots] at X' l' y' z' st hQ
  subst l' y' z'
  obtain ⟨s₂, o, h1, h2⟩ := hr v T'.heap hQ.1 T' _ X' rfl (Fr.app N hQ.2)
  exact ⟨s₂, o, st.trans h1, h2⟩
theorem nf_sel {y z : MethodName} {C : String} (w : (Cond.selects C y z).before a0 Z = true) (hyz : y = z) : ∀ s : State, Z.Warmed39 s.vm → NotFace s y := fun s hZ => by subst hyz; exact notFace_of_selects (args := #[]) (mvT hZ w)
theorem Cx.callp (K : Cx l R Z n0 Q own nm bytes maxL ret m G) {y : MethodName} {b' : ByteArray} {ml' : Nat} {rt' r : Option FieldType} {rm : Room} {Qc : Option Value → Heap → Prop} {index : Nat} {argsL rest : List Value} {W : Nat} {ps : List FieldType} {C : String} {a : Addr} (hd : decode bytes pc = .ok (.invokevirtual index, 3)) (hp : pc + 3 = pc') (M : MeetsW l Z n0 y b' ml' rt' rm (Value.ref a :: argsL).toArray h Qc) (E : Exa Z h a C) (w1 : (Cond.methodLink own index y).before a0 Z = true) (w2 : (Cond.instanceMethod y).before a0 Z = true) {kk : Nat} (wi : (Cond.instantiable y.cls kk).before a0 Z = true) (w7 : (Cond.privateMethod y).before a0 Z = true) (w3 : (Cond.initialized y.cls).before a0 Z = true) (w4 : (Cond.code y b' ml' rt').before a0 Z = true) (hy : y.cls ≠ "java/lang/invoke/MethodHandle" ∧ y.cls ≠ "java/lang/invoke/VarHandle") (hpd : parseMethodDescriptor y.desc = some ⟨ps, r⟩) (hlen : argsL.length = ps.length) (hL : L.size = maxL) (hW : (rest.map fun v => v.category).sum ≤ W) (hf : rm.frames + 1 ≤ R.frames) (hl : W + (ml' + 11) + rm.locals ≤ R.locals) (hc : kc + rm.cells ≤ R.cells) (hsl : ks + rm.slots ≤ R.slots) (hr : ∀ v h', Qc v h' → G h' (kc + rm.cells) (ks + rm.slots) (mkF m pc' L (v.toList ++ rest))) : G h kc ks (mkF m pc L (argsL.reverse ++ .ref a :: rest)) := by
  obtain ⟨p, e, s, args, below, meth, c, rfl, hx, hby, hml, hown, hZ, hret, hlk, hnm⟩ := K
  subst hp
  intro T locs X eT N
  obtain ⟨cq, q1, q2⟩ := E.cell
  have hpriv : s.PrivateAt y := Cond.privateMethod_at (mvP hZ w7 (args := #[]))
  obtain ⟨c0, k0, i1, i2, i3, i4, -⟩ := Cond.instantiable_spec (show (Cond.instantiable y.cls kk).before args s = true from mvT hZ wi)
  have w6 : (Cond.selects y.cls y y).before args s = true := selects_self_of_private i1 i2 (by simp only [Bool.or_eq_false_iff] at i4; exact i4.1) hpriv (mvT hZ w2) hy
  obtain ⟨v, _, ⟨T', Lo, ko, no⟩, -, X', ⟨Lc, hQ, l', y', z'⟩, st⟩ := X.privateBack hx (y := y) hown (mvT hZ w1) (mvT hZ w2) w6 hpriv (mvT hZ w4) hy (backOf (Q := fun v h L => Qc v h ∧ Fr n0 L) (W := W) (M []) hZ w4 w3 hf hl) (g := mkF m pc L (argsL.reverse ++ .ref a :: rest)) rfl (by rw [hml]; exact hL) (Steps.refl _) (a := a) (by rw [eT]; exact q1) q2 (argsL := argsL) (rest := rest) (lenOf hpd hlen) rfl (by show 2 * 0 + _ ≤ _; omega) (hb hby hd) (fun _ _ => ⟨rfl, eT, hc, hsl⟩)
  dsimp only [Pt.U, Pt.locs, Pt.cells, Pt.slots] at X' l' y' z' st hQ
  subst l' y' z'
  obtain ⟨s₂, o, h1, h2⟩ := hr v T'.heap hQ.1 T' _ X' rfl (Fr.app N hQ.2)
  exact ⟨s₂, o, st.trans h1, h2⟩
theorem Cx.acopy (K : Cx l R Z n0 Q own nm bytes maxL ret m G) {index W i j k : Nat} {a b : Addr} {ty : FieldType} {vs vd : List Value} {sp dp nn : Int32} (dv : Value) (hd : decode bytes pc = .ok (.invokestatic index, 3)) (hp : pc + 3 = pc') (w1 : (Cond.methodLink own index Jvm.Stand.acN).before a0 Z = true) (w2 : (Cond.native Jvm.Stand.acN).before a0 Z = true) (w3 : (Cond.static Jvm.Stand.acN).before a0 Z = true) (w4 : (Cond.initialized "java/lang/System").before a0 Z = true)
    (A : Ary Z h a ty vs) (B : Ary Z h b ty vd) (hpr : refKind ty = false) (hfa : ∀ v ∈ vs, fits ty v = true) (hfb : ∀ v ∈ vd, fits ty v = true) (hdv : fits ty dv = true) (hi : sp.toInt = (i : Nat)) (hj : dp.toInt = (j : Nat)) (hk : nn.toInt = (k : Nat)) (h4 : i + k ≤ vs.length) (h5 : j + k ≤ vd.length) (gb : n0 ≤ b)
    (hL : L.size = maxL) (hf : 1 ≤ R.frames) (hW : (S.map fun v => v.category).sum ≤ W) (hlo : W + (nativeFrameWords "java/lang/System" "arraycopy" 5 + 11) ≤ R.locals)
    (hr : ∀ h', Keep h h' [b] → Ary Z h' b ty (vd.take j ++ ((List.range k).map fun t => vs.getD (i + t) dv) ++ vd.drop (j + k)) → G h' kc ks (mkF m pc' L S)) : G h kc ks (mkF m pc L (.int nn :: .int dp :: .ref b :: .int sp :: .ref a :: S)) := by
  obtain ⟨p, e, s, args, below, meth, c, rfl, hx, hby, hml, hown, hZ, hret, hlk, hnm⟩ := K
  subst hp
  intro T locs X eT N
  obtain ⟨ka, za, ea, VA⟩ := A.toArv hfa hdv
  obtain ⟨kb, zb, eb, VB⟩ := B.toArv hfb hdv
  have neg : ∀ {x : Int32} {n : Nat}, x.toInt = (n : Nat) → ¬ x < 0 := fun {x n} q => by rw [Int32.lt_iff_toInt_lt, q, show (0 : Int32).toInt = 0 from rfl]; omega
  obtain ⟨T', h', Lc, X', e', N', Kp, V, st⟩ := RoadKit.cpA X hx hZ hown w1 w2 w3 w4 eT VA VB (Or.inl ⟨rfl, hpr⟩) (neg hi) (neg hj) (neg hk) (by rw [clamp_of hi, clamp_of hk, clamp_of ea]; exact h4) (by rw [clamp_of hj, clamp_of hk, clamp_of eb]; exact h5) rfl (by rw [clamp_of hj, clamp_of hk]; exact h5) N gb (g := mkF m pc L (.int nn :: .int dp :: .ref b :: .int sp :: .ref a :: S)) rfl (by rw [hml]; exact hL) rfl (hb hby hd) hf (W := W) (by show 2 * 0 + _ ≤ _; omega) hlo
  rw [clamp_of hi, clamp_of hj, clamp_of hk] at V
  obtain ⟨s₂, o, h1, h2⟩ := hr h' Kp (Arv.toAry V (by rw [eb]; simp; omega)) T' _ X' e' N'
  exact ⟨s₂, o, st _ h1, h2⟩
theorem Cx.clone (K : Cx l R Z n0 Q own nm bytes maxL ret m G) {index W cap : Nat} {a : Addr} {ad : String} {ty : FieldType} {vs : List Value} (dv : Value) (hd : decode bytes pc = .ok (.invokevirtual index, 3)) (hp : pc + 3 = pc')
    (w1 : (Cond.methodLink own index ⟨ad, "clone", "()Ljava/lang/Object;"⟩).before a0 Z = true) (w2 : (Cond.sameMethod ad "java/lang/Object" "clone" "()Ljava/lang/Object;").before a0 Z = true) (w3 : (Cond.native ⟨"java/lang/Object", "clone", "()Ljava/lang/Object;"⟩).before a0 Z = true)
    (w4 : (Cond.instanceMethod ⟨"java/lang/Object", "clone", "()Ljava/lang/Object;"⟩).before a0 Z = true) (w5 : (Cond.selects ad ⟨ad, "clone", "()Ljava/lang/Object;"⟩ ⟨"java/lang/Object", "clone", "()Ljava/lang/Object;"⟩).before a0 Z = true) (w6 : (Cond.castable ad "java/lang/Cloneable").before a0 Z = true)
    (A : Ary Z h a ty vs) (E : Exa Z h a ad) (hfv : ∀ v ∈ vs, fits ty v = true) (hdv : fits ty dv = true) (hL : L.size = maxL) (hf : 1 ≤ R.frames) (hW : (S.map fun v => v.category).sum ≤ W) (hl : W + 14 ≤ R.locals) (hcap : vs.length ≤ cap) (hc : kc + 1 ≤ R.cells) (hsl : ks + cap ≤ R.slots)
    (hr : ∀ h' b, b = h.size → Ext h h' → Ary Z h' b ty vs → Exa Z h' b ad → G h' (kc + 1) (ks + cap) (mkF m pc' L (.ref b :: S))) : G h kc ks (mkF m pc L (.ref a :: S)) := by
  obtain ⟨p, e, s, args, below, meth, c, rfl, hx, hby, hml, hown, hZ, hret, hlk, hnm⟩ := K
  subst hp
  intro T locs X eT N
  obtain ⟨ka, za, ea, VA⟩ := A.toArv hfv hdv
  obtain ⟨T', h', X', e', Ex', V, EX, st⟩ := RoadKit.cloneH X hx hZ hown w1 w2 w3 w4 w5 w6 eT VA.arh E (g := mkF m pc L (.ref a :: S)) rfl (by rw [hml]; exact hL) rfl (hb hby hd) hf (W := W) (cap := cap) (by show 2 * 0 + _ ≤ _; omega) hl (by rw [clamp_of ea]; exact hcap) hc hsl
  obtain ⟨s₂, o, h1, h2⟩ := hr h' _ rfl Ex' (Arv.toAry (show Arv Z h' h.size ka ty za vs dv from V) ea) EX T' _ X' e' N
  exact ⟨s₂, o, st _ h1, h2⟩
theorem Cx.ccast (K : Cx l R Z n0 Q own nm bytes maxL ret m G) {index : Nat} {Kc : String} {a : Addr} (hd : decode bytes pc = .ok (.checkcast index, 3)) (hp : pc + 3 = pc') (w : (Cond.classLink own index Kc).before a0 Z = true) (F : Ins Z h a Kc true) (hr : G h kc ks (mkF m pc' L (.ref a :: S))) : G h kc ks (mkF m pc L (.ref a :: S)) := by
  subst hp
  exact K.stepX (h' := h) (fun p e s args below meth c T locs X eT hx hb0 hown hZ => RoadKit.castY X hx hZ hown w eT F (g := mkF m pc L (.ref a :: S)) rfl rfl (hb hb0 hd)) hr
theorem Cx.reti (K : Cx l R Z n0 Q own nm bytes maxL (some .int) m G) {z : Int32} (hd : decode bytes pc = .ok (.ireturn, 1)) (hc : kc ≤ R.cells) (hs : ks ≤ R.slots) (hQ : Q (some (.int z)) h) : G h kc ks (mkF m pc L (.int z :: S)) := by
  obtain ⟨p, e, s, args, below, meth, c, rfl, hx, hby, hml, hown, hZ, hret, hlk, hnm⟩ := K
  intro T locs X eT N
  obtain ⟨fs, hr, hrun, hended, hW, hsame⟩ := X.leave (v := some (.int z)) (fun h => by rw [hret] at h; cases h) hlk
  refine ⟨_, _, ?_, hrun, hended, _, _, rfl, ⟨?_, N⟩, ⟨_, rfl⟩, hW, hsame.mono hc hs⟩
  · exact retOut X hx hret rfl (Or.inl ⟨rfl, Or.inl rfl, _, rfl⟩) (hb hby hd) hr
  · show Q _ T.heap
    rw [eT]; exact hQ
theorem Cx.retz (K : Cx l R Z n0 Q own nm bytes maxL (some .boolean) m G) {z : Int32} (hd : decode bytes pc = .ok (.ireturn, 1)) (hz : z = 0 ∨ z = 1) (hc : kc ≤ R.cells) (hs : ks ≤ R.slots) (hQ : Q (some (.int z)) h) : G h kc ks (mkF m pc L (.int z :: S)) := by
  obtain ⟨p, e, s, args, below, meth, c, rfl, hx, hby, hml, hown, hZ, hret, hlk, hnm⟩ := K
  intro T locs X eT N
  obtain ⟨fs, hr, hrun, hended, hW, hsame⟩ := X.leave (v := some (.int z)) (fun h => by rw [hret] at h; cases h) hlk
  refine ⟨_, _, ?_, hrun, hended, _, _, rfl, ⟨?_, N⟩, ⟨_, rfl⟩, hW, hsame.mono hc hs⟩
  · exact retOut X hx hret (by rcases hz with rfl | rfl <;> rfl) (Or.inl ⟨rfl, Or.inr (Or.inl rfl), _, rfl⟩) (hb hby hd) hr
  · show Q _ T.heap
    rw [eT]; exact hQ
theorem Cx.retl (K : Cx l R Z n0 Q own nm bytes maxL (some .long) m G) {z : Int64} (hd : decode bytes pc = .ok (.lreturn, 1)) (hc : kc ≤ R.cells) (hs : ks ≤ R.slots) (hQ : Q (some (.long z)) h) : G h kc ks (mkF m pc L (.long z :: S)) := by
  obtain ⟨p, e, s, args, below, meth, c, rfl, hx, hby, hml, hown, hZ, hret, hlk, hnm⟩ := K
  intro T locs X eT N
  obtain ⟨fs, hr, hrun, hended, hW, hsame⟩ := X.leave (v := some (.long z)) (fun h => by rw [hret] at h; cases h) hlk
  refine ⟨_, _, ?_, hrun, hended, _, _, rfl, ⟨?_, N⟩, ⟨_, rfl⟩, hW, hsame.mono hc hs⟩
  · exact retOut X hx hret rfl (Or.inr (Or.inl ⟨rfl, rfl, _, rfl⟩)) (hb hby hd) hr
  · show Q _ T.heap
    rw [eT]; exact hQ
theorem Cx.reta {t : FieldType} (K : Cx l R Z n0 Q own nm bytes maxL (some t) m G) {v : Value} (hd : decode bytes pc = .ok (.areturn, 1)) (ht : t.isReference = true) (hn : narrow t v = v) (hv : v.isRef = true) (hc : kc ≤ R.cells) (hs : ks ≤ R.slots) (hQ : Q (some v) h) : G h kc ks (mkF m pc L (v :: S)) := by
  obtain ⟨p, e, s, args, below, meth, c, rfl, hx, hby, hml, hown, hZ, hret, hlk, hnm⟩ := K
  intro T locs X eT N
  obtain ⟨fs, hr, hrun, hended, hW, hsame⟩ := X.leave (v := some v) (fun h => by rw [hret] at h; cases h) hlk
  refine ⟨_, _, ?_, hrun, hended, _, _, rfl, ⟨?_, N⟩, ⟨_, rfl⟩, hW, hsame.mono hc hs⟩
  · exact retOut X hx hret hn (Or.inr (Or.inr (Or.inr (Or.inr ⟨rfl, ht, hv⟩)))) (hb hby hd) hr
  · show Q _ T.heap
    rw [eT]; exact hQ
theorem Cx.retd (K : Cx l R Z n0 Q own nm bytes maxL (some .double) m G) {z : UInt64} (hd : decode bytes pc = .ok (.dreturn, 1)) (hc : kc ≤ R.cells) (hs : ks ≤ R.slots) (hQ : Q (some (.double z)) h) : G h kc ks (mkF m pc L (.double z :: S)) := by
  obtain ⟨p, e, s, args, below, meth, c, rfl, hx, hby, hml, hown, hZ, hret, hlk, hnm⟩ := K
  intro T locs X eT N
  obtain ⟨fs, hr, hrun, hended, hW, hsame⟩ := X.leave (v := some (.double z)) (fun h => by rw [hret] at h; cases h) hlk
  refine ⟨_, _, ?_, hrun, hended, _, _, rfl, ⟨?_, N⟩, ⟨_, rfl⟩, hW, hsame.mono hc hs⟩
  · exact retOut X hx hret rfl (Or.inr (Or.inr (Or.inl ⟨rfl, rfl, _, rfl⟩))) (hb hby hd) hr
  · show Q _ T.heap
    rw [eT]; exact hQ
theorem Cx.ret0 (K : Cx l R Z n0 Q own nm bytes maxL none m G) (hd : decode bytes pc = .ok (.return_, 1)) (hc : kc ≤ R.cells) (hs : ks ≤ R.slots) (hQ : Q none h) : G h kc ks (mkF m pc L []) := by
  obtain ⟨p, e, s, args, below, meth, c, rfl, hx, hby, hml, hown, hZ, hret, hlk, hnm⟩ := K
  intro T locs X eT N
  obtain ⟨fs, hr, hrun, hended, hW, hsame⟩ := X.leave (v := none) (fun h => rfl) hlk
  refine ⟨_, _, ?_, hrun, hended, _, _, rfl, ⟨?_, N⟩, ⟨_, rfl⟩, hW, hsame.mono hc hs⟩
  · exact X.returnOut hx hret (hb hby hd) hr
  · show Q _ T.heap
    rw [eT]; exact hQ
end Steps
end Jvm.Wk
namespace Jvm.Pilot.@@N@@
open Jvm Jvm.ClassFile Sem Op Lib Jvm.Free Jvm.Stand Jvm.LawKit Jvm.RoadKit Jvm.Wk Bundle Jvm.Pilot.@@N@@.Jvm.D
def Itm (vs : List Value) (p : Nat) (kind sz : Int) : Prop :=
  (kind = 0 ∧ sz = 1 ∧ ∃ b : Int32, vs[p]? = some (.int b) ∧ 0 ≤ b.toInt ∧ b.toInt < 128) ∨ (kind = 1 ∧ sz = 2 ∧ vs[p]? = some (.int (-127)) ∧ ∃ b : Int32, vs[p + 1]? = some (.int b) ∧ -128 ≤ b.toInt ∧ b.toInt < 0) ∨
  (kind = 2 ∧ sz = 1 ∧ vs[p]? = some (.int (-64))) ∨ (kind = 3 ∧ sz = 2 ∧ vs[p]? = some (.int (-63)) ∧ ∃ b : Int32, vs[p + 1]? = some (.int b) ∧ 0 ≤ b.toInt ∧ b.toInt < 128)
theorem Itm.sz {vs : List Value} {p : Nat} {kind sz : Int} (h : Itm vs p kind sz) : 0 ≤ kind ∧ kind ≤ 3 ∧ 1 ≤ sz ∧ sz ≤ 2 := by
  rcases h with ⟨h1, h2, -⟩ | ⟨h1, h2, -⟩ | ⟨h1, h2, -⟩ | ⟨h1, h2, -⟩ <;> omega
theorem Itm.same {vs ws : List Value} {p : Nat} {kind sz : Int} (h : Itm vs p kind sz) (q : ∀ j : Nat, p ≤ j → (j : Int) < p + sz → ws[j]? = vs[j]?) : Itm ws p kind sz := by
  rcases h with ⟨h1, h2, b, h3, h4⟩ | ⟨h1, h2, h3, b, h4, h5⟩ | ⟨h1, h2, h3⟩ | ⟨h1, h2, h3, b, h4, h5⟩
  · exact Or.inl ⟨h1, h2, b, (q p (Nat.le_refl _) (by omega)).trans h3, h4⟩
  · exact Or.inr (Or.inl ⟨h1, h2, (q p (Nat.le_refl _) (by omega)).trans h3, b, (q (p + 1) (by omega) (by omega)).trans h4, h5⟩)
  · exact Or.inr (Or.inr (Or.inl ⟨h1, h2, (q p (Nat.le_refl _) (by omega)).trans h3⟩))
  · exact Or.inr (Or.inr (Or.inr ⟨h1, h2, (q p (Nat.le_refl _) (by omega)).trans h3, b, (q (p + 1) (by omega) (by omega)).trans h4, h5⟩))
theorem d10_0 : decode jdk_35_method_42_code 0 = .ok (.lload_n 0, 1) := by decide +kernel
theorem d10_1 : decode jdk_35_method_42_code 1 = .ok (.lload_n 2, 1) := by decide +kernel
theorem d10_2 : decode jdk_35_method_42_code 2 = .ok (.lcmp, 1) := by decide +kernel
theorem d10_3 : decode jdk_35_method_42_code 3 = .ok (.ifCond .ge 7, 3) := by decide +kernel
theorem d10_10 : decode jdk_35_method_42_code 10 = .ok (.lload_n 0, 1) := by decide +kernel
theorem d10_11 : decode jdk_35_method_42_code 11 = .ok (.lload_n 2, 1) := by decide +kernel
theorem d10_12 : decode jdk_35_method_42_code 12 = .ok (.lcmp, 1) := by decide +kernel
theorem d10_13 : decode jdk_35_method_42_code 13 = .ok (.ifCond .ne 7, 3) := by decide +kernel
theorem d10_20 : decode jdk_35_method_42_code 20 = .ok (.iconst 1, 1) := by decide +kernel
theorem d10_21 : decode jdk_35_method_42_code 21 = .ok (.ireturn, 1) := by decide +kernel
theorem d10_16 : decode jdk_35_method_42_code 16 = .ok (.iconst 0, 1) := by decide +kernel
theorem d10_17 : decode jdk_35_method_42_code 17 = .ok (.goto 4, 3) := by decide +kernel
theorem d10_6 : decode jdk_35_method_42_code 6 = .ok (.iconst (-1), 1) := by decide +kernel
theorem d10_7 : decode jdk_35_method_42_code 7 = .ok (.goto 14, 3) := by decide +kernel
theorem pn_java_lang_Long : plainName "java/lang/Long" = true := by first | (simp [plainName, overriddenIn]; done) | decide +kernel
set_option maxRecDepth 65536 in
set_option maxHeartbeats 40000000 in
theorem c_cmp (l : Launch) (Z : State) (a0 : Array Value) (hw : ∀ d ∈ tables_1, d.before a0 Z = true) (n0 : Nat) (h : Heap) (q1 : Int64) (q2 : Int64)  : MeetsW l Z n0 (⟨"java/lang/Long", "compare", "(JJ)I"⟩ : MethodName) jdk_35_method_42_code 4 (some .int) ({ frames := 0, cells := 0, slots := 0, locals := 0 } : Room) #[(.long q1), (.long q2)] h (fun v h' => ∃ (z : Int32), v = some (.int z) ∧ ((q1.toInt < q2.toInt → z.toInt = -1) ∧ (q1.toInt = q2.toInt → z.toInt = 0) ∧ (q2.toInt < q1.toInt → z.toInt = 1)) ∧ h = h') := by
  refine MeetsW.intro (plainFor_of_name pn_java_lang_Long) (L0 := #[.val (.long q1), .second, .val (.long q2), .second]) (fun m => by first | (simp [entryFrame, mkF, argsToLocals, Value.category]; done) | rfl) ?_
  intro m G K0
  have K : Cx l ({ frames := 0, cells := 0, slots := 0, locals := 0 } : Room) Z n0 _ "java/lang/Long" "compare" jdk_35_method_42_code 4 (some .int) m G := K0
  refine K.lloadN d10_0 (pc' := 1) rfl rfl ?_
  refine K.lloadN d10_1 (pc' := 2) rfl rfl ?_
  refine K.lcmp_ge d10_2 d10_3 (pc1 := 6) rfl (by decide) (pc2 := 10) (by decide) (a := q1.toInt) (b := q2.toInt) rfl rfl (fun c2 => ?_) (fun c2 => ?_)
  · refine K.lloadN d10_10 (pc' := 11) rfl rfl ?_
    refine K.lloadN d10_11 (pc' := 12) rfl rfl ?_
    refine K.lcmp_ne d10_12 d10_13 (pc1 := 16) rfl (by decide) (pc2 := 20) (by decide) (a := q1.toInt) (b := q2.toInt) rfl rfl (fun c12 => ?_) (fun c12 => ?_)
    · refine K.iconst d10_20 (pc' := 21) rfl (z := 1) rfl ?_
      exact K.reti d10_21 (by decide) (by decide) ⟨(1 : Int32), rfl, by have ev : (1 : Int32).toInt = 1 := rfl; first | omega | ((try simp only [Int32.reduceToInt]); omega), rfl⟩
    · refine K.iconst d10_16 (pc' := 17) rfl (z := 0) rfl ?_
      refine K.goto d10_17 (by decide) (pc' := 21) (by decide) ?_
      exact K.reti d10_21 (by decide) (by decide) ⟨(0 : Int32), rfl, by have ev : (0 : Int32).toInt = 0 := rfl; first | omega | ((try simp only [Int32.reduceToInt]); omega), rfl⟩
  · refine K.iconst d10_6 (pc' := 7) rfl (z := -1) rfl ?_
    refine K.goto d10_7 (by decide) (pc' := 21) (by decide) ?_
    exact K.reti d10_21 (by decide) (by decide) ⟨(-1 : Int32), rfl, by have ev : (-1 : Int32).toInt = -1 := rfl; first | omega | ((try simp only [Int32.reduceToInt]); omega), rfl⟩
theorem d9_0 : decode jdk_35_method_43_code 0 = .ok (.lload_n 0, 1) := by decide +kernel
theorem d9_1 : decode jdk_35_method_43_code 1 = .ok (.ldc2_w 168, 3) := by decide +kernel
theorem d9_4 : decode jdk_35_method_43_code 4 = .ok (.ladd, 1) := by decide +kernel
theorem d9_5 : decode jdk_35_method_43_code 5 = .ok (.lload_n 2, 1) := by decide +kernel
theorem d9_6 : decode jdk_35_method_43_code 6 = .ok (.ldc2_w 168, 3) := by decide +kernel
theorem d9_9 : decode jdk_35_method_43_code 9 = .ok (.ladd, 1) := by decide +kernel
theorem d9_10 : decode jdk_35_method_43_code 10 = .ok (.invokestatic 302, 3) := by decide +kernel
theorem pd_0 : parseMethodDescriptor "(JJ)I" = some ⟨[.long, .long], some .int⟩ := by decide +kernel
theorem d9_13 : decode jdk_35_method_43_code 13 = .ok (.ireturn, 1) := by decide +kernel
set_option maxRecDepth 65536 in
set_option maxHeartbeats 40000000 in
theorem c_cu (l : Launch) (Z : State) (a0 : Array Value) (hw : ∀ d ∈ tables_1, d.before a0 Z = true) (n0 : Nat) (h : Heap) (q1 : Int64) (q2 : Int64)  : MeetsW l Z n0 (⟨"java/lang/Long", "compareUnsigned", "(JJ)I"⟩ : MethodName) jdk_35_method_43_code 4 (some .int) ({ frames := 1, cells := 0, slots := 0, locals := 15 } : Room) #[(.long q1), (.long q2)] h (fun v h' => ∃ (z : Int32), v = some (.int z) ∧ (q1.toInt % 18446744073709551616 ≤ q2.toInt % 18446744073709551616 → z.toInt ≤ 0) ∧ h = h') := by
  refine MeetsW.intro (plainFor_of_name pn_java_lang_Long) (L0 := #[.val (.long q1), .second, .val (.long q2), .second]) (fun m => by first | (simp [entryFrame, mkF, argsToLocals, Value.category]; done) | rfl) ?_
  intro m G K0
  have K : Cx l ({ frames := 1, cells := 0, slots := 0, locals := 15 } : Room) Z n0 _ "java/lang/Long" "compareUnsigned" jdk_35_method_43_code 4 (some .int) m G := K0
  have g_1 := rng64 q1
  have g_2 := rng64 q2
  refine K.lloadN d9_0 (pc' := 1) rfl rfl ?_
  refine K.ldc2J d9_1 (pc' := 4) rfl (hw _ (List.mem_of_getElem? (i := 68) rfl)) ?_
  obtain ⟨z4, e_z4⟩ : ∃ z, q1 + (-9223372036854775808 : Int64) = z := ⟨_, rfl⟩
  have r_z4 : (z4.toInt - (q1.toInt + (-9223372036854775808))) % 18446744073709551616 = 0 := by have q := c_ladd q1 (-9223372036854775808 : Int64); rw [e_z4] at q; exact q
  have g_z4 := rng64 z4
  refine K.ladd d9_4 (pc' := 5) rfl e_z4 ?_
  refine K.lloadN d9_5 (pc' := 6) rfl rfl ?_
  refine K.ldc2J d9_6 (pc' := 9) rfl (hw _ (List.mem_of_getElem? (i := 68) rfl)) ?_
  obtain ⟨z9, e_z9⟩ : ∃ z, q2 + (-9223372036854775808 : Int64) = z := ⟨_, rfl⟩
  have r_z9 : (z9.toInt - (q2.toInt + (-9223372036854775808))) % 18446744073709551616 = 0 := by have q := c_ladd q2 (-9223372036854775808 : Int64); rw [e_z9] at q; exact q
  have g_z9 := rng64 z9
  refine K.ladd d9_9 (pc' := 10) rfl e_z9 ?_
  refine K.calls (argsL := [(.long z4), (.long z9)]) (rest := []) d9_10 (pc' := 13) rfl (c_cmp l Z a0 hw n0 h (q1 := z4) (q2 := z9) ) (hw _ (List.mem_of_getElem? (i := 69) rfl)) (hw _ (List.mem_of_getElem? (i := 70) rfl)) (hw _ (List.mem_of_getElem? (i := 66) rfl)) (hw _ (List.mem_of_getElem? (i := 71) rfl)) (by decide) pd_0 rfl rfl (W := 0) (by simp [Value.category]) (by decide) (by decide) (by decide) (by decide) (fun v_3 h_1 q_2 => ?_)
  obtain ⟨w, rfl, t_w, rfl⟩ := q_2
  show G h 0 0 (mkF m 13 #[.val (.long q1), .second, .val (.long q2), .second] [(.int w)])
  exact K.reti d9_13 (by decide) (by decide) ⟨w, rfl, by omega, rfl⟩
theorem d3_0 : decode prog_16_method_1_code 0 = .ok (.aload_n 0, 1) := by decide +kernel
theorem d3_1 : decode prog_16_method_1_code 1 = .ok (.invokespecial 1, 3) := by decide +kernel
theorem d3_4 : decode prog_16_method_1_code 4 = .ok (.return_, 1) := by decide +kernel
theorem pn_com_example_nestwire_nestwire_codec_Header : plainName "com/example/nestwire/nestwire/codec/Header" = true := by first | (simp [plainName, overriddenIn]; done) | decide +kernel
set_option maxRecDepth 65536 in
set_option maxHeartbeats 40000000 in
theorem c_hd (l : Launch) (Z : State) (a0 : Array Value) (hw : ∀ d ∈ tables_1, d.before a0 Z = true) (n0 : Nat) (h : Heap) (a : Addr)  : MeetsW l Z n0 (⟨"com/example/nestwire/nestwire/codec/Header", "<init>", "()V"⟩ : MethodName) prog_16_method_1_code 1 none ({ frames := 1, cells := 0, slots := 0, locals := 12 } : Room) #[(.ref a)] h (fun v h' => v = none ∧ h = h') := by
  refine MeetsW.intro (plainFor_of_name pn_com_example_nestwire_nestwire_codec_Header) (L0 := #[.val (.ref a)]) (fun m => by first | (simp [entryFrame, mkF, argsToLocals, Value.category]; done) | rfl) ?_
  intro m G K0
  have K : Cx l ({ frames := 1, cells := 0, slots := 0, locals := 12 } : Room) Z n0 _ "com/example/nestwire/nestwire/codec/Header" "<init>" prog_16_method_1_code 1 none m G := K0
  refine K.aloadN d3_0 (pc' := 1) rfl rfl rfl ?_
  refine K.init0 d3_1 (pc' := 4) rfl (hw _ (List.mem_of_getElem? (i := 17) rfl)) (hw _ (List.mem_of_getElem? (i := 9) rfl)) (hw _ (List.mem_of_getElem? (i := 10) rfl)) rfl (by decide) (W := 0) (by simp [Value.category]) (by decide) ?_
  exact K.ret0 d3_4 (by decide) (by decide) ⟨rfl, rfl⟩
theorem d11_0 : decode prog_16_method_2_code 0 = .ok (.aload_n 0, 1) := by decide +kernel
theorem d11_1 : decode prog_16_method_2_code 1 = .ok (.getfield 7, 3) := by decide +kernel
theorem d11_4 : decode prog_16_method_2_code 4 = .ok (.ireturn, 1) := by decide +kernel
set_option maxRecDepth 65536 in
set_option maxHeartbeats 40000000 in
theorem c_isl (l : Launch) (Z : State) (a0 : Array Value) (hw : ∀ d ∈ tables_1, d.before a0 Z = true) (n0 : Nat) (h : Heap) (a : Addr) (l0 : Int32) (P1 : Exa Z h a "com/example/nestwire/nestwire/codec/Header") (P2 : Fld Z h a "com/example/nestwire/nestwire/codec/Header" "isList" "Z" (.int l0)) (hl : l0 = 0 ∨ l0 = 1) : MeetsW l Z n0 (⟨"com/example/nestwire/nestwire/codec/Header", "isList", "()Z"⟩ : MethodName) prog_16_method_2_code 1 (some .boolean) ({ frames := 0, cells := 0, slots := 0, locals := 0 } : Room) #[(.ref a)] h (fun v h' => v = some (.int l0) ∧ h = h') := by
  refine MeetsW.intro (plainFor_of_name pn_com_example_nestwire_nestwire_codec_Header) (L0 := #[.val (.ref a)]) (fun m => by first | (simp [entryFrame, mkF, argsToLocals, Value.category]; done) | rfl) ?_
  intro m G K0
  have K : Cx l ({ frames := 0, cells := 0, slots := 0, locals := 0 } : Room) Z n0 _ "com/example/nestwire/nestwire/codec/Header" "isList" prog_16_method_2_code 1 (some .boolean) m G := K0
  refine K.aloadN d11_0 (pc' := 1) rfl rfl rfl ?_
  refine K.getf d11_1 (pc' := 4) rfl (host := "") (Or.inl (hw _ (List.mem_of_getElem? (i := 60) rfl))) Via.refl P2 ?_
  exact K.retz d11_4 (hl) (by decide) (by decide) ⟨rfl, rfl⟩
theorem d13_0 : decode prog_16_method_3_code 0 = .ok (.aload_n 0, 1) := by decide +kernel
theorem d13_1 : decode prog_16_method_3_code 1 = .ok (.getfield 13, 3) := by decide +kernel
theorem d13_4 : decode prog_16_method_3_code 4 = .ok (.ireturn, 1) := by decide +kernel
set_option maxRecDepth 65536 in
set_option maxHeartbeats 40000000 in
theorem c_pst (l : Launch) (Z : State) (a0 : Array Value) (hw : ∀ d ∈ tables_1, d.before a0 Z = true) (n0 : Nat) (h : Heap) (a : Addr) (s0 : Int32) (P1 : Exa Z h a "com/example/nestwire/nestwire/codec/Header") (P2 : Fld Z h a "com/example/nestwire/nestwire/codec/Header" "payloadStart" "I" (.int s0)) : MeetsW l Z n0 (⟨"com/example/nestwire/nestwire/codec/Header", "payloadStart", "()I"⟩ : MethodName) prog_16_method_3_code 1 (some .int) ({ frames := 0, cells := 0, slots := 0, locals := 0 } : Room) #[(.ref a)] h (fun v h' => v = some (.int s0) ∧ h = h') := by
  refine MeetsW.intro (plainFor_of_name pn_com_example_nestwire_nestwire_codec_Header) (L0 := #[.val (.ref a)]) (fun m => by first | (simp [entryFrame, mkF, argsToLocals, Value.category]; done) | rfl) ?_
  intro m G K0
  have K : Cx l ({ frames := 0, cells := 0, slots := 0, locals := 0 } : Room) Z n0 _ "com/example/nestwire/nestwire/codec/Header" "payloadStart" prog_16_method_3_code 1 (some .int) m G := K0
  refine K.aloadN d13_0 (pc' := 1) rfl rfl rfl ?_
  refine K.getf d13_1 (pc' := 4) rfl (host := "") (Or.inl (hw _ (List.mem_of_getElem? (i := 62) rfl))) Via.refl P2 ?_
  exact K.reti d13_4 (by decide) (by decide) ⟨rfl, rfl⟩
theorem d12_0 : decode prog_16_method_5_code 0 = .ok (.aload_n 0, 1) := by decide +kernel
theorem d12_1 : decode prog_16_method_5_code 1 = .ok (.getfield 13, 3) := by decide +kernel
theorem d12_4 : decode prog_16_method_5_code 4 = .ok (.aload_n 0, 1) := by decide +kernel
theorem d12_5 : decode prog_16_method_5_code 5 = .ok (.getfield 17, 3) := by decide +kernel
theorem d12_8 : decode prog_16_method_5_code 8 = .ok (.iadd, 1) := by decide +kernel
theorem d12_9 : decode prog_16_method_5_code 9 = .ok (.ireturn, 1) := by decide +kernel
set_option maxRecDepth 65536 in
set_option maxHeartbeats 40000000 in
theorem c_pen (l : Launch) (Z : State) (a0 : Array Value) (hw : ∀ d ∈ tables_1, d.before a0 Z = true) (n0 : Nat) (h : Heap) (a : Addr) (s0 : Int32) (g0 : Int32) (P1 : Exa Z h a "com/example/nestwire/nestwire/codec/Header") (P2 : Fld Z h a "com/example/nestwire/nestwire/codec/Header" "payloadStart" "I" (.int s0)) (P3 : Fld Z h a "com/example/nestwire/nestwire/codec/Header" "payloadLength" "I" (.int g0)) (hs : 0 ≤ s0.toInt ∧ s0.toInt < 1000 ∧ 0 ≤ g0.toInt ∧ g0.toInt < 1000) : MeetsW l Z n0 (⟨"com/example/nestwire/nestwire/codec/Header", "payloadEnd", "()I"⟩ : MethodName) prog_16_method_5_code 1 (some .int) ({ frames := 0, cells := 0, slots := 0, locals := 0 } : Room) #[(.ref a)] h (fun v h' => ∃ (z : Int32), v = some (.int z) ∧ (z.toInt = s0.toInt + g0.toInt) ∧ h = h') := by
  refine MeetsW.intro (plainFor_of_name pn_com_example_nestwire_nestwire_codec_Header) (L0 := #[.val (.ref a)]) (fun m => by first | (simp [entryFrame, mkF, argsToLocals, Value.category]; done) | rfl) ?_
  intro m G K0
  have K : Cx l ({ frames := 0, cells := 0, slots := 0, locals := 0 } : Room) Z n0 _ "com/example/nestwire/nestwire/codec/Header" "payloadEnd" prog_16_method_5_code 1 (some .int) m G := K0
  refine K.aloadN d12_0 (pc' := 1) rfl rfl rfl ?_
  refine K.getf d12_1 (pc' := 4) rfl (host := "") (Or.inl (hw _ (List.mem_of_getElem? (i := 62) rfl))) Via.refl P2 ?_
  refine K.aloadN d12_4 (pc' := 5) rfl rfl rfl ?_
  refine K.getf d12_5 (pc' := 8) rfl (host := "") (Or.inl (hw _ (List.mem_of_getElem? (i := 72) rfl))) Via.refl P3 ?_
  obtain ⟨z8, e_z8⟩ : ∃ z, s0 + g0 = z := ⟨_, rfl⟩
  have r_z8 : (z8.toInt - (s0.toInt + g0.toInt)) % 4294967296 = 0 := by have q := c_iadd s0 g0; rw [e_z8] at q; exact q
  have g_z8 := rng32 z8
  refine K.iadd d12_8 (pc' := 9) rfl e_z8 ?_
  exact K.reti d12_9 (by decide) (by decide) ⟨z8, rfl, by omega, rfl⟩
theorem d8_0 : decode prog_16_method_7_code 0 = .ok (.aload_n 1, 1) := by decide +kernel
theorem d8_1 : decode prog_16_method_7_code 1 = .ok (.iload_n 2, 1) := by decide +kernel
theorem d8_2 : decode prog_16_method_7_code 2 = .ok (.baload, 1) := by decide +kernel
theorem d8_3 : decode prog_16_method_7_code 3 = .ok (.sipush 255, 3) := by decide +kernel
theorem d8_6 : decode prog_16_method_7_code 6 = .ok (.iand, 1) := by decide +kernel
theorem d8_7 : decode prog_16_method_7_code 7 = .ok (.istore 5, 2) := by decide +kernel
theorem d8_9 : decode prog_16_method_7_code 9 = .ok (.iload 5, 2) := by decide +kernel
theorem d8_11 : decode prog_16_method_7_code 11 = .ok (.sipush 128, 3) := by decide +kernel
theorem d8_14 : decode prog_16_method_7_code 14 = .ok (.if_icmp .ge 15, 3) := by decide +kernel
theorem d8_17 : decode prog_16_method_7_code 17 = .ok (.aload_n 0, 1) := by decide +kernel
theorem d8_18 : decode prog_16_method_7_code 18 = .ok (.iconst 0, 1) := by decide +kernel
theorem d8_19 : decode prog_16_method_7_code 19 = .ok (.putfield 7, 3) := by decide +kernel
theorem d8_22 : decode prog_16_method_7_code 22 = .ok (.aload_n 0, 1) := by decide +kernel
theorem d8_23 : decode prog_16_method_7_code 23 = .ok (.iload_n 2, 1) := by decide +kernel
theorem d8_24 : decode prog_16_method_7_code 24 = .ok (.putfield 13, 3) := by decide +kernel
theorem d8_27 : decode prog_16_method_7_code 27 = .ok (.lconst 1, 1) := by decide +kernel
theorem d8_28 : decode prog_16_method_7_code 28 = .ok (.lreturn, 1) := by decide +kernel
set_option maxRecDepth 65536 in
set_option maxHeartbeats 40000000 in
theorem c_rl0 (l : Launch) (Z : State) (a0 : Array Value) (hw : ∀ d ∈ tables_1, d.before a0 Z = true) (n0 : Nat) (h : Heap) (hd : Addr) (eb : Addr) (p : Int32) (lim : Int32) (nz : Int32) (vs : List Value) (b : Int32) (l0 : Int32) (s0 : Int32) (g0 : Int32) (P1 : Exa Z h hd "com/example/nestwire/nestwire/codec/Header") (P2 : Fld Z h hd "com/example/nestwire/nestwire/codec/Header" "isList" "Z" (.int l0)) (P3 : Fld Z h hd "com/example/nestwire/nestwire/codec/Header" "payloadStart" "I" (.int s0)) (P4 : Fld Z h hd "com/example/nestwire/nestwire/codec/Header" "payloadLength" "I" (.int g0)) (P5 : Ary Z h eb .byte vs) (P6 : n0 ≤ hd) (P7 : eb ≠ hd) (hv : vs[p.toInt.toNat]? = some (.int b)) (hp : 0 ≤ p.toInt ∧ p.toInt < 100) (hb : 0 ≤ b.toInt ∧ b.toInt < 128) : MeetsW l Z n0 (⟨"com/example/nestwire/nestwire/codec/Header", "readLength", "([BIIZ)J"⟩ : MethodName) prog_16_method_7_code 12 (some .long) ({ frames := 0, cells := 0, slots := 0, locals := 0 } : Room) #[(.ref hd), (.ref eb), (.int p), (.int lim), (.int nz)] h (fun v h' => ∃ (z : Int64), v = some (.long z) ∧ (z.toInt = 1) ∧ Keep h h' [hd] ∧ Fld Z h' hd "com/example/nestwire/nestwire/codec/Header" "isList" "Z" (.int (0 : Int32)) ∧ Fld Z h' hd "com/example/nestwire/nestwire/codec/Header" "payloadStart" "I" (.int p) ∧ Fld Z h' hd "com/example/nestwire/nestwire/codec/Header" "payloadLength" "I" (.int g0)) := by
  refine MeetsW.intro (plainFor_of_name pn_com_example_nestwire_nestwire_codec_Header) (L0 := #[.val (.ref hd), .val (.ref eb), .val (.int p), .val (.int lim), .val (.int nz), .unset, .unset, .unset, .unset, .unset, .unset, .unset]) (fun m => by first | (simp [entryFrame, mkF, argsToLocals, Value.category]; done) | rfl) ?_
  intro m G K0
  have K : Cx l ({ frames := 0, cells := 0, slots := 0, locals := 0 } : Room) Z n0 _ "com/example/nestwire/nestwire/codec/Header" "readLength" prog_16_method_7_code 12 (some .long) m G := K0
  refine K.aloadN d8_0 (pc' := 1) rfl rfl rfl ?_
  refine K.iloadN d8_1 (pc' := 2) rfl rfl ?_
  refine K.bald d8_2 (pc' := 3) rfl P5 (i := p.toInt.toNat) (by omega) (v := (.int b)) hv ?_
  refine K.sipush d8_3 (pc' := 6) rfl (z := 255) rfl ?_
  obtain ⟨z6, e_z6⟩ : ∃ z, b &&& (255 : Int32) = z := ⟨_, rfl⟩
  have r_z6 : z6.toInt = b.toInt % 256 := by have q := c_mask b (255 : Int32) 8 (by decide) (by decide); rw [e_z6] at q; exact q
  refine K.iand d8_6 (pc' := 7) rfl e_z6 ?_
  refine K.istore d8_7 (pc' := 9) rfl (L' := #[.val (.ref hd), .val (.ref eb), .val (.int p), .val (.int lim), .val (.int nz), .val (.int z6), .unset, .unset, .unset, .unset, .unset, .unset]) rfl ?_
  refine K.iload d8_9 (pc' := 11) rfl rfl ?_
  refine K.sipush d8_11 (pc' := 14) rfl (z := 128) rfl ?_
  refine K.icmp_ge d8_14 (pc1 := 17) rfl (by decide) (pc2 := 29) (by decide) (a := z6.toInt) (b := 128) rfl rfl (fun c14 => ?_) (fun c14 => ?_)
  · exfalso; omega
  · refine K.aloadN d8_17 (pc' := 18) rfl rfl rfl ?_
    refine K.iconst d8_18 (pc' := 19) rfl (z := 0) rfl ?_
    refine K.putf d8_19 (pc' := 22) rfl (host := "") (Or.inl (hw _ (List.mem_of_getElem? (i := 60) rfl))) Via.refl P2 P1 (Or.inl (hw _ (List.mem_of_getElem? (i := 61) rfl))) (hw _ (List.mem_of_getElem? (i := 12) rfl)) (ty := .boolean) (by decide) rfl rfl P6 (fun h_1 W_2 => ?_)
    have f_3 : Exa Z h_1 hd "com/example/nestwire/nestwire/codec/Header" := P1.wr W_2
    have f_4 : Fld Z h_1 hd "com/example/nestwire/nestwire/codec/Header" "isList" "Z" (.int (0 : Int32)) := P2.same W_2
    have f_5 : Fld Z h_1 hd "com/example/nestwire/nestwire/codec/Header" "payloadStart" "I" (.int s0) := P3.other W_2 (Or.inr (slot_ne (Or.inl (hw _ (List.mem_of_getElem? (i := 63) rfl))) (Or.inl (hw _ (List.mem_of_getElem? (i := 61) rfl))) (by decide) (t := .int) (t' := .boolean) (by decide) (by decide)))
    have f_6 : Fld Z h_1 hd "com/example/nestwire/nestwire/codec/Header" "payloadLength" "I" (.int g0) := P4.other W_2 (Or.inr (slot_ne (Or.inl (hw _ (List.mem_of_getElem? (i := 73) rfl))) (Or.inl (hw _ (List.mem_of_getElem? (i := 61) rfl))) (by decide) (t := .int) (t' := .boolean) (by decide) (by decide)))
    have f_7 : Ary Z h_1 eb .byte vs := P5.other W_2 P7
    have kp_8 : Keep h h_1 [hd] := (Keep.refl h [hd]).wr W_2 (Or.inl (by simp))
    refine K.aloadN d8_22 (pc' := 23) rfl rfl rfl ?_
    refine K.iloadN d8_23 (pc' := 24) rfl rfl ?_
    refine K.putf d8_24 (pc' := 27) rfl (host := "") (Or.inl (hw _ (List.mem_of_getElem? (i := 62) rfl))) Via.refl f_5 f_3 (Or.inl (hw _ (List.mem_of_getElem? (i := 63) rfl))) (hw _ (List.mem_of_getElem? (i := 12) rfl)) (ty := .int) (by decide) rfl rfl P6 (fun h_9 W_10 => ?_)
    have f_11 : Exa Z h_9 hd "com/example/nestwire/nestwire/codec/Header" := f_3.wr W_10
    have f_12 : Fld Z h_9 hd "com/example/nestwire/nestwire/codec/Header" "isList" "Z" (.int (0 : Int32)) := f_4.other W_10 (Or.inr (slot_ne (Or.inl (hw _ (List.mem_of_getElem? (i := 61) rfl))) (Or.inl (hw _ (List.mem_of_getElem? (i := 63) rfl))) (by decide) (t := .boolean) (t' := .int) (by decide) (by decide)))
    have f_13 : Fld Z h_9 hd "com/example/nestwire/nestwire/codec/Header" "payloadStart" "I" (.int p) := f_5.same W_10
    have f_14 : Fld Z h_9 hd "com/example/nestwire/nestwire/codec/Header" "payloadLength" "I" (.int g0) := f_6.other W_10 (Or.inr (slot_ne (Or.inl (hw _ (List.mem_of_getElem? (i := 73) rfl))) (Or.inl (hw _ (List.mem_of_getElem? (i := 63) rfl))) (by decide) (t := .int) (t' := .int) (by decide) (by decide)))
    have f_15 : Ary Z h_9 eb .byte vs := f_7.other W_10 P7
    have kp_16 : Keep h h_9 [hd] := kp_8.wr W_10 (Or.inl (by simp))
    refine K.lconst d8_27 (pc' := 28) rfl (z := 1) rfl ?_
    exact K.retl d8_28 (by decide) (by decide) ⟨(1 : Int64), rfl, by have ev : (1 : Int64).toInt = 1 := rfl; first | omega | (rfl), kp_16, f_12, f_13, f_14⟩
theorem d8_29 : decode prog_16_method_7_code 29 = .ok (.aload_n 0, 1) := by decide +kernel
theorem d8_30 : decode prog_16_method_7_code 30 = .ok (.iload 5, 2) := by decide +kernel
theorem d8_32 : decode prog_16_method_7_code 32 = .ok (.sipush 192, 3) := by decide +kernel
theorem d8_35 : decode prog_16_method_7_code 35 = .ok (.if_icmp .lt 7, 3) := by decide +kernel
theorem d8_42 : decode prog_16_method_7_code 42 = .ok (.iconst 0, 1) := by decide +kernel
theorem d8_43 : decode prog_16_method_7_code 43 = .ok (.putfield 7, 3) := by decide +kernel
theorem d8_46 : decode prog_16_method_7_code 46 = .ok (.iload 5, 2) := by decide +kernel
theorem d8_48 : decode prog_16_method_7_code 48 = .ok (.aload_n 0, 1) := by decide +kernel
theorem d8_49 : decode prog_16_method_7_code 49 = .ok (.getfield 7, 3) := by decide +kernel
theorem d8_52 : decode prog_16_method_7_code 52 = .ok (.ifCond .eq 9, 3) := by decide +kernel
theorem d8_61 : decode prog_16_method_7_code 61 = .ok (.sipush 128, 3) := by decide +kernel
theorem d8_64 : decode prog_16_method_7_code 64 = .ok (.isub, 1) := by decide +kernel
theorem d8_65 : decode prog_16_method_7_code 65 = .ok (.istore 6, 2) := by decide +kernel
theorem d8_67 : decode prog_16_method_7_code 67 = .ok (.iload_n 2, 1) := by decide +kernel
theorem d8_68 : decode prog_16_method_7_code 68 = .ok (.iconst 1, 1) := by decide +kernel
theorem d8_69 : decode prog_16_method_7_code 69 = .ok (.iadd, 1) := by decide +kernel
theorem d8_70 : decode prog_16_method_7_code 70 = .ok (.istore 7, 2) := by decide +kernel
theorem d8_72 : decode prog_16_method_7_code 72 = .ok (.iload 6, 2) := by decide +kernel
theorem d8_74 : decode prog_16_method_7_code 74 = .ok (.i2l, 1) := by decide +kernel
theorem d8_75 : decode prog_16_method_7_code 75 = .ok (.lstore 8, 2) := by decide +kernel
theorem d8_77 : decode prog_16_method_7_code 77 = .ok (.iload 6, 2) := by decide +kernel
theorem d8_79 : decode prog_16_method_7_code 79 = .ok (.bipush 55, 2) := by decide +kernel
theorem d8_81 : decode prog_16_method_7_code 81 = .ok (.if_icmp .le 107, 3) := by decide +kernel
theorem d8_188 : decode prog_16_method_7_code 188 = .ok (.aload_n 0, 1) := by decide +kernel
theorem d8_189 : decode prog_16_method_7_code 189 = .ok (.iload 7, 2) := by decide +kernel
theorem d8_191 : decode prog_16_method_7_code 191 = .ok (.putfield 13, 3) := by decide +kernel
theorem d8_194 : decode prog_16_method_7_code 194 = .ok (.lload 8, 2) := by decide +kernel
theorem d8_196 : decode prog_16_method_7_code 196 = .ok (.lreturn, 1) := by decide +kernel
set_option maxRecDepth 65536 in
set_option maxHeartbeats 40000000 in
theorem c_rl1 (l : Launch) (Z : State) (a0 : Array Value) (hw : ∀ d ∈ tables_1, d.before a0 Z = true) (n0 : Nat) (h : Heap) (hd : Addr) (eb : Addr) (p : Int32) (lim : Int32) (nz : Int32) (vs : List Value) (b : Int32) (l0 : Int32) (s0 : Int32) (g0 : Int32) (P1 : Exa Z h hd "com/example/nestwire/nestwire/codec/Header") (P2 : Fld Z h hd "com/example/nestwire/nestwire/codec/Header" "isList" "Z" (.int l0)) (P3 : Fld Z h hd "com/example/nestwire/nestwire/codec/Header" "payloadStart" "I" (.int s0)) (P4 : Fld Z h hd "com/example/nestwire/nestwire/codec/Header" "payloadLength" "I" (.int g0)) (P5 : Ary Z h eb .byte vs) (P6 : n0 ≤ hd) (P7 : eb ≠ hd) (hv : vs[p.toInt.toNat]? = some (.int b)) (hp : 0 ≤ p.toInt ∧ p.toInt < 100) (hb : b.toInt = -127) : MeetsW l Z n0 (⟨"com/example/nestwire/nestwire/codec/Header", "readLength", "([BIIZ)J"⟩ : MethodName) prog_16_method_7_code 12 (some .long) ({ frames := 0, cells := 0, slots := 0, locals := 0 } : Room) #[(.ref hd), (.ref eb), (.int p), (.int lim), (.int nz)] h (fun v h' => ∃ (z : Int64) (ps : Int32), v = some (.long z) ∧ (z.toInt = 1 ∧ ps.toInt = p.toInt + 1) ∧ Keep h h' [hd] ∧ Fld Z h' hd "com/example/nestwire/nestwire/codec/Header" "isList" "Z" (.int (0 : Int32)) ∧ Fld Z h' hd "com/example/nestwire/nestwire/codec/Header" "payloadStart" "I" (.int ps) ∧ Fld Z h' hd "com/example/nestwire/nestwire/codec/Header" "payloadLength" "I" (.int g0)) := by
  refine MeetsW.intro (plainFor_of_name pn_com_example_nestwire_nestwire_codec_Header) (L0 := #[.val (.ref hd), .val (.ref eb), .val (.int p), .val (.int lim), .val (.int nz), .unset, .unset, .unset, .unset, .unset, .unset, .unset]) (fun m => by first | (simp [entryFrame, mkF, argsToLocals, Value.category]; done) | rfl) ?_
  intro m G K0
  have K : Cx l ({ frames := 0, cells := 0, slots := 0, locals := 0 } : Room) Z n0 _ "com/example/nestwire/nestwire/codec/Header" "readLength" prog_16_method_7_code 12 (some .long) m G := K0
  refine K.aloadN d8_0 (pc' := 1) rfl rfl rfl ?_
  refine K.iloadN d8_1 (pc' := 2) rfl rfl ?_
  refine K.bald d8_2 (pc' := 3) rfl P5 (i := p.toInt.toNat) (by omega) (v := (.int b)) hv ?_
  refine K.sipush d8_3 (pc' := 6) rfl (z := 255) rfl ?_
  obtain ⟨z6, e_z6⟩ : ∃ z, b &&& (255 : Int32) = z := ⟨_, rfl⟩
  have r_z6 : z6.toInt = b.toInt % 256 := by have q := c_mask b (255 : Int32) 8 (by decide) (by decide); rw [e_z6] at q; exact q
  refine K.iand d8_6 (pc' := 7) rfl e_z6 ?_
  refine K.istore d8_7 (pc' := 9) rfl (L' := #[.val (.ref hd), .val (.ref eb), .val (.int p), .val (.int lim), .val (.int nz), .val (.int z6), .unset, .unset, .unset, .unset, .unset, .unset]) rfl ?_
  refine K.iload d8_9 (pc' := 11) rfl rfl ?_
  refine K.sipush d8_11 (pc' := 14) rfl (z := 128) rfl ?_
  refine K.icmp_ge d8_14 (pc1 := 17) rfl (by decide) (pc2 := 29) (by decide) (a := z6.toInt) (b := 128) rfl rfl (fun c14 => ?_) (fun c14 => ?_)
  · refine K.aloadN d8_29 (pc' := 30) rfl rfl rfl ?_
    refine K.iload d8_30 (pc' := 32) rfl rfl ?_
    refine K.sipush d8_32 (pc' := 35) rfl (z := 192) rfl ?_
    refine K.icmp_lt d8_35 (pc1 := 38) rfl (by decide) (pc2 := 42) (by decide) (a := z6.toInt) (b := 192) rfl rfl (fun c35 => ?_) (fun c35 => ?_)
    · refine K.iconst d8_42 (pc' := 43) rfl (z := 0) rfl ?_
      refine K.putf d8_43 (pc' := 46) rfl (host := "") (Or.inl (hw _ (List.mem_of_getElem? (i := 60) rfl))) Via.refl P2 P1 (Or.inl (hw _ (List.mem_of_getElem? (i := 61) rfl))) (hw _ (List.mem_of_getElem? (i := 12) rfl)) (ty := .boolean) (by decide) rfl rfl P6 (fun h_1 W_2 => ?_)
      have f_3 : Exa Z h_1 hd "com/example/nestwire/nestwire/codec/Header" := P1.wr W_2
      have f_4 : Fld Z h_1 hd "com/example/nestwire/nestwire/codec/Header" "isList" "Z" (.int (0 : Int32)) := P2.same W_2
      have f_5 : Fld Z h_1 hd "com/example/nestwire/nestwire/codec/Header" "payloadStart" "I" (.int s0) := P3.other W_2 (Or.inr (slot_ne (Or.inl (hw _ (List.mem_of_getElem? (i := 63) rfl))) (Or.inl (hw _ (List.mem_of_getElem? (i := 61) rfl))) (by decide) (t := .int) (t' := .boolean) (by decide) (by decide)))
      have f_6 : Fld Z h_1 hd "com/example/nestwire/nestwire/codec/Header" "payloadLength" "I" (.int g0) := P4.other W_2 (Or.inr (slot_ne (Or.inl (hw _ (List.mem_of_getElem? (i := 73) rfl))) (Or.inl (hw _ (List.mem_of_getElem? (i := 61) rfl))) (by decide) (t := .int) (t' := .boolean) (by decide) (by decide)))
      have f_7 : Ary Z h_1 eb .byte vs := P5.other W_2 P7
      have kp_8 : Keep h h_1 [hd] := (Keep.refl h [hd]).wr W_2 (Or.inl (by simp))
      refine K.iload d8_46 (pc' := 48) rfl rfl ?_
      refine K.aloadN d8_48 (pc' := 49) rfl rfl rfl ?_
      refine K.getf d8_49 (pc' := 52) rfl (host := "") (Or.inl (hw _ (List.mem_of_getElem? (i := 60) rfl))) Via.refl f_4 ?_
      refine K.if_eq d8_52 (pc1 := 55) rfl (by decide) (pc2 := 61) (by decide) (a := 0) rfl (fun c52 => ?_) (fun c52 => ?_)
      · refine K.sipush d8_61 (pc' := 64) rfl (z := 128) rfl ?_
        obtain ⟨z64, e_z64⟩ : ∃ z, z6 - (128 : Int32) = z := ⟨_, rfl⟩
        have r_z64 : (z64.toInt - (z6.toInt - 128)) % 4294967296 = 0 := by have q := c_isub z6 (128 : Int32); rw [e_z64] at q; exact q
        have g_z64 := rng32 z64
        have t_z64 : z64.toInt = z6.toInt - 128 := by omega
        clear r_z64
        clear g_z64
        refine K.isub d8_64 (pc' := 65) rfl e_z64 ?_
        refine K.istore d8_65 (pc' := 67) rfl (L' := #[.val (.ref hd), .val (.ref eb), .val (.int p), .val (.int lim), .val (.int nz), .val (.int z6), .val (.int z64), .unset, .unset, .unset, .unset, .unset]) rfl ?_
        refine K.iloadN d8_67 (pc' := 68) rfl rfl ?_
        refine K.iconst d8_68 (pc' := 69) rfl (z := 1) rfl ?_
        obtain ⟨z69, e_z69⟩ : ∃ z, p + (1 : Int32) = z := ⟨_, rfl⟩
        have r_z69 : (z69.toInt - (p.toInt + 1)) % 4294967296 = 0 := by have q := c_iadd p (1 : Int32); rw [e_z69] at q; exact q
        have g_z69 := rng32 z69
        have t_z69 : z69.toInt = p.toInt + 1 := by omega
        clear r_z69
        clear g_z69
        refine K.iadd d8_69 (pc' := 70) rfl e_z69 ?_
        refine K.istore d8_70 (pc' := 72) rfl (L' := #[.val (.ref hd), .val (.ref eb), .val (.int p), .val (.int lim), .val (.int nz), .val (.int z6), .val (.int z64), .val (.int z69), .unset, .unset, .unset, .unset]) rfl ?_
        refine K.iload d8_72 (pc' := 74) rfl rfl ?_
        obtain ⟨z74, e_z74⟩ : ∃ z, z64.toInt64 = z := ⟨_, rfl⟩
        have r_z74 : z74.toInt = z64.toInt := by have q := c_i2l z64; rw [e_z74] at q; exact q
        refine K.i2l d8_74 (pc' := 75) rfl e_z74 ?_
        refine K.lstore d8_75 (pc' := 77) rfl (L' := #[.val (.ref hd), .val (.ref eb), .val (.int p), .val (.int lim), .val (.int nz), .val (.int z6), .val (.int z64), .val (.int z69), .val (.long z74), .second, .unset, .unset]) rfl ?_
        refine K.iload d8_77 (pc' := 79) rfl rfl ?_
        refine K.bipush d8_79 (pc' := 81) rfl (z := 55) rfl ?_
        refine K.icmp_le d8_81 (pc1 := 84) rfl (by decide) (pc2 := 188) (by decide) (a := z64.toInt) (b := 55) rfl rfl (fun c81 => ?_) (fun c81 => ?_)
        · refine K.aloadN d8_188 (pc' := 189) rfl rfl rfl ?_
          refine K.iload d8_189 (pc' := 191) rfl rfl ?_
          refine K.putf d8_191 (pc' := 194) rfl (host := "") (Or.inl (hw _ (List.mem_of_getElem? (i := 62) rfl))) Via.refl f_5 f_3 (Or.inl (hw _ (List.mem_of_getElem? (i := 63) rfl))) (hw _ (List.mem_of_getElem? (i := 12) rfl)) (ty := .int) (by decide) rfl rfl P6 (fun h_9 W_10 => ?_)
          have f_11 : Exa Z h_9 hd "com/example/nestwire/nestwire/codec/Header" := f_3.wr W_10
          have f_12 : Fld Z h_9 hd "com/example/nestwire/nestwire/codec/Header" "isList" "Z" (.int (0 : Int32)) := f_4.other W_10 (Or.inr (slot_ne (Or.inl (hw _ (List.mem_of_getElem? (i := 61) rfl))) (Or.inl (hw _ (List.mem_of_getElem? (i := 63) rfl))) (by decide) (t := .boolean) (t' := .int) (by decide) (by decide)))
          have f_13 : Fld Z h_9 hd "com/example/nestwire/nestwire/codec/Header" "payloadStart" "I" (.int z69) := f_5.same W_10
          have f_14 : Fld Z h_9 hd "com/example/nestwire/nestwire/codec/Header" "payloadLength" "I" (.int g0) := f_6.other W_10 (Or.inr (slot_ne (Or.inl (hw _ (List.mem_of_getElem? (i := 73) rfl))) (Or.inl (hw _ (List.mem_of_getElem? (i := 63) rfl))) (by decide) (t := .int) (t' := .int) (by decide) (by decide)))
          have f_15 : Ary Z h_9 eb .byte vs := f_7.other W_10 P7
          have kp_16 : Keep h h_9 [hd] := kp_8.wr W_10 (Or.inl (by simp))
          refine K.lload d8_194 (pc' := 196) rfl rfl ?_
          exact K.retl d8_196 (by decide) (by decide) ⟨z74, z69, rfl, by omega, kp_16, f_12, f_13, f_14⟩
        · exfalso; omega
      · exfalso; omega
    · exfalso; omega
  · exfalso; omega
theorem d8_38 : decode prog_16_method_7_code 38 = .ok (.iconst 1, 1) := by decide +kernel
theorem d8_39 : decode prog_16_method_7_code 39 = .ok (.goto 4, 3) := by decide +kernel
theorem d8_55 : decode prog_16_method_7_code 55 = .ok (.sipush 192, 3) := by decide +kernel
theorem d8_58 : decode prog_16_method_7_code 58 = .ok (.goto 6, 3) := by decide +kernel
set_option maxRecDepth 65536 in
set_option maxHeartbeats 40000000 in
theorem c_rl2 (l : Launch) (Z : State) (a0 : Array Value) (hw : ∀ d ∈ tables_1, d.before a0 Z = true) (n0 : Nat) (h : Heap) (hd : Addr) (eb : Addr) (p : Int32) (lim : Int32) (nz : Int32) (vs : List Value) (b : Int32) (l0 : Int32) (s0 : Int32) (g0 : Int32) (P1 : Exa Z h hd "com/example/nestwire/nestwire/codec/Header") (P2 : Fld Z h hd "com/example/nestwire/nestwire/codec/Header" "isList" "Z" (.int l0)) (P3 : Fld Z h hd "com/example/nestwire/nestwire/codec/Header" "payloadStart" "I" (.int s0)) (P4 : Fld Z h hd "com/example/nestwire/nestwire/codec/Header" "payloadLength" "I" (.int g0)) (P5 : Ary Z h eb .byte vs) (P6 : n0 ≤ hd) (P7 : eb ≠ hd) (hv : vs[p.toInt.toNat]? = some (.int b)) (hp : 0 ≤ p.toInt ∧ p.toInt < 100) (hb : -64 ≤ b.toInt ∧ b.toInt ≤ -9) : MeetsW l Z n0 (⟨"com/example/nestwire/nestwire/codec/Header", "readLength", "([BIIZ)J"⟩ : MethodName) prog_16_method_7_code 12 (some .long) ({ frames := 0, cells := 0, slots := 0, locals := 0 } : Room) #[(.ref hd), (.ref eb), (.int p), (.int lim), (.int nz)] h (fun v h' => ∃ (z : Int64) (ps : Int32), v = some (.long z) ∧ (z.toInt = b.toInt + 64 ∧ ps.toInt = p.toInt + 1) ∧ Keep h h' [hd] ∧ Fld Z h' hd "com/example/nestwire/nestwire/codec/Header" "isList" "Z" (.int (1 : Int32)) ∧ Fld Z h' hd "com/example/nestwire/nestwire/codec/Header" "payloadStart" "I" (.int ps) ∧ Fld Z h' hd "com/example/nestwire/nestwire/codec/Header" "payloadLength" "I" (.int g0)) := by
  refine MeetsW.intro (plainFor_of_name pn_com_example_nestwire_nestwire_codec_Header) (L0 := #[.val (.ref hd), .val (.ref eb), .val (.int p), .val (.int lim), .val (.int nz), .unset, .unset, .unset, .unset, .unset, .unset, .unset]) (fun m => by first | (simp [entryFrame, mkF, argsToLocals, Value.category]; done) | rfl) ?_
  intro m G K0
  have K : Cx l ({ frames := 0, cells := 0, slots := 0, locals := 0 } : Room) Z n0 _ "com/example/nestwire/nestwire/codec/Header" "readLength" prog_16_method_7_code 12 (some .long) m G := K0
  refine K.aloadN d8_0 (pc' := 1) rfl rfl rfl ?_
  refine K.iloadN d8_1 (pc' := 2) rfl rfl ?_
  refine K.bald d8_2 (pc' := 3) rfl P5 (i := p.toInt.toNat) (by omega) (v := (.int b)) hv ?_
  refine K.sipush d8_3 (pc' := 6) rfl (z := 255) rfl ?_
  obtain ⟨z6, e_z6⟩ : ∃ z, b &&& (255 : Int32) = z := ⟨_, rfl⟩
  have r_z6 : z6.toInt = b.toInt % 256 := by have q := c_mask b (255 : Int32) 8 (by decide) (by decide); rw [e_z6] at q; exact q
  refine K.iand d8_6 (pc' := 7) rfl e_z6 ?_
  refine K.istore d8_7 (pc' := 9) rfl (L' := #[.val (.ref hd), .val (.ref eb), .val (.int p), .val (.int lim), .val (.int nz), .val (.int z6), .unset, .unset, .unset, .unset, .unset, .unset]) rfl ?_
  refine K.iload d8_9 (pc' := 11) rfl rfl ?_
  refine K.sipush d8_11 (pc' := 14) rfl (z := 128) rfl ?_
  refine K.icmp_ge d8_14 (pc1 := 17) rfl (by decide) (pc2 := 29) (by decide) (a := z6.toInt) (b := 128) rfl rfl (fun c14 => ?_) (fun c14 => ?_)
  · refine K.aloadN d8_29 (pc' := 30) rfl rfl rfl ?_
    refine K.iload d8_30 (pc' := 32) rfl rfl ?_
    refine K.sipush d8_32 (pc' := 35) rfl (z := 192) rfl ?_
    refine K.icmp_lt d8_35 (pc1 := 38) rfl (by decide) (pc2 := 42) (by decide) (a := z6.toInt) (b := 192) rfl rfl (fun c35 => ?_) (fun c35 => ?_)
    · exfalso; omega
    · refine K.iconst d8_38 (pc' := 39) rfl (z := 1) rfl ?_
      refine K.goto d8_39 (by decide) (pc' := 43) (by decide) ?_
      refine K.putf d8_43 (pc' := 46) rfl (host := "") (Or.inl (hw _ (List.mem_of_getElem? (i := 60) rfl))) Via.refl P2 P1 (Or.inl (hw _ (List.mem_of_getElem? (i := 61) rfl))) (hw _ (List.mem_of_getElem? (i := 12) rfl)) (ty := .boolean) (by decide) rfl rfl P6 (fun h_1 W_2 => ?_)
      have f_3 : Exa Z h_1 hd "com/example/nestwire/nestwire/codec/Header" := P1.wr W_2
      have f_4 : Fld Z h_1 hd "com/example/nestwire/nestwire/codec/Header" "isList" "Z" (.int (1 : Int32)) := P2.same W_2
      have f_5 : Fld Z h_1 hd "com/example/nestwire/nestwire/codec/Header" "payloadStart" "I" (.int s0) := P3.other W_2 (Or.inr (slot_ne (Or.inl (hw _ (List.mem_of_getElem? (i := 63) rfl))) (Or.inl (hw _ (List.mem_of_getElem? (i := 61) rfl))) (by decide) (t := .int) (t' := .boolean) (by decide) (by decide)))
      have f_6 : Fld Z h_1 hd "com/example/nestwire/nestwire/codec/Header" "payloadLength" "I" (.int g0) := P4.other W_2 (Or.inr (slot_ne (Or.inl (hw _ (List.mem_of_getElem? (i := 73) rfl))) (Or.inl (hw _ (List.mem_of_getElem? (i := 61) rfl))) (by decide) (t := .int) (t' := .boolean) (by decide) (by decide)))
      have f_7 : Ary Z h_1 eb .byte vs := P5.other W_2 P7
      have kp_8 : Keep h h_1 [hd] := (Keep.refl h [hd]).wr W_2 (Or.inl (by simp))
      refine K.iload d8_46 (pc' := 48) rfl rfl ?_
      refine K.aloadN d8_48 (pc' := 49) rfl rfl rfl ?_
      refine K.getf d8_49 (pc' := 52) rfl (host := "") (Or.inl (hw _ (List.mem_of_getElem? (i := 60) rfl))) Via.refl f_4 ?_
      refine K.if_eq d8_52 (pc1 := 55) rfl (by decide) (pc2 := 61) (by decide) (a := 1) rfl (fun c52 => ?_) (fun c52 => ?_)
      · exfalso; omega
      · refine K.sipush d8_55 (pc' := 58) rfl (z := 192) rfl ?_
        refine K.goto d8_58 (by decide) (pc' := 64) (by decide) ?_
        obtain ⟨z64, e_z64⟩ : ∃ z, z6 - (192 : Int32) = z := ⟨_, rfl⟩
        have r_z64 : (z64.toInt - (z6.toInt - 192)) % 4294967296 = 0 := by have q := c_isub z6 (192 : Int32); rw [e_z64] at q; exact q
        have g_z64 := rng32 z64
        have t_z64 : z64.toInt = z6.toInt - 192 := by omega
        clear r_z64
        clear g_z64
        refine K.isub d8_64 (pc' := 65) rfl e_z64 ?_
        refine K.istore d8_65 (pc' := 67) rfl (L' := #[.val (.ref hd), .val (.ref eb), .val (.int p), .val (.int lim), .val (.int nz), .val (.int z6), .val (.int z64), .unset, .unset, .unset, .unset, .unset]) rfl ?_
        refine K.iloadN d8_67 (pc' := 68) rfl rfl ?_
        refine K.iconst d8_68 (pc' := 69) rfl (z := 1) rfl ?_
        obtain ⟨z69, e_z69⟩ : ∃ z, p + (1 : Int32) = z := ⟨_, rfl⟩
        have r_z69 : (z69.toInt - (p.toInt + 1)) % 4294967296 = 0 := by have q := c_iadd p (1 : Int32); rw [e_z69] at q; exact q
        have g_z69 := rng32 z69
        have t_z69 : z69.toInt = p.toInt + 1 := by omega
        clear r_z69
        clear g_z69
        refine K.iadd d8_69 (pc' := 70) rfl e_z69 ?_
        refine K.istore d8_70 (pc' := 72) rfl (L' := #[.val (.ref hd), .val (.ref eb), .val (.int p), .val (.int lim), .val (.int nz), .val (.int z6), .val (.int z64), .val (.int z69), .unset, .unset, .unset, .unset]) rfl ?_
        refine K.iload d8_72 (pc' := 74) rfl rfl ?_
        obtain ⟨z74, e_z74⟩ : ∃ z, z64.toInt64 = z := ⟨_, rfl⟩
        have r_z74 : z74.toInt = z64.toInt := by have q := c_i2l z64; rw [e_z74] at q; exact q
        refine K.i2l d8_74 (pc' := 75) rfl e_z74 ?_
        refine K.lstore d8_75 (pc' := 77) rfl (L' := #[.val (.ref hd), .val (.ref eb), .val (.int p), .val (.int lim), .val (.int nz), .val (.int z6), .val (.int z64), .val (.int z69), .val (.long z74), .second, .unset, .unset]) rfl ?_
        refine K.iload d8_77 (pc' := 79) rfl rfl ?_
        refine K.bipush d8_79 (pc' := 81) rfl (z := 55) rfl ?_
        refine K.icmp_le d8_81 (pc1 := 84) rfl (by decide) (pc2 := 188) (by decide) (a := z64.toInt) (b := 55) rfl rfl (fun c81 => ?_) (fun c81 => ?_)
        · refine K.aloadN d8_188 (pc' := 189) rfl rfl rfl ?_
          refine K.iload d8_189 (pc' := 191) rfl rfl ?_
          refine K.putf d8_191 (pc' := 194) rfl (host := "") (Or.inl (hw _ (List.mem_of_getElem? (i := 62) rfl))) Via.refl f_5 f_3 (Or.inl (hw _ (List.mem_of_getElem? (i := 63) rfl))) (hw _ (List.mem_of_getElem? (i := 12) rfl)) (ty := .int) (by decide) rfl rfl P6 (fun h_9 W_10 => ?_)
          have f_11 : Exa Z h_9 hd "com/example/nestwire/nestwire/codec/Header" := f_3.wr W_10
          have f_12 : Fld Z h_9 hd "com/example/nestwire/nestwire/codec/Header" "isList" "Z" (.int (1 : Int32)) := f_4.other W_10 (Or.inr (slot_ne (Or.inl (hw _ (List.mem_of_getElem? (i := 61) rfl))) (Or.inl (hw _ (List.mem_of_getElem? (i := 63) rfl))) (by decide) (t := .boolean) (t' := .int) (by decide) (by decide)))
          have f_13 : Fld Z h_9 hd "com/example/nestwire/nestwire/codec/Header" "payloadStart" "I" (.int z69) := f_5.same W_10
          have f_14 : Fld Z h_9 hd "com/example/nestwire/nestwire/codec/Header" "payloadLength" "I" (.int g0) := f_6.other W_10 (Or.inr (slot_ne (Or.inl (hw _ (List.mem_of_getElem? (i := 73) rfl))) (Or.inl (hw _ (List.mem_of_getElem? (i := 63) rfl))) (by decide) (t := .int) (t' := .int) (by decide) (by decide)))
          have f_15 : Ary Z h_9 eb .byte vs := f_7.other W_10 P7
          have kp_16 : Keep h h_9 [hd] := kp_8.wr W_10 (Or.inl (by simp))
          refine K.lload d8_194 (pc' := 196) rfl rfl ?_
          exact K.retl d8_196 (by decide) (by decide) ⟨z74, z69, rfl, by omega, kp_16, f_12, f_13, f_14⟩
        · exfalso; omega
  · exfalso; omega
theorem d7_0 : decode prog_16_method_6_code 0 = .ok (.aload_n 0, 1) := by decide +kernel
theorem d7_1 : decode prog_16_method_6_code 1 = .ok (.aload_n 1, 1) := by decide +kernel
theorem d7_2 : decode prog_16_method_6_code 2 = .ok (.iload_n 2, 1) := by decide +kernel
theorem d7_3 : decode prog_16_method_6_code 3 = .ok (.iload_n 3, 1) := by decide +kernel
theorem d7_4 : decode prog_16_method_6_code 4 = .ok (.iload 4, 2) := by decide +kernel
theorem d7_6 : decode prog_16_method_6_code 6 = .ok (.invokevirtual 20, 3) := by decide +kernel
theorem pd_1 : parseMethodDescriptor "([BIIZ)J" = some ⟨[(.array .byte), .int, .int, .boolean], some .long⟩ := by decide +kernel
theorem d7_9 : decode prog_16_method_6_code 9 = .ok (.lstore 5, 2) := by decide +kernel
theorem d7_11 : decode prog_16_method_6_code 11 = .ok (.lload 5, 2) := by decide +kernel
theorem d7_13 : decode prog_16_method_6_code 13 = .ok (.iload_n 3, 1) := by decide +kernel
theorem d7_14 : decode prog_16_method_6_code 14 = .ok (.aload_n 0, 1) := by decide +kernel
theorem d7_15 : decode prog_16_method_6_code 15 = .ok (.getfield 13, 3) := by decide +kernel
theorem d7_18 : decode prog_16_method_6_code 18 = .ok (.isub, 1) := by decide +kernel
theorem d7_19 : decode prog_16_method_6_code 19 = .ok (.i2l, 1) := by decide +kernel
theorem d7_20 : decode prog_16_method_6_code 20 = .ok (.invokestatic 24, 3) := by decide +kernel
theorem d7_23 : decode prog_16_method_6_code 23 = .ok (.ifCond .le 16, 3) := by decide +kernel
theorem d7_39 : decode prog_16_method_6_code 39 = .ok (.aload_n 1, 1) := by decide +kernel
theorem d7_40 : decode prog_16_method_6_code 40 = .ok (.iload_n 2, 1) := by decide +kernel
theorem d7_41 : decode prog_16_method_6_code 41 = .ok (.baload, 1) := by decide +kernel
theorem d7_42 : decode prog_16_method_6_code 42 = .ok (.sipush 255, 3) := by decide +kernel
theorem d7_45 : decode prog_16_method_6_code 45 = .ok (.iand, 1) := by decide +kernel
theorem d7_46 : decode prog_16_method_6_code 46 = .ok (.sipush 129, 3) := by decide +kernel
theorem d7_49 : decode prog_16_method_6_code 49 = .ok (.if_icmp .ne 33, 3) := by decide +kernel
theorem d7_82 : decode prog_16_method_6_code 82 = .ok (.aload_n 0, 1) := by decide +kernel
theorem d7_83 : decode prog_16_method_6_code 83 = .ok (.lload 5, 2) := by decide +kernel
theorem d7_85 : decode prog_16_method_6_code 85 = .ok (.l2i, 1) := by decide +kernel
theorem d7_86 : decode prog_16_method_6_code 86 = .ok (.putfield 17, 3) := by decide +kernel
theorem d7_89 : decode prog_16_method_6_code 89 = .ok (.return_, 1) := by decide +kernel
set_option maxRecDepth 65536 in
set_option maxHeartbeats 40000000 in
theorem c_rd0 (l : Launch) (Z : State) (a0 : Array Value) (hw : ∀ d ∈ tables_1, d.before a0 Z = true) (n0 : Nat) (h : Heap) (hd : Addr) (eb : Addr) (p : Int32) (lim : Int32) (nz : Int32) (vs : List Value) (b : Int32) (l0 : Int32) (s0 : Int32) (g0 : Int32) (P1 : Exa Z h hd "com/example/nestwire/nestwire/codec/Header") (P2 : Fld Z h hd "com/example/nestwire/nestwire/codec/Header" "isList" "Z" (.int l0)) (P3 : Fld Z h hd "com/example/nestwire/nestwire/codec/Header" "payloadStart" "I" (.int s0)) (P4 : Fld Z h hd "com/example/nestwire/nestwire/codec/Header" "payloadLength" "I" (.int g0)) (P5 : Ary Z h eb .byte vs) (P6 : n0 ≤ hd) (P7 : eb ≠ hd) (hv : vs[p.toInt.toNat]? = some (.int b)) (hp : 0 ≤ p.toInt ∧ p.toInt < 100) (hb : 0 ≤ b.toInt ∧ b.toInt < 128) (hlim : lim.toInt < 200 ∧ p.toInt + 1 ≤ lim.toInt) : MeetsW l Z n0 (⟨"com/example/nestwire/nestwire/codec/Header", "read", "([BIIZ)V"⟩ : MethodName) prog_16_method_6_code 7 none ({ frames := 2, cells := 0, slots := 0, locals := 30 } : Room) #[(.ref hd), (.ref eb), (.int p), (.int lim), (.int nz)] h (fun v h' => ∃ (pl : Int32), v = none ∧ Keep h h' [hd] ∧ (pl.toInt = 1) ∧ Fld Z h' hd "com/example/nestwire/nestwire/codec/Header" "isList" "Z" (.int (0 : Int32)) ∧ Fld Z h' hd "com/example/nestwire/nestwire/codec/Header" "payloadStart" "I" (.int p) ∧ Fld Z h' hd "com/example/nestwire/nestwire/codec/Header" "payloadLength" "I" (.int pl)) := by
  refine MeetsW.intro (plainFor_of_name pn_com_example_nestwire_nestwire_codec_Header) (L0 := #[.val (.ref hd), .val (.ref eb), .val (.int p), .val (.int lim), .val (.int nz), .unset, .unset]) (fun m => by first | (simp [entryFrame, mkF, argsToLocals, Value.category]; done) | rfl) ?_
  intro m G K0
  have K : Cx l ({ frames := 2, cells := 0, slots := 0, locals := 30 } : Room) Z n0 _ "com/example/nestwire/nestwire/codec/Header" "read" prog_16_method_6_code 7 none m G := K0
  refine K.aloadN d7_0 (pc' := 1) rfl rfl rfl ?_
  refine K.aloadN d7_1 (pc' := 2) rfl rfl rfl ?_
  refine K.iloadN d7_2 (pc' := 3) rfl rfl ?_
  refine K.iloadN d7_3 (pc' := 4) rfl rfl ?_
  refine K.iload d7_4 (pc' := 6) rfl rfl ?_
  refine K.callv (z := (⟨"com/example/nestwire/nestwire/codec/Header", "readLength", "([BIIZ)J"⟩ : MethodName)) (argsL := [(.ref eb), (.int p), (.int lim), (.int nz)]) (rest := []) d7_6 (pc' := 9) rfl (c_rl0 l Z a0 hw n0 h (hd := hd) (eb := eb) (p := p) (lim := lim) (nz := nz) (vs := vs) (b := b) (l0 := l0) (s0 := s0) (g0 := g0) P1 P2 P3 P4 P5 P6 P7 hv hp hb) P1 (hw _ (List.mem_of_getElem? (i := 55) rfl)) (hw _ (List.mem_of_getElem? (i := 56) rfl)) (nf_sel (hw _ (List.mem_of_getElem? (i := 58) rfl)) rfl) (hw _ (List.mem_of_getElem? (i := 58) rfl)) (hw _ (List.mem_of_getElem? (i := 57) rfl)) (hw _ (List.mem_of_getElem? (i := 13) rfl)) (hw _ (List.mem_of_getElem? (i := 59) rfl)) (by decide) pd_1 rfl rfl (W := 0) (by simp [Value.category]) (by decide) (by decide) (by decide) (by decide) (fun v_3 h_1 q_2 => ?_)
  obtain ⟨ln, rfl, t_ln, K_4, f_5, f_6, f_7⟩ := q_2
  have f_8 : Exa Z h_1 hd "com/example/nestwire/nestwire/codec/Header" := P1.keep K_4
  have f_12 : Ary Z h_1 eb .byte vs := P5.keep K_4 (ninS P7 nin0)
  have kp_13 : Keep h h_1 [hd] := (Keep.refl h [hd]).trans K_4 (allS (Or.inl (by simp)) all0)
  show G h_1 0 0 (mkF m 9 #[.val (.ref hd), .val (.ref eb), .val (.int p), .val (.int lim), .val (.int nz), .unset, .unset] [(.long ln)])
  refine K.lstore d7_9 (pc' := 11) rfl (L' := #[.val (.ref hd), .val (.ref eb), .val (.int p), .val (.int lim), .val (.int nz), .val (.long ln), .second]) rfl ?_
  refine K.lload d7_11 (pc' := 13) rfl rfl ?_
  refine K.iloadN d7_13 (pc' := 14) rfl rfl ?_
  refine K.aloadN d7_14 (pc' := 15) rfl rfl rfl ?_
  refine K.getf d7_15 (pc' := 18) rfl (host := "") (Or.inl (hw _ (List.mem_of_getElem? (i := 62) rfl))) Via.refl f_6 ?_
  obtain ⟨z18, e_z18⟩ : ∃ z, lim - p = z := ⟨_, rfl⟩
  have r_z18 : (z18.toInt - (lim.toInt - p.toInt)) % 4294967296 = 0 := by have q := c_isub lim p; rw [e_z18] at q; exact q
  have g_z18 := rng32 z18
  have t_z18 : z18.toInt = lim.toInt - p.toInt := by omega
  clear r_z18
  clear g_z18
  refine K.isub d7_18 (pc' := 19) rfl e_z18 ?_
  obtain ⟨z19, e_z19⟩ : ∃ z, z18.toInt64 = z := ⟨_, rfl⟩
  have r_z19 : z19.toInt = z18.toInt := by have q := c_i2l z18; rw [e_z19] at q; exact q
  refine K.i2l d7_19 (pc' := 20) rfl e_z19 ?_
  refine K.calls (argsL := [(.long ln), (.long z19)]) (rest := []) d7_20 (pc' := 23) rfl (c_cu l Z a0 hw n0 h_1 (q1 := ln) (q2 := z19) ) (hw _ (List.mem_of_getElem? (i := 64) rfl)) (hw _ (List.mem_of_getElem? (i := 65) rfl)) (hw _ (List.mem_of_getElem? (i := 66) rfl)) (hw _ (List.mem_of_getElem? (i := 67) rfl)) (by decide) pd_0 rfl rfl (W := 0) (by simp [Value.category]) (by decide) (by decide) (by decide) (by decide) (fun v_16 h_14 q_15 => ?_)
  obtain ⟨cu, rfl, t_cu, rfl⟩ := q_15
  show G h_1 0 0 (mkF m 23 #[.val (.ref hd), .val (.ref eb), .val (.int p), .val (.int lim), .val (.int nz), .val (.long ln), .second] [(.int cu)])
  refine K.if_le d7_23 (pc1 := 26) rfl (by decide) (pc2 := 39) (by decide) (a := cu.toInt) rfl (fun c23 => ?_) (fun c23 => ?_)
  · refine K.aloadN d7_39 (pc' := 40) rfl rfl rfl ?_
    refine K.iloadN d7_40 (pc' := 41) rfl rfl ?_
    refine K.bald d7_41 (pc' := 42) rfl f_12 (i := p.toInt.toNat) (by omega) (v := (.int b)) hv ?_
    refine K.sipush d7_42 (pc' := 45) rfl (z := 255) rfl ?_
    obtain ⟨z45, e_z45⟩ : ∃ z, b &&& (255 : Int32) = z := ⟨_, rfl⟩
    have r_z45 : z45.toInt = b.toInt % 256 := by have q := c_mask b (255 : Int32) 8 (by decide) (by decide); rw [e_z45] at q; exact q
    refine K.iand d7_45 (pc' := 46) rfl e_z45 ?_
    refine K.sipush d7_46 (pc' := 49) rfl (z := 129) rfl ?_
    refine K.icmp_ne d7_49 (pc1 := 52) rfl (by decide) (pc2 := 82) (by decide) (a := z45.toInt) (b := 129) rfl rfl (fun c49 => ?_) (fun c49 => ?_)
    · refine K.aloadN d7_82 (pc' := 83) rfl rfl rfl ?_
      refine K.lload d7_83 (pc' := 85) rfl rfl ?_
      obtain ⟨pl, e_pl⟩ : ∃ z, ln.toInt32 = z := ⟨_, rfl⟩
      have r_pl : (pl.toInt - ln.toInt) % 4294967296 = 0 := by have q := c_l2i ln; rw [e_pl] at q; exact q
      have g_pl := rng32 pl
      have t_pl : pl.toInt = ln.toInt := by omega
      clear r_pl
      clear g_pl
      refine K.l2i d7_85 (pc' := 86) rfl e_pl ?_
      refine K.putf d7_86 (pc' := 89) rfl (host := "") (Or.inl (hw _ (List.mem_of_getElem? (i := 72) rfl))) Via.refl f_7 f_8 (Or.inl (hw _ (List.mem_of_getElem? (i := 73) rfl))) (hw _ (List.mem_of_getElem? (i := 12) rfl)) (ty := .int) (by decide) rfl rfl P6 (fun h_17 W_18 => ?_)
      have f_19 : Exa Z h_17 hd "com/example/nestwire/nestwire/codec/Header" := f_8.wr W_18
      have f_20 : Ary Z h_17 eb .byte vs := f_12.other W_18 P7
      have f_21 : Fld Z h_17 hd "com/example/nestwire/nestwire/codec/Header" "isList" "Z" (.int (0 : Int32)) := f_5.other W_18 (Or.inr (slot_ne (Or.inl (hw _ (List.mem_of_getElem? (i := 61) rfl))) (Or.inl (hw _ (List.mem_of_getElem? (i := 73) rfl))) (by decide) (t := .boolean) (t' := .int) (by decide) (by decide)))
      have f_22 : Fld Z h_17 hd "com/example/nestwire/nestwire/codec/Header" "payloadStart" "I" (.int p) := f_6.other W_18 (Or.inr (slot_ne (Or.inl (hw _ (List.mem_of_getElem? (i := 63) rfl))) (Or.inl (hw _ (List.mem_of_getElem? (i := 73) rfl))) (by decide) (t := .int) (t' := .int) (by decide) (by decide)))
      have f_23 : Fld Z h_17 hd "com/example/nestwire/nestwire/codec/Header" "payloadLength" "I" (.int pl) := f_7.same W_18
      have kp_24 : Keep h h_17 [hd] := kp_13.wr W_18 (Or.inl (by simp))
      exact K.ret0 d7_89 (by decide) (by decide) ⟨pl, rfl, kp_24, by omega, f_21, f_22, f_23⟩
    · exfalso; omega
  · exfalso; omega
theorem d7_52 : decode prog_16_method_6_code 52 = .ok (.aload_n 1, 1) := by decide +kernel
theorem d7_53 : decode prog_16_method_6_code 53 = .ok (.aload_n 0, 1) := by decide +kernel
theorem d7_54 : decode prog_16_method_6_code 54 = .ok (.getfield 13, 3) := by decide +kernel
theorem d7_57 : decode prog_16_method_6_code 57 = .ok (.baload, 1) := by decide +kernel
theorem d7_58 : decode prog_16_method_6_code 58 = .ok (.sipush 255, 3) := by decide +kernel
theorem d7_61 : decode prog_16_method_6_code 61 = .ok (.iand, 1) := by decide +kernel
theorem d7_62 : decode prog_16_method_6_code 62 = .ok (.sipush 128, 3) := by decide +kernel
theorem d7_65 : decode prog_16_method_6_code 65 = .ok (.if_icmp .ge 17, 3) := by decide +kernel
set_option maxRecDepth 65536 in
set_option maxHeartbeats 40000000 in
theorem c_rd1 (l : Launch) (Z : State) (a0 : Array Value) (hw : ∀ d ∈ tables_1, d.before a0 Z = true) (n0 : Nat) (h : Heap) (hd : Addr) (eb : Addr) (p : Int32) (lim : Int32) (nz : Int32) (vs : List Value) (b : Int32) (l0 : Int32) (s0 : Int32) (g0 : Int32) (b1 : Int32) (P1 : Exa Z h hd "com/example/nestwire/nestwire/codec/Header") (P2 : Fld Z h hd "com/example/nestwire/nestwire/codec/Header" "isList" "Z" (.int l0)) (P3 : Fld Z h hd "com/example/nestwire/nestwire/codec/Header" "payloadStart" "I" (.int s0)) (P4 : Fld Z h hd "com/example/nestwire/nestwire/codec/Header" "payloadLength" "I" (.int g0)) (P5 : Ary Z h eb .byte vs) (P6 : n0 ≤ hd) (P7 : eb ≠ hd) (hv : vs[p.toInt.toNat]? = some (.int b)) (hp : 0 ≤ p.toInt ∧ p.toInt < 100) (hb : b.toInt = -127) (hlim : lim.toInt < 200 ∧ p.toInt + 2 ≤ lim.toInt) (hv1 : vs[p.toInt.toNat + 1]? = some (.int b1)) (hb1 : -128 ≤ b1.toInt ∧ b1.toInt < 0) : MeetsW l Z n0 (⟨"com/example/nestwire/nestwire/codec/Header", "read", "([BIIZ)V"⟩ : MethodName) prog_16_method_6_code 7 none ({ frames := 2, cells := 0, slots := 0, locals := 30 } : Room) #[(.ref hd), (.ref eb), (.int p), (.int lim), (.int nz)] h (fun v h' => ∃ (ps : Int32) (pl : Int32), v = none ∧ Keep h h' [hd] ∧ (ps.toInt = p.toInt + 1 ∧ pl.toInt = 1) ∧ Fld Z h' hd "com/example/nestwire/nestwire/codec/Header" "isList" "Z" (.int (0 : Int32)) ∧ Fld Z h' hd "com/example/nestwire/nestwire/codec/Header" "payloadStart" "I" (.int ps) ∧ Fld Z h' hd "com/example/nestwire/nestwire/codec/Header" "payloadLength" "I" (.int pl)) := by
  refine MeetsW.intro (plainFor_of_name pn_com_example_nestwire_nestwire_codec_Header) (L0 := #[.val (.ref hd), .val (.ref eb), .val (.int p), .val (.int lim), .val (.int nz), .unset, .unset]) (fun m => by first | (simp [entryFrame, mkF, argsToLocals, Value.category]; done) | rfl) ?_
  intro m G K0
  have K : Cx l ({ frames := 2, cells := 0, slots := 0, locals := 30 } : Room) Z n0 _ "com/example/nestwire/nestwire/codec/Header" "read" prog_16_method_6_code 7 none m G := K0
  refine K.aloadN d7_0 (pc' := 1) rfl rfl rfl ?_
  refine K.aloadN d7_1 (pc' := 2) rfl rfl rfl ?_
  refine K.iloadN d7_2 (pc' := 3) rfl rfl ?_
  refine K.iloadN d7_3 (pc' := 4) rfl rfl ?_
  refine K.iload d7_4 (pc' := 6) rfl rfl ?_
  refine K.callv (z := (⟨"com/example/nestwire/nestwire/codec/Header", "readLength", "([BIIZ)J"⟩ : MethodName)) (argsL := [(.ref eb), (.int p), (.int lim), (.int nz)]) (rest := []) d7_6 (pc' := 9) rfl (c_rl1 l Z a0 hw n0 h (hd := hd) (eb := eb) (p := p) (lim := lim) (nz := nz) (vs := vs) (b := b) (l0 := l0) (s0 := s0) (g0 := g0) P1 P2 P3 P4 P5 P6 P7 hv hp hb) P1 (hw _ (List.mem_of_getElem? (i := 55) rfl)) (hw _ (List.mem_of_getElem? (i := 56) rfl)) (nf_sel (hw _ (List.mem_of_getElem? (i := 58) rfl)) rfl) (hw _ (List.mem_of_getElem? (i := 58) rfl)) (hw _ (List.mem_of_getElem? (i := 57) rfl)) (hw _ (List.mem_of_getElem? (i := 13) rfl)) (hw _ (List.mem_of_getElem? (i := 59) rfl)) (by decide) pd_1 rfl rfl (W := 0) (by simp [Value.category]) (by decide) (by decide) (by decide) (by decide) (fun v_3 h_1 q_2 => ?_)
  obtain ⟨ln, pz, rfl, t_ln, K_4, f_5, f_6, f_7⟩ := q_2
  have f_8 : Exa Z h_1 hd "com/example/nestwire/nestwire/codec/Header" := P1.keep K_4
  have f_12 : Ary Z h_1 eb .byte vs := P5.keep K_4 (ninS P7 nin0)
  have kp_13 : Keep h h_1 [hd] := (Keep.refl h [hd]).trans K_4 (allS (Or.inl (by simp)) all0)
  show G h_1 0 0 (mkF m 9 #[.val (.ref hd), .val (.ref eb), .val (.int p), .val (.int lim), .val (.int nz), .unset, .unset] [(.long ln)])
  refine K.lstore d7_9 (pc' := 11) rfl (L' := #[.val (.ref hd), .val (.ref eb), .val (.int p), .val (.int lim), .val (.int nz), .val (.long ln), .second]) rfl ?_
  refine K.lload d7_11 (pc' := 13) rfl rfl ?_
  refine K.iloadN d7_13 (pc' := 14) rfl rfl ?_
  refine K.aloadN d7_14 (pc' := 15) rfl rfl rfl ?_
  refine K.getf d7_15 (pc' := 18) rfl (host := "") (Or.inl (hw _ (List.mem_of_getElem? (i := 62) rfl))) Via.refl f_6 ?_
  obtain ⟨z18, e_z18⟩ : ∃ z, lim - pz = z := ⟨_, rfl⟩
  have r_z18 : (z18.toInt - (lim.toInt - pz.toInt)) % 4294967296 = 0 := by have q := c_isub lim pz; rw [e_z18] at q; exact q
  have g_z18 := rng32 z18
  have t_z18 : z18.toInt = lim.toInt - pz.toInt := by omega
  clear r_z18
  clear g_z18
  refine K.isub d7_18 (pc' := 19) rfl e_z18 ?_
  obtain ⟨z19, e_z19⟩ : ∃ z, z18.toInt64 = z := ⟨_, rfl⟩
  have r_z19 : z19.toInt = z18.toInt := by have q := c_i2l z18; rw [e_z19] at q; exact q
  refine K.i2l d7_19 (pc' := 20) rfl e_z19 ?_
  refine K.calls (argsL := [(.long ln), (.long z19)]) (rest := []) d7_20 (pc' := 23) rfl (c_cu l Z a0 hw n0 h_1 (q1 := ln) (q2 := z19) ) (hw _ (List.mem_of_getElem? (i := 64) rfl)) (hw _ (List.mem_of_getElem? (i := 65) rfl)) (hw _ (List.mem_of_getElem? (i := 66) rfl)) (hw _ (List.mem_of_getElem? (i := 67) rfl)) (by decide) pd_0 rfl rfl (W := 0) (by simp [Value.category]) (by decide) (by decide) (by decide) (by decide) (fun v_16 h_14 q_15 => ?_)
  obtain ⟨cu, rfl, t_cu, rfl⟩ := q_15
  show G h_1 0 0 (mkF m 23 #[.val (.ref hd), .val (.ref eb), .val (.int p), .val (.int lim), .val (.int nz), .val (.long ln), .second] [(.int cu)])
  refine K.if_le d7_23 (pc1 := 26) rfl (by decide) (pc2 := 39) (by decide) (a := cu.toInt) rfl (fun c23 => ?_) (fun c23 => ?_)
  · refine K.aloadN d7_39 (pc' := 40) rfl rfl rfl ?_
    refine K.iloadN d7_40 (pc' := 41) rfl rfl ?_
    refine K.bald d7_41 (pc' := 42) rfl f_12 (i := p.toInt.toNat) (by omega) (v := (.int b)) hv ?_
    refine K.sipush d7_42 (pc' := 45) rfl (z := 255) rfl ?_
    obtain ⟨z45, e_z45⟩ : ∃ z, b &&& (255 : Int32) = z := ⟨_, rfl⟩
    have r_z45 : z45.toInt = b.toInt % 256 := by have q := c_mask b (255 : Int32) 8 (by decide) (by decide); rw [e_z45] at q; exact q
    refine K.iand d7_45 (pc' := 46) rfl e_z45 ?_
    refine K.sipush d7_46 (pc' := 49) rfl (z := 129) rfl ?_
    refine K.icmp_ne d7_49 (pc1 := 52) rfl (by decide) (pc2 := 82) (by decide) (a := z45.toInt) (b := 129) rfl rfl (fun c49 => ?_) (fun c49 => ?_)
    · exfalso; omega
    · refine K.aloadN d7_52 (pc' := 53) rfl rfl rfl ?_
      refine K.aloadN d7_53 (pc' := 54) rfl rfl rfl ?_
      refine K.getf d7_54 (pc' := 57) rfl (host := "") (Or.inl (hw _ (List.mem_of_getElem? (i := 62) rfl))) Via.refl f_6 ?_
      refine K.bald d7_57 (pc' := 58) rfl f_12 (i := p.toInt.toNat + 1) (by omega) (v := (.int b1)) hv1 ?_
      refine K.sipush d7_58 (pc' := 61) rfl (z := 255) rfl ?_
      obtain ⟨z61, e_z61⟩ : ∃ z, b1 &&& (255 : Int32) = z := ⟨_, rfl⟩
      have r_z61 : z61.toInt = b1.toInt % 256 := by have q := c_mask b1 (255 : Int32) 8 (by decide) (by decide); rw [e_z61] at q; exact q
      refine K.iand d7_61 (pc' := 62) rfl e_z61 ?_
      refine K.sipush d7_62 (pc' := 65) rfl (z := 128) rfl ?_
      refine K.icmp_ge d7_65 (pc1 := 68) rfl (by decide) (pc2 := 82) (by decide) (a := z61.toInt) (b := 128) rfl rfl (fun c65 => ?_) (fun c65 => ?_)
      · refine K.aloadN d7_82 (pc' := 83) rfl rfl rfl ?_
        refine K.lload d7_83 (pc' := 85) rfl rfl ?_
        obtain ⟨pl, e_pl⟩ : ∃ z, ln.toInt32 = z := ⟨_, rfl⟩
        have r_pl : (pl.toInt - ln.toInt) % 4294967296 = 0 := by have q := c_l2i ln; rw [e_pl] at q; exact q
        have g_pl := rng32 pl
        have t_pl : pl.toInt = ln.toInt := by omega
        clear r_pl
        clear g_pl
        refine K.l2i d7_85 (pc' := 86) rfl e_pl ?_
        refine K.putf d7_86 (pc' := 89) rfl (host := "") (Or.inl (hw _ (List.mem_of_getElem? (i := 72) rfl))) Via.refl f_7 f_8 (Or.inl (hw _ (List.mem_of_getElem? (i := 73) rfl))) (hw _ (List.mem_of_getElem? (i := 12) rfl)) (ty := .int) (by decide) rfl rfl P6 (fun h_17 W_18 => ?_)
        have f_19 : Exa Z h_17 hd "com/example/nestwire/nestwire/codec/Header" := f_8.wr W_18
        have f_20 : Ary Z h_17 eb .byte vs := f_12.other W_18 P7
        have f_21 : Fld Z h_17 hd "com/example/nestwire/nestwire/codec/Header" "isList" "Z" (.int (0 : Int32)) := f_5.other W_18 (Or.inr (slot_ne (Or.inl (hw _ (List.mem_of_getElem? (i := 61) rfl))) (Or.inl (hw _ (List.mem_of_getElem? (i := 73) rfl))) (by decide) (t := .boolean) (t' := .int) (by decide) (by decide)))
        have f_22 : Fld Z h_17 hd "com/example/nestwire/nestwire/codec/Header" "payloadStart" "I" (.int pz) := f_6.other W_18 (Or.inr (slot_ne (Or.inl (hw _ (List.mem_of_getElem? (i := 63) rfl))) (Or.inl (hw _ (List.mem_of_getElem? (i := 73) rfl))) (by decide) (t := .int) (t' := .int) (by decide) (by decide)))
        have f_23 : Fld Z h_17 hd "com/example/nestwire/nestwire/codec/Header" "payloadLength" "I" (.int pl) := f_7.same W_18
        have kp_24 : Keep h h_17 [hd] := kp_13.wr W_18 (Or.inl (by simp))
        exact K.ret0 d7_89 (by decide) (by decide) ⟨pz, pl, rfl, kp_24, by omega, f_21, f_22, f_23⟩
      · exfalso; omega
  · exfalso; omega
set_option maxRecDepth 65536 in
set_option maxHeartbeats 40000000 in
theorem c_rd2 (l : Launch) (Z : State) (a0 : Array Value) (hw : ∀ d ∈ tables_1, d.before a0 Z = true) (n0 : Nat) (h : Heap) (hd : Addr) (eb : Addr) (p : Int32) (lim : Int32) (nz : Int32) (vs : List Value) (b : Int32) (l0 : Int32) (s0 : Int32) (g0 : Int32) (P1 : Exa Z h hd "com/example/nestwire/nestwire/codec/Header") (P2 : Fld Z h hd "com/example/nestwire/nestwire/codec/Header" "isList" "Z" (.int l0)) (P3 : Fld Z h hd "com/example/nestwire/nestwire/codec/Header" "payloadStart" "I" (.int s0)) (P4 : Fld Z h hd "com/example/nestwire/nestwire/codec/Header" "payloadLength" "I" (.int g0)) (P5 : Ary Z h eb .byte vs) (P6 : n0 ≤ hd) (P7 : eb ≠ hd) (hv : vs[p.toInt.toNat]? = some (.int b)) (hp : 0 ≤ p.toInt ∧ p.toInt < 100) (hb : -64 ≤ b.toInt ∧ b.toInt ≤ -9) (hlim : lim.toInt < 200 ∧ p.toInt + 1 + (b.toInt + 64) ≤ lim.toInt) : MeetsW l Z n0 (⟨"com/example/nestwire/nestwire/codec/Header", "read", "([BIIZ)V"⟩ : MethodName) prog_16_method_6_code 7 none ({ frames := 2, cells := 0, slots := 0, locals := 30 } : Room) #[(.ref hd), (.ref eb), (.int p), (.int lim), (.int nz)] h (fun v h' => ∃ (ps : Int32) (pl : Int32), v = none ∧ Keep h h' [hd] ∧ (ps.toInt = p.toInt + 1 ∧ pl.toInt = b.toInt + 64) ∧ Fld Z h' hd "com/example/nestwire/nestwire/codec/Header" "isList" "Z" (.int (1 : Int32)) ∧ Fld Z h' hd "com/example/nestwire/nestwire/codec/Header" "payloadStart" "I" (.int ps) ∧ Fld Z h' hd "com/example/nestwire/nestwire/codec/Header" "payloadLength" "I" (.int pl)) := by
  refine MeetsW.intro (plainFor_of_name pn_com_example_nestwire_nestwire_codec_Header) (L0 := #[.val (.ref hd), .val (.ref eb), .val (.int p), .val (.int lim), .val (.int nz), .unset, .unset]) (fun m => by first | (simp [entryFrame, mkF, argsToLocals, Value.category]; done) | rfl) ?_
  intro m G K0
  have K : Cx l ({ frames := 2, cells := 0, slots := 0, locals := 30 } : Room) Z n0 _ "com/example/nestwire/nestwire/codec/Header" "read" prog_16_method_6_code 7 none m G := K0
  refine K.aloadN d7_0 (pc' := 1) rfl rfl rfl ?_
  refine K.aloadN d7_1 (pc' := 2) rfl rfl rfl ?_
  refine K.iloadN d7_2 (pc' := 3) rfl rfl ?_
  refine K.iloadN d7_3 (pc' := 4) rfl rfl ?_
  refine K.iload d7_4 (pc' := 6) rfl rfl ?_
  refine K.callv (z := (⟨"com/example/nestwire/nestwire/codec/Header", "readLength", "([BIIZ)J"⟩ : MethodName)) (argsL := [(.ref eb), (.int p), (.int lim), (.int nz)]) (rest := []) d7_6 (pc' := 9) rfl (c_rl2 l Z a0 hw n0 h (hd := hd) (eb := eb) (p := p) (lim := lim) (nz := nz) (vs := vs) (b := b) (l0 := l0) (s0 := s0) (g0 := g0) P1 P2 P3 P4 P5 P6 P7 hv hp hb) P1 (hw _ (List.mem_of_getElem? (i := 55) rfl)) (hw _ (List.mem_of_getElem? (i := 56) rfl)) (nf_sel (hw _ (List.mem_of_getElem? (i := 58) rfl)) rfl) (hw _ (List.mem_of_getElem? (i := 58) rfl)) (hw _ (List.mem_of_getElem? (i := 57) rfl)) (hw _ (List.mem_of_getElem? (i := 13) rfl)) (hw _ (List.mem_of_getElem? (i := 59) rfl)) (by decide) pd_1 rfl rfl (W := 0) (by simp [Value.category]) (by decide) (by decide) (by decide) (by decide) (fun v_3 h_1 q_2 => ?_)
  obtain ⟨ln, pz, rfl, t_ln, K_4, f_5, f_6, f_7⟩ := q_2
  have f_8 : Exa Z h_1 hd "com/example/nestwire/nestwire/codec/Header" := P1.keep K_4
  have f_12 : Ary Z h_1 eb .byte vs := P5.keep K_4 (ninS P7 nin0)
  have kp_13 : Keep h h_1 [hd] := (Keep.refl h [hd]).trans K_4 (allS (Or.inl (by simp)) all0)
  show G h_1 0 0 (mkF m 9 #[.val (.ref hd), .val (.ref eb), .val (.int p), .val (.int lim), .val (.int nz), .unset, .unset] [(.long ln)])
  refine K.lstore d7_9 (pc' := 11) rfl (L' := #[.val (.ref hd), .val (.ref eb), .val (.int p), .val (.int lim), .val (.int nz), .val (.long ln), .second]) rfl ?_
  refine K.lload d7_11 (pc' := 13) rfl rfl ?_
  refine K.iloadN d7_13 (pc' := 14) rfl rfl ?_
  refine K.aloadN d7_14 (pc' := 15) rfl rfl rfl ?_
  refine K.getf d7_15 (pc' := 18) rfl (host := "") (Or.inl (hw _ (List.mem_of_getElem? (i := 62) rfl))) Via.refl f_6 ?_
  obtain ⟨z18, e_z18⟩ : ∃ z, lim - pz = z := ⟨_, rfl⟩
  have r_z18 : (z18.toInt - (lim.toInt - pz.toInt)) % 4294967296 = 0 := by have q := c_isub lim pz; rw [e_z18] at q; exact q
  have g_z18 := rng32 z18
  have t_z18 : z18.toInt = lim.toInt - pz.toInt := by omega
  clear r_z18
  clear g_z18
  refine K.isub d7_18 (pc' := 19) rfl e_z18 ?_
  obtain ⟨z19, e_z19⟩ : ∃ z, z18.toInt64 = z := ⟨_, rfl⟩
  have r_z19 : z19.toInt = z18.toInt := by have q := c_i2l z18; rw [e_z19] at q; exact q
  refine K.i2l d7_19 (pc' := 20) rfl e_z19 ?_
  refine K.calls (argsL := [(.long ln), (.long z19)]) (rest := []) d7_20 (pc' := 23) rfl (c_cu l Z a0 hw n0 h_1 (q1 := ln) (q2 := z19) ) (hw _ (List.mem_of_getElem? (i := 64) rfl)) (hw _ (List.mem_of_getElem? (i := 65) rfl)) (hw _ (List.mem_of_getElem? (i := 66) rfl)) (hw _ (List.mem_of_getElem? (i := 67) rfl)) (by decide) pd_0 rfl rfl (W := 0) (by simp [Value.category]) (by decide) (by decide) (by decide) (by decide) (fun v_16 h_14 q_15 => ?_)
  obtain ⟨cu, rfl, t_cu, rfl⟩ := q_15
  show G h_1 0 0 (mkF m 23 #[.val (.ref hd), .val (.ref eb), .val (.int p), .val (.int lim), .val (.int nz), .val (.long ln), .second] [(.int cu)])
  refine K.if_le d7_23 (pc1 := 26) rfl (by decide) (pc2 := 39) (by decide) (a := cu.toInt) rfl (fun c23 => ?_) (fun c23 => ?_)
  · refine K.aloadN d7_39 (pc' := 40) rfl rfl rfl ?_
    refine K.iloadN d7_40 (pc' := 41) rfl rfl ?_
    refine K.bald d7_41 (pc' := 42) rfl f_12 (i := p.toInt.toNat) (by omega) (v := (.int b)) hv ?_
    refine K.sipush d7_42 (pc' := 45) rfl (z := 255) rfl ?_
    obtain ⟨z45, e_z45⟩ : ∃ z, b &&& (255 : Int32) = z := ⟨_, rfl⟩
    have r_z45 : z45.toInt = b.toInt % 256 := by have q := c_mask b (255 : Int32) 8 (by decide) (by decide); rw [e_z45] at q; exact q
    refine K.iand d7_45 (pc' := 46) rfl e_z45 ?_
    refine K.sipush d7_46 (pc' := 49) rfl (z := 129) rfl ?_
    refine K.icmp_ne d7_49 (pc1 := 52) rfl (by decide) (pc2 := 82) (by decide) (a := z45.toInt) (b := 129) rfl rfl (fun c49 => ?_) (fun c49 => ?_)
    · refine K.aloadN d7_82 (pc' := 83) rfl rfl rfl ?_
      refine K.lload d7_83 (pc' := 85) rfl rfl ?_
      obtain ⟨pl, e_pl⟩ : ∃ z, ln.toInt32 = z := ⟨_, rfl⟩
      have r_pl : (pl.toInt - ln.toInt) % 4294967296 = 0 := by have q := c_l2i ln; rw [e_pl] at q; exact q
      have g_pl := rng32 pl
      have t_pl : pl.toInt = ln.toInt := by omega
      clear r_pl
      clear g_pl
      refine K.l2i d7_85 (pc' := 86) rfl e_pl ?_
      refine K.putf d7_86 (pc' := 89) rfl (host := "") (Or.inl (hw _ (List.mem_of_getElem? (i := 72) rfl))) Via.refl f_7 f_8 (Or.inl (hw _ (List.mem_of_getElem? (i := 73) rfl))) (hw _ (List.mem_of_getElem? (i := 12) rfl)) (ty := .int) (by decide) rfl rfl P6 (fun h_17 W_18 => ?_)
      have f_19 : Exa Z h_17 hd "com/example/nestwire/nestwire/codec/Header" := f_8.wr W_18
      have f_20 : Ary Z h_17 eb .byte vs := f_12.other W_18 P7
      have f_21 : Fld Z h_17 hd "com/example/nestwire/nestwire/codec/Header" "isList" "Z" (.int (1 : Int32)) := f_5.other W_18 (Or.inr (slot_ne (Or.inl (hw _ (List.mem_of_getElem? (i := 61) rfl))) (Or.inl (hw _ (List.mem_of_getElem? (i := 73) rfl))) (by decide) (t := .boolean) (t' := .int) (by decide) (by decide)))
      have f_22 : Fld Z h_17 hd "com/example/nestwire/nestwire/codec/Header" "payloadStart" "I" (.int pz) := f_6.other W_18 (Or.inr (slot_ne (Or.inl (hw _ (List.mem_of_getElem? (i := 63) rfl))) (Or.inl (hw _ (List.mem_of_getElem? (i := 73) rfl))) (by decide) (t := .int) (t' := .int) (by decide) (by decide)))
      have f_23 : Fld Z h_17 hd "com/example/nestwire/nestwire/codec/Header" "payloadLength" "I" (.int pl) := f_7.same W_18
      have kp_24 : Keep h h_17 [hd] := kp_13.wr W_18 (Or.inl (by simp))
      exact K.ret0 d7_89 (by decide) (by decide) ⟨pz, pl, rfl, kp_24, by omega, f_21, f_22, f_23⟩
    · exfalso; omega
  · exfalso; omega
theorem d4_0 : decode prog_9_method_5_code 0 = .ok (.aload_n 0, 1) := by decide +kernel
theorem d4_1 : decode prog_9_method_5_code 1 = .ok (.getfield 52, 3) := by decide +kernel
theorem d4_4 : decode prog_9_method_5_code 4 = .ok (.ifCond .le 25, 3) := by decide +kernel
theorem d4_29 : decode prog_9_method_5_code 29 = .ok (.iconst 0, 1) := by decide +kernel
theorem d4_30 : decode prog_9_method_5_code 30 = .ok (.ireturn, 1) := by decide +kernel
theorem pn_com_example_nestwire_nestwire_codec_EncodingWalker : plainName "com/example/nestwire/nestwire/codec/EncodingWalker" = true := by first | (simp [plainName, overriddenIn]; done) | decide +kernel
set_option maxRecDepth 65536 in
set_option maxHeartbeats 40000000 in
theorem c_ale0 (l : Launch) (Z : State) (a0 : Array Value) (hw : ∀ d ∈ tables_1, d.before a0 Z = true) (n0 : Nat) (h : Heap) (a : Addr) (en : Addr) (p : Int32) (e0 : Int32) (e1 : Int32) (P1 : Exa Z h a "com/example/nestwire/nestwire/codec/EncodingWalker") (P2 : Fld Z h a "com/example/nestwire/nestwire/codec/EncodingWalker" "depth" "I" (.int (0 : Int32))) (P3 : Fld Z h a "com/example/nestwire/nestwire/codec/EncodingWalker" "position" "I" (.int p)) (P4 : Fld Z h a "com/example/nestwire/nestwire/codec/EncodingWalker" "ends" "[I" (.ref en)) (P5 : Ary Z h en .int [(.int e0), (.int e1), (.int (0 : Int32)), (.int (0 : Int32)), (.int (0 : Int32)), (.int (0 : Int32)), (.int (0 : Int32)), (.int (0 : Int32)), (.int (0 : Int32)), (.int (0 : Int32)), (.int (0 : Int32)), (.int (0 : Int32)), (.int (0 : Int32)), (.int (0 : Int32)), (.int (0 : Int32)), (.int (0 : Int32))]) : MeetsW l Z n0 (⟨"com/example/nestwire/nestwire/codec/EncodingWalker", "atListEnd", "()Z"⟩ : MethodName) prog_9_method_5_code 1 (some .boolean) ({ frames := 0, cells := 0, slots := 0, locals := 0 } : Room) #[(.ref a)] h (fun v h' => v = some (.int (b2 (False))) ∧ h = h') := by
  refine MeetsW.intro (plainFor_of_name pn_com_example_nestwire_nestwire_codec_EncodingWalker) (L0 := #[.val (.ref a)]) (fun m => by first | (simp [entryFrame, mkF, argsToLocals, Value.category]; done) | rfl) ?_
  intro m G K0
  have K : Cx l ({ frames := 0, cells := 0, slots := 0, locals := 0 } : Room) Z n0 _ "com/example/nestwire/nestwire/codec/EncodingWalker" "atListEnd" prog_9_method_5_code 1 (some .boolean) m G := K0
  refine K.aloadN d4_0 (pc' := 1) rfl rfl rfl ?_
  refine K.getf d4_1 (pc' := 4) rfl (host := "") (Or.inl (hw _ (List.mem_of_getElem? (i := 34) rfl))) Via.refl P2 ?_
  refine K.if_le d4_4 (pc1 := 7) rfl (by decide) (pc2 := 29) (by decide) (a := 0) rfl (fun c4 => ?_) (fun c4 => ?_)
  · refine K.iconst d4_29 (pc' := 30) rfl (z := 0) rfl ?_
    exact K.retz d4_30 (Or.inl rfl) (by decide) (by decide) ⟨by rw [b2_f (by first | omega | simp)], rfl⟩
  · exfalso; omega
theorem d4_7 : decode prog_9_method_5_code 7 = .ok (.aload_n 0, 1) := by decide +kernel
theorem d4_8 : decode prog_9_method_5_code 8 = .ok (.getfield 31, 3) := by decide +kernel
theorem d4_11 : decode prog_9_method_5_code 11 = .ok (.aload_n 0, 1) := by decide +kernel
theorem d4_12 : decode prog_9_method_5_code 12 = .ok (.getfield 19, 3) := by decide +kernel
theorem d4_15 : decode prog_9_method_5_code 15 = .ok (.aload_n 0, 1) := by decide +kernel
theorem d4_16 : decode prog_9_method_5_code 16 = .ok (.getfield 52, 3) := by decide +kernel
theorem d4_19 : decode prog_9_method_5_code 19 = .ok (.iconst 1, 1) := by decide +kernel
theorem d4_20 : decode prog_9_method_5_code 20 = .ok (.isub, 1) := by decide +kernel
theorem d4_21 : decode prog_9_method_5_code 21 = .ok (.iaload, 1) := by decide +kernel
theorem d4_22 : decode prog_9_method_5_code 22 = .ok (.if_icmp .ne 7, 3) := by decide +kernel
theorem d4_25 : decode prog_9_method_5_code 25 = .ok (.iconst 1, 1) := by decide +kernel
theorem d4_26 : decode prog_9_method_5_code 26 = .ok (.goto 4, 3) := by decide +kernel
set_option maxRecDepth 65536 in
set_option maxHeartbeats 40000000 in
theorem c_ale1 (l : Launch) (Z : State) (a0 : Array Value) (hw : ∀ d ∈ tables_1, d.before a0 Z = true) (n0 : Nat) (h : Heap) (a : Addr) (en : Addr) (p : Int32) (e0 : Int32) (e1 : Int32) (P1 : Exa Z h a "com/example/nestwire/nestwire/codec/EncodingWalker") (P2 : Fld Z h a "com/example/nestwire/nestwire/codec/EncodingWalker" "depth" "I" (.int (1 : Int32))) (P3 : Fld Z h a "com/example/nestwire/nestwire/codec/EncodingWalker" "position" "I" (.int p)) (P4 : Fld Z h a "com/example/nestwire/nestwire/codec/EncodingWalker" "ends" "[I" (.ref en)) (P5 : Ary Z h en .int [(.int e0), (.int e1), (.int (0 : Int32)), (.int (0 : Int32)), (.int (0 : Int32)), (.int (0 : Int32)), (.int (0 : Int32)), (.int (0 : Int32)), (.int (0 : Int32)), (.int (0 : Int32)), (.int (0 : Int32)), (.int (0 : Int32)), (.int (0 : Int32)), (.int (0 : Int32)), (.int (0 : Int32)), (.int (0 : Int32))]) : MeetsW l Z n0 (⟨"com/example/nestwire/nestwire/codec/EncodingWalker", "atListEnd", "()Z"⟩ : MethodName) prog_9_method_5_code 1 (some .boolean) ({ frames := 0, cells := 0, slots := 0, locals := 0 } : Room) #[(.ref a)] h (fun v h' => v = some (.int (b2 (p.toInt = e0.toInt))) ∧ h = h') := by
  refine MeetsW.intro (plainFor_of_name pn_com_example_nestwire_nestwire_codec_EncodingWalker) (L0 := #[.val (.ref a)]) (fun m => by first | (simp [entryFrame, mkF, argsToLocals, Value.category]; done) | rfl) ?_
  intro m G K0
  have K : Cx l ({ frames := 0, cells := 0, slots := 0, locals := 0 } : Room) Z n0 _ "com/example/nestwire/nestwire/codec/EncodingWalker" "atListEnd" prog_9_method_5_code 1 (some .boolean) m G := K0
  refine K.aloadN d4_0 (pc' := 1) rfl rfl rfl ?_
  refine K.getf d4_1 (pc' := 4) rfl (host := "") (Or.inl (hw _ (List.mem_of_getElem? (i := 34) rfl))) Via.refl P2 ?_
  refine K.if_le d4_4 (pc1 := 7) rfl (by decide) (pc2 := 29) (by decide) (a := 1) rfl (fun c4 => ?_) (fun c4 => ?_)
  · exfalso; omega
  · refine K.aloadN d4_7 (pc' := 8) rfl rfl rfl ?_
    refine K.getf d4_8 (pc' := 11) rfl (host := "") (Or.inl (hw _ (List.mem_of_getElem? (i := 27) rfl))) Via.refl P3 ?_
    refine K.aloadN d4_11 (pc' := 12) rfl rfl rfl ?_
    refine K.getf d4_12 (pc' := 15) rfl (host := "") (Or.inl (hw _ (List.mem_of_getElem? (i := 21) rfl))) Via.refl P4 ?_
    refine K.aloadN d4_15 (pc' := 16) rfl rfl rfl ?_
    refine K.getf d4_16 (pc' := 19) rfl (host := "") (Or.inl (hw _ (List.mem_of_getElem? (i := 34) rfl))) Via.refl P2 ?_
    refine K.iconst d4_19 (pc' := 20) rfl (z := 1) rfl ?_
    refine K.isub d4_20 (pc' := 21) rfl (z := (0 : Int32)) (by decide) ?_
    refine K.iald d4_21 (pc' := 22) rfl P5 (i := 0) rfl rfl ?_
    refine K.icmp_ne d4_22 (pc1 := 25) rfl (by decide) (pc2 := 29) (by decide) (a := p.toInt) (b := e0.toInt) rfl rfl (fun c22 => ?_) (fun c22 => ?_)
    · refine K.iconst d4_29 (pc' := 30) rfl (z := 0) rfl ?_
      exact K.retz d4_30 (Or.inl rfl) (by decide) (by decide) ⟨by rw [b2_f (by first | omega | simp)], rfl⟩
    · refine K.iconst d4_25 (pc' := 26) rfl (z := 1) rfl ?_
      refine K.goto d4_26 (by decide) (pc' := 30) (by decide) ?_
      exact K.retz d4_30 (Or.inr rfl) (by decide) (by decide) ⟨by rw [b2_t (by first | omega | simp)], rfl⟩
set_option maxRecDepth 65536 in
set_option maxHeartbeats 40000000 in
theorem c_ale2 (l : Launch) (Z : State) (a0 : Array Value) (hw : ∀ d ∈ tables_1, d.before a0 Z = true) (n0 : Nat) (h : Heap) (a : Addr) (en : Addr) (p : Int32) (e0 : Int32) (e1 : Int32) (P1 : Exa Z h a "com/example/nestwire/nestwire/codec/EncodingWalker") (P2 : Fld Z h a "com/example/nestwire/nestwire/codec/EncodingWalker" "depth" "I" (.int (2 : Int32))) (P3 : Fld Z h a "com/example/nestwire/nestwire/codec/EncodingWalker" "position" "I" (.int p)) (P4 : Fld Z h a "com/example/nestwire/nestwire/codec/EncodingWalker" "ends" "[I" (.ref en)) (P5 : Ary Z h en .int [(.int e0), (.int e1), (.int (0 : Int32)), (.int (0 : Int32)), (.int (0 : Int32)), (.int (0 : Int32)), (.int (0 : Int32)), (.int (0 : Int32)), (.int (0 : Int32)), (.int (0 : Int32)), (.int (0 : Int32)), (.int (0 : Int32)), (.int (0 : Int32)), (.int (0 : Int32)), (.int (0 : Int32)), (.int (0 : Int32))]) : MeetsW l Z n0 (⟨"com/example/nestwire/nestwire/codec/EncodingWalker", "atListEnd", "()Z"⟩ : MethodName) prog_9_method_5_code 1 (some .boolean) ({ frames := 0, cells := 0, slots := 0, locals := 0 } : Room) #[(.ref a)] h (fun v h' => v = some (.int (b2 (p.toInt = e1.toInt))) ∧ h = h') := by
  refine MeetsW.intro (plainFor_of_name pn_com_example_nestwire_nestwire_codec_EncodingWalker) (L0 := #[.val (.ref a)]) (fun m => by first | (simp [entryFrame, mkF, argsToLocals, Value.category]; done) | rfl) ?_
  intro m G K0
  have K : Cx l ({ frames := 0, cells := 0, slots := 0, locals := 0 } : Room) Z n0 _ "com/example/nestwire/nestwire/codec/EncodingWalker" "atListEnd" prog_9_method_5_code 1 (some .boolean) m G := K0
  refine K.aloadN d4_0 (pc' := 1) rfl rfl rfl ?_
  refine K.getf d4_1 (pc' := 4) rfl (host := "") (Or.inl (hw _ (List.mem_of_getElem? (i := 34) rfl))) Via.refl P2 ?_
  refine K.if_le d4_4 (pc1 := 7) rfl (by decide) (pc2 := 29) (by decide) (a := 2) rfl (fun c4 => ?_) (fun c4 => ?_)
  · exfalso; omega
  · refine K.aloadN d4_7 (pc' := 8) rfl rfl rfl ?_
    refine K.getf d4_8 (pc' := 11) rfl (host := "") (Or.inl (hw _ (List.mem_of_getElem? (i := 27) rfl))) Via.refl P3 ?_
    refine K.aloadN d4_11 (pc' := 12) rfl rfl rfl ?_
    refine K.getf d4_12 (pc' := 15) rfl (host := "") (Or.inl (hw _ (List.mem_of_getElem? (i := 21) rfl))) Via.refl P4 ?_
    refine K.aloadN d4_15 (pc' := 16) rfl rfl rfl ?_
    refine K.getf d4_16 (pc' := 19) rfl (host := "") (Or.inl (hw _ (List.mem_of_getElem? (i := 34) rfl))) Via.refl P2 ?_
    refine K.iconst d4_19 (pc' := 20) rfl (z := 1) rfl ?_
    refine K.isub d4_20 (pc' := 21) rfl (z := (1 : Int32)) (by decide) ?_
    refine K.iald d4_21 (pc' := 22) rfl P5 (i := 1) rfl rfl ?_
    refine K.icmp_ne d4_22 (pc1 := 25) rfl (by decide) (pc2 := 29) (by decide) (a := p.toInt) (b := e1.toInt) rfl rfl (fun c22 => ?_) (fun c22 => ?_)
    · refine K.iconst d4_29 (pc' := 30) rfl (z := 0) rfl ?_
      exact K.retz d4_30 (Or.inl rfl) (by decide) (by decide) ⟨by rw [b2_f (by first | omega | simp)], rfl⟩
    · refine K.iconst d4_25 (pc' := 26) rfl (z := 1) rfl ?_
      refine K.goto d4_26 (by decide) (pc' := 30) (by decide) ?_
      exact K.retz d4_30 (Or.inr rfl) (by decide) (by decide) ⟨by rw [b2_t (by first | omega | simp)], rfl⟩
theorem d6_0 : decode prog_9_method_15_code 0 = .ok (.aload_n 0, 1) := by decide +kernel
theorem d6_1 : decode prog_9_method_15_code 1 = .ok (.getfield 52, 3) := by decide +kernel
theorem d6_4 : decode prog_9_method_15_code 4 = .ok (.ifCond .ne 33, 3) := by decide +kernel
theorem d6_7 : decode prog_9_method_15_code 7 = .ok (.aload_n 0, 1) := by decide +kernel
theorem d6_8 : decode prog_9_method_15_code 8 = .ok (.getfield 48, 3) := by decide +kernel
theorem d6_11 : decode prog_9_method_15_code 11 = .ok (.ifCond .eq 7, 3) := by decide +kernel
theorem d6_18 : decode prog_9_method_15_code 18 = .ok (.aload_n 0, 1) := by decide +kernel
theorem d6_19 : decode prog_9_method_15_code 19 = .ok (.getfield 31, 3) := by decide +kernel
theorem d6_22 : decode prog_9_method_15_code 22 = .ok (.aload_n 0, 1) := by decide +kernel
theorem d6_23 : decode prog_9_method_15_code 23 = .ok (.getfield 27, 3) := by decide +kernel
theorem d6_26 : decode prog_9_method_15_code 26 = .ok (.if_icmp .ne 11, 3) := by decide +kernel
theorem d6_37 : decode prog_9_method_15_code 37 = .ok (.aload_n 0, 1) := by decide +kernel
theorem d6_38 : decode prog_9_method_15_code 38 = .ok (.getfield 15, 3) := by decide +kernel
theorem d6_41 : decode prog_9_method_15_code 41 = .ok (.aload_n 0, 1) := by decide +kernel
theorem d6_42 : decode prog_9_method_15_code 42 = .ok (.getfield 23, 3) := by decide +kernel
theorem d6_45 : decode prog_9_method_15_code 45 = .ok (.aload_n 0, 1) := by decide +kernel
theorem d6_46 : decode prog_9_method_15_code 46 = .ok (.getfield 31, 3) := by decide +kernel
theorem d6_49 : decode prog_9_method_15_code 49 = .ok (.aload_n 0, 1) := by decide +kernel
theorem d6_50 : decode prog_9_method_15_code 50 = .ok (.getfield 52, 3) := by decide +kernel
theorem d6_53 : decode prog_9_method_15_code 53 = .ok (.ifCond .ne 10, 3) := by decide +kernel
theorem d6_56 : decode prog_9_method_15_code 56 = .ok (.aload_n 0, 1) := by decide +kernel
theorem d6_57 : decode prog_9_method_15_code 57 = .ok (.getfield 27, 3) := by decide +kernel
theorem d6_60 : decode prog_9_method_15_code 60 = .ok (.goto 14, 3) := by decide +kernel
theorem d6_74 : decode prog_9_method_15_code 74 = .ok (.aload_n 0, 1) := by decide +kernel
theorem d6_75 : decode prog_9_method_15_code 75 = .ok (.getfield 52, 3) := by decide +kernel
theorem d6_78 : decode prog_9_method_15_code 78 = .ok (.ifCond .le 7, 3) := by decide +kernel
theorem d6_85 : decode prog_9_method_15_code 85 = .ok (.iconst 0, 1) := by decide +kernel
theorem d6_86 : decode prog_9_method_15_code 86 = .ok (.invokevirtual 130, 3) := by decide +kernel
theorem pd_2 : parseMethodDescriptor "([BIIZ)V" = some ⟨[(.array .byte), .int, .int, .boolean], none⟩ := by decide +kernel
theorem d6_89 : decode prog_9_method_15_code 89 = .ok (.aload_n 0, 1) := by decide +kernel
theorem d6_90 : decode prog_9_method_15_code 90 = .ok (.aload_n 0, 1) := by decide +kernel
theorem d6_91 : decode prog_9_method_15_code 91 = .ok (.getfield 31, 3) := by decide +kernel
theorem d6_94 : decode prog_9_method_15_code 94 = .ok (.putfield 134, 3) := by decide +kernel
theorem d6_97 : decode prog_9_method_15_code 97 = .ok (.return_, 1) := by decide +kernel
set_option maxRecDepth 65536 in
set_option maxHeartbeats 40000000 in
theorem c_rh02 (l : Launch) (Z : State) (a0 : Array Value) (hw : ∀ d ∈ tables_1, d.before a0 Z = true) (n0 : Nat) (h : Heap) (a : Addr) (hd : Addr) (en : Addr) (eb : Addr) (n : Int32) (p : Int32) (i0 : Int32) (l0 : Int32) (s0 : Int32) (g0 : Int32) (e0 : Int32) (e1 : Int32) (vs : List Value) (b : Int32) (P1 : Exa Z h a "com/example/nestwire/nestwire/codec/EncodingWalker") (P2 : Exa Z h hd "com/example/nestwire/nestwire/codec/Header") (P3 : n0 ≤ a) (P4 : n0 ≤ hd) (P5 : n0 ≤ en) (P6 : a ≠ hd) (P7 : a ≠ en) (P8 : a ≠ eb) (P9 : hd ≠ en) (P10 : hd ≠ eb) (P11 : en ≠ eb) (P12 : Fld Z h a "com/example/nestwire/nestwire/codec/EncodingWalker" "header" "Lcom/example/nestwire/nestwire/codec/Header;" (.ref hd)) (P13 : Fld Z h a "com/example/nestwire/nestwire/codec/EncodingWalker" "ends" "[I" (.ref en)) (P14 : Fld Z h a "com/example/nestwire/nestwire/codec/EncodingWalker" "encoding" "[B" (.ref eb)) (P15 : Fld Z h a "com/example/nestwire/nestwire/codec/EncodingWalker" "end" "I" (.int n)) (P16 : Fld Z h a "com/example/nestwire/nestwire/codec/EncodingWalker" "position" "I" (.int p)) (P17 : Fld Z h a "com/example/nestwire/nestwire/codec/EncodingWalker" "depth" "I" (.int (0 : Int32))) (P18 : Fld Z h a "com/example/nestwire/nestwire/codec/EncodingWalker" "started" "Z" (.int (0 : Int32))) (P19 : Fld Z h a "com/example/nestwire/nestwire/codec/EncodingWalker" "peeked" "Z" (.int (0 : Int32))) (P20 : Fld Z h a "com/example/nestwire/nestwire/codec/EncodingWalker" "itemStart" "I" (.int i0)) (P21 : Fld Z h hd "com/example/nestwire/nestwire/codec/Header" "isList" "Z" (.int l0)) (P22 : Fld Z h hd "com/example/nestwire/nestwire/codec/Header" "payloadStart" "I" (.int s0)) (P23 : Fld Z h hd "com/example/nestwire/nestwire/codec/Header" "payloadLength" "I" (.int g0)) (P24 : Ary Z h en .int [(.int e0), (.int e1), (.int (0 : Int32)), (.int (0 : Int32)), (.int (0 : Int32)), (.int (0 : Int32)), (.int (0 : Int32)), (.int (0 : Int32)), (.int (0 : Int32)), (.int (0 : Int32)), (.int (0 : Int32)), (.int (0 : Int32)), (.int (0 : Int32)), (.int (0 : Int32)), (.int (0 : Int32)), (.int (0 : Int32))]) (P25 : Ary Z h eb .byte vs) (hv : vs[p.toInt.toNat]? = some (.int b)) (hp : 0 ≤ p.toInt ∧ p.toInt < 100) (hb : -64 ≤ b.toInt ∧ b.toInt ≤ -9) (hlim : n.toInt < 200 ∧ p.toInt + 1 + (b.toInt + 64) ≤ n.toInt) : MeetsW l Z n0 (⟨"com/example/nestwire/nestwire/codec/EncodingWalker", "readHeader", "()V"⟩ : MethodName) prog_9_method_15_code 1 none ({ frames := 3, cells := 0, slots := 0, locals := 48 } : Room) #[(.ref a)] h (fun v h' => ∃ (ps : Int32) (pl : Int32), v = none ∧ Keep h h' [a, hd] ∧ (ps.toInt = p.toInt + 1 ∧ pl.toInt = b.toInt + 64) ∧ Fld Z h' a "com/example/nestwire/nestwire/codec/EncodingWalker" "header" "Lcom/example/nestwire/nestwire/codec/Header;" (.ref hd) ∧ Fld Z h' a "com/example/nestwire/nestwire/codec/EncodingWalker" "ends" "[I" (.ref en) ∧ Fld Z h' a "com/example/nestwire/nestwire/codec/EncodingWalker" "encoding" "[B" (.ref eb) ∧ Fld Z h' a "com/example/nestwire/nestwire/codec/EncodingWalker" "end" "I" (.int n) ∧ Fld Z h' a "com/example/nestwire/nestwire/codec/EncodingWalker" "position" "I" (.int p) ∧ Fld Z h' a "com/example/nestwire/nestwire/codec/EncodingWalker" "depth" "I" (.int (0 : Int32)) ∧ Fld Z h' a "com/example/nestwire/nestwire/codec/EncodingWalker" "started" "Z" (.int (0 : Int32)) ∧ Fld Z h' a "com/example/nestwire/nestwire/codec/EncodingWalker" "peeked" "Z" (.int (0 : Int32)) ∧ Fld Z h' a "com/example/nestwire/nestwire/codec/EncodingWalker" "itemStart" "I" (.int p) ∧ Fld Z h' hd "com/example/nestwire/nestwire/codec/Header" "isList" "Z" (.int (1 : Int32)) ∧ Fld Z h' hd "com/example/nestwire/nestwire/codec/Header" "payloadStart" "I" (.int ps) ∧ Fld Z h' hd "com/example/nestwire/nestwire/codec/Header" "payloadLength" "I" (.int pl)) := by
  refine MeetsW.intro (plainFor_of_name pn_com_example_nestwire_nestwire_codec_EncodingWalker) (L0 := #[.val (.ref a)]) (fun m => by first | (simp [entryFrame, mkF, argsToLocals, Value.category]; done) | rfl) ?_
  intro m G K0
  have K : Cx l ({ frames := 3, cells := 0, slots := 0, locals := 48 } : Room) Z n0 _ "com/example/nestwire/nestwire/codec/EncodingWalker" "readHeader" prog_9_method_15_code 1 none m G := K0
  refine K.aloadN d6_0 (pc' := 1) rfl rfl rfl ?_
  refine K.getf d6_1 (pc' := 4) rfl (host := "") (Or.inl (hw _ (List.mem_of_getElem? (i := 34) rfl))) Via.refl P17 ?_
  refine K.if_ne d6_4 (pc1 := 7) rfl (by decide) (pc2 := 37) (by decide) (a := 0) rfl (fun c4 => ?_) (fun c4 => ?_)
  · exfalso; omega
  · refine K.aloadN d6_7 (pc' := 8) rfl rfl rfl ?_
    refine K.getf d6_8 (pc' := 11) rfl (host := "") (Or.inl (hw _ (List.mem_of_getElem? (i := 48) rfl))) Via.refl P18 ?_
    refine K.if_eq d6_11 (pc1 := 14) rfl (by decide) (pc2 := 18) (by decide) (a := 0) rfl (fun c11 => ?_) (fun c11 => ?_)
    · refine K.aloadN d6_18 (pc' := 19) rfl rfl rfl ?_
      refine K.getf d6_19 (pc' := 22) rfl (host := "") (Or.inl (hw _ (List.mem_of_getElem? (i := 27) rfl))) Via.refl P16 ?_
      refine K.aloadN d6_22 (pc' := 23) rfl rfl rfl ?_
      refine K.getf d6_23 (pc' := 26) rfl (host := "") (Or.inl (hw _ (List.mem_of_getElem? (i := 25) rfl))) Via.refl P15 ?_
      refine K.icmp_ne d6_26 (pc1 := 29) rfl (by decide) (pc2 := 37) (by decide) (a := p.toInt) (b := n.toInt) rfl rfl (fun c26 => ?_) (fun c26 => ?_)
      · refine K.aloadN d6_37 (pc' := 38) rfl rfl rfl ?_
        refine K.getf d6_38 (pc' := 41) rfl (host := "") (Or.inl (hw _ (List.mem_of_getElem? (i := 18) rfl))) Via.refl P12 ?_
        refine K.aloadN d6_41 (pc' := 42) rfl rfl rfl ?_
        refine K.getf d6_42 (pc' := 45) rfl (host := "") (Or.inl (hw _ (List.mem_of_getElem? (i := 23) rfl))) Via.refl P14 ?_
        refine K.aloadN d6_45 (pc' := 46) rfl rfl rfl ?_
        refine K.getf d6_46 (pc' := 49) rfl (host := "") (Or.inl (hw _ (List.mem_of_getElem? (i := 27) rfl))) Via.refl P16 ?_
        refine K.aloadN d6_49 (pc' := 50) rfl rfl rfl ?_
        refine K.getf d6_50 (pc' := 53) rfl (host := "") (Or.inl (hw _ (List.mem_of_getElem? (i := 34) rfl))) Via.refl P17 ?_
        refine K.if_ne d6_53 (pc1 := 56) rfl (by decide) (pc2 := 63) (by decide) (a := 0) rfl (fun c53 => ?_) (fun c53 => ?_)
        · exfalso; omega
        · refine K.aloadN d6_56 (pc' := 57) rfl rfl rfl ?_
          refine K.getf d6_57 (pc' := 60) rfl (host := "") (Or.inl (hw _ (List.mem_of_getElem? (i := 25) rfl))) Via.refl P15 ?_
          refine K.goto d6_60 (by decide) (pc' := 74) (by decide) ?_
          refine K.aloadN d6_74 (pc' := 75) rfl rfl rfl ?_
          refine K.getf d6_75 (pc' := 78) rfl (host := "") (Or.inl (hw _ (List.mem_of_getElem? (i := 34) rfl))) Via.refl P17 ?_
          refine K.if_le d6_78 (pc1 := 81) rfl (by decide) (pc2 := 85) (by decide) (a := 0) rfl (fun c78 => ?_) (fun c78 => ?_)
          · refine K.iconst d6_85 (pc' := 86) rfl (z := 0) rfl ?_
            refine K.callv (z := (⟨"com/example/nestwire/nestwire/codec/Header", "read", "([BIIZ)V"⟩ : MethodName)) (argsL := [(.ref eb), (.int p), (.int n), (.int (0 : Int32))]) (rest := []) d6_86 (pc' := 89) rfl (c_rd2 l Z a0 hw n0 h (hd := hd) (eb := eb) (p := p) (lim := n) (nz := (0 : Int32)) (vs := vs) (b := b) (l0 := l0) (s0 := s0) (g0 := g0) P2 P21 P22 P23 P25 P4 (Ne.symm P10) hv hp hb hlim) P2 (hw _ (List.mem_of_getElem? (i := 50) rfl)) (hw _ (List.mem_of_getElem? (i := 51) rfl)) (nf_sel (hw _ (List.mem_of_getElem? (i := 53) rfl)) rfl) (hw _ (List.mem_of_getElem? (i := 53) rfl)) (hw _ (List.mem_of_getElem? (i := 52) rfl)) (hw _ (List.mem_of_getElem? (i := 13) rfl)) (hw _ (List.mem_of_getElem? (i := 54) rfl)) (by decide) pd_2 rfl rfl (W := 0) (by simp [Value.category]) (by decide) (by decide) (by decide) (by decide) (fun v_3 h_1 q_2 => ?_)
            obtain ⟨ps, pl, rfl, K_4, hpl_rd, f_5, f_6, f_7⟩ := q_2
            have f_8 : Exa Z h_1 a "com/example/nestwire/nestwire/codec/EncodingWalker" := P1.keep K_4
            have f_9 : Exa Z h_1 hd "com/example/nestwire/nestwire/codec/Header" := P2.keep K_4
            have f_10 : Fld Z h_1 a "com/example/nestwire/nestwire/codec/EncodingWalker" "header" "Lcom/example/nestwire/nestwire/codec/Header;" (.ref hd) := P12.keep K_4 (ninS P6 nin0)
            have f_11 : Fld Z h_1 a "com/example/nestwire/nestwire/codec/EncodingWalker" "ends" "[I" (.ref en) := P13.keep K_4 (ninS P6 nin0)
            have f_12 : Fld Z h_1 a "com/example/nestwire/nestwire/codec/EncodingWalker" "encoding" "[B" (.ref eb) := P14.keep K_4 (ninS P6 nin0)
            have f_13 : Fld Z h_1 a "com/example/nestwire/nestwire/codec/EncodingWalker" "end" "I" (.int n) := P15.keep K_4 (ninS P6 nin0)
            have f_14 : Fld Z h_1 a "com/example/nestwire/nestwire/codec/EncodingWalker" "position" "I" (.int p) := P16.keep K_4 (ninS P6 nin0)
            have f_15 : Fld Z h_1 a "com/example/nestwire/nestwire/codec/EncodingWalker" "depth" "I" (.int (0 : Int32)) := P17.keep K_4 (ninS P6 nin0)
            have f_16 : Fld Z h_1 a "com/example/nestwire/nestwire/codec/EncodingWalker" "started" "Z" (.int (0 : Int32)) := P18.keep K_4 (ninS P6 nin0)
            have f_17 : Fld Z h_1 a "com/example/nestwire/nestwire/codec/EncodingWalker" "peeked" "Z" (.int (0 : Int32)) := P19.keep K_4 (ninS P6 nin0)
            have f_18 : Fld Z h_1 a "com/example/nestwire/nestwire/codec/EncodingWalker" "itemStart" "I" (.int i0) := P20.keep K_4 (ninS P6 nin0)
            have f_22 : Ary Z h_1 en .int [(.int e0), (.int e1), (.int (0 : Int32)), (.int (0 : Int32)), (.int (0 : Int32)), (.int (0 : Int32)), (.int (0 : Int32)), (.int (0 : Int32)), (.int (0 : Int32)), (.int (0 : Int32)), (.int (0 : Int32)), (.int (0 : Int32)), (.int (0 : Int32)), (.int (0 : Int32)), (.int (0 : Int32)), (.int (0 : Int32))] := P24.keep K_4 (ninS (Ne.symm P9) nin0)
            have f_23 : Ary Z h_1 eb .byte vs := P25.keep K_4 (ninS (Ne.symm P10) nin0)
            have kp_24 : Keep h h_1 [a, hd] := (Keep.refl h [a, hd]).trans K_4 (allS (Or.inl (by simp)) all0)
            show G h_1 0 0 (mkF m 89 #[.val (.ref a)] [])
            refine K.aloadN d6_89 (pc' := 90) rfl rfl rfl ?_
            refine K.aloadN d6_90 (pc' := 91) rfl rfl rfl ?_
            refine K.getf d6_91 (pc' := 94) rfl (host := "") (Or.inl (hw _ (List.mem_of_getElem? (i := 27) rfl))) Via.refl f_14 ?_
            refine K.putf d6_94 (pc' := 97) rfl (host := "") (Or.inl (hw _ (List.mem_of_getElem? (i := 74) rfl))) Via.refl f_18 f_8 (Or.inl (hw _ (List.mem_of_getElem? (i := 75) rfl))) (hw _ (List.mem_of_getElem? (i := 3) rfl)) (ty := .int) (by decide) rfl rfl P3 (fun h_25 W_26 => ?_)
            have f_27 : Exa Z h_25 a "com/example/nestwire/nestwire/codec/EncodingWalker" := f_8.wr W_26
            have f_28 : Exa Z h_25 hd "com/example/nestwire/nestwire/codec/Header" := f_9.wr W_26
            have f_29 : Fld Z h_25 a "com/example/nestwire/nestwire/codec/EncodingWalker" "header" "Lcom/example/nestwire/nestwire/codec/Header;" (.ref hd) := f_10.other W_26 (Or.inr (slot_ne (Or.inr (hw _ (List.mem_of_getElem? (i := 19) rfl))) (Or.inl (hw _ (List.mem_of_getElem? (i := 75) rfl))) (by decide) (t := (.object "com/example/nestwire/nestwire/codec/Header")) (t' := .int) (by decide) (by decide)))
            have f_30 : Fld Z h_25 a "com/example/nestwire/nestwire/codec/EncodingWalker" "ends" "[I" (.ref en) := f_11.other W_26 (Or.inr (slot_ne (Or.inl (hw _ (List.mem_of_getElem? (i := 22) rfl))) (Or.inl (hw _ (List.mem_of_getElem? (i := 75) rfl))) (by decide) (t := (.array .int)) (t' := .int) (by decide) (by decide)))
            have f_31 : Fld Z h_25 a "com/example/nestwire/nestwire/codec/EncodingWalker" "encoding" "[B" (.ref eb) := f_12.other W_26 (Or.inr (slot_ne (Or.inr (hw _ (List.mem_of_getElem? (i := 24) rfl))) (Or.inl (hw _ (List.mem_of_getElem? (i := 75) rfl))) (by decide) (t := (.array .byte)) (t' := .int) (by decide) (by decide)))
            have f_32 : Fld Z h_25 a "com/example/nestwire/nestwire/codec/EncodingWalker" "end" "I" (.int n) := f_13.other W_26 (Or.inr (slot_ne (Or.inr (hw _ (List.mem_of_getElem? (i := 26) rfl))) (Or.inl (hw _ (List.mem_of_getElem? (i := 75) rfl))) (by decide) (t := .int) (t' := .int) (by decide) (by decide)))
            have f_33 : Fld Z h_25 a "com/example/nestwire/nestwire/codec/EncodingWalker" "position" "I" (.int p) := f_14.other W_26 (Or.inr (slot_ne (Or.inl (hw _ (List.mem_of_getElem? (i := 28) rfl))) (Or.inl (hw _ (List.mem_of_getElem? (i := 75) rfl))) (by decide) (t := .int) (t' := .int) (by decide) (by decide)))
            have f_34 : Fld Z h_25 a "com/example/nestwire/nestwire/codec/EncodingWalker" "depth" "I" (.int (0 : Int32)) := f_15.other W_26 (Or.inr (slot_ne (Or.inl (hw _ (List.mem_of_getElem? (i := 35) rfl))) (Or.inl (hw _ (List.mem_of_getElem? (i := 75) rfl))) (by decide) (t := .int) (t' := .int) (by decide) (by decide)))
            have f_35 : Fld Z h_25 a "com/example/nestwire/nestwire/codec/EncodingWalker" "started" "Z" (.int (0 : Int32)) := f_16.other W_26 (Or.inr (slot_ne (Or.inl (hw _ (List.mem_of_getElem? (i := 49) rfl))) (Or.inl (hw _ (List.mem_of_getElem? (i := 75) rfl))) (by decide) (t := .boolean) (t' := .int) (by decide) (by decide)))
            have f_36 : Fld Z h_25 a "com/example/nestwire/nestwire/codec/EncodingWalker" "peeked" "Z" (.int (0 : Int32)) := f_17.other W_26 (Or.inr (slot_ne (Or.inl (hw _ (List.mem_of_getElem? (i := 43) rfl))) (Or.inl (hw _ (List.mem_of_getElem? (i := 75) rfl))) (by decide) (t := .boolean) (t' := .int) (by decide) (by decide)))
            have f_37 : Fld Z h_25 a "com/example/nestwire/nestwire/codec/EncodingWalker" "itemStart" "I" (.int p) := f_18.same W_26
            have f_38 : Ary Z h_25 en .int [(.int e0), (.int e1), (.int (0 : Int32)), (.int (0 : Int32)), (.int (0 : Int32)), (.int (0 : Int32)), (.int (0 : Int32)), (.int (0 : Int32)), (.int (0 : Int32)), (.int (0 : Int32)), (.int (0 : Int32)), (.int (0 : Int32)), (.int (0 : Int32)), (.int (0 : Int32)), (.int (0 : Int32)), (.int (0 : Int32))] := f_22.other W_26 (Ne.symm P7)
            have f_39 : Ary Z h_25 eb .byte vs := f_23.other W_26 (Ne.symm P8)
            have f_40 : Fld Z h_25 hd "com/example/nestwire/nestwire/codec/Header" "isList" "Z" (.int (1 : Int32)) := f_5.other W_26 (Or.inl (Ne.symm P6))
            have f_41 : Fld Z h_25 hd "com/example/nestwire/nestwire/codec/Header" "payloadStart" "I" (.int ps) := f_6.other W_26 (Or.inl (Ne.symm P6))
            have f_42 : Fld Z h_25 hd "com/example/nestwire/nestwire/codec/Header" "payloadLength" "I" (.int pl) := f_7.other W_26 (Or.inl (Ne.symm P6))
            have kp_43 : Keep h h_25 [a, hd] := kp_24.wr W_26 (Or.inl (by simp))
            exact K.ret0 d6_97 (by decide) (by decide) ⟨ps, pl, rfl, kp_43, by exact hpl_rd, f_29, f_30, f_31, f_32, f_33, f_34, f_35, f_36, f_37, f_40, f_41, f_42⟩
          · exfalso; omega
      · exfalso; omega
    · exfalso; omega
theorem d6_63 : decode prog_9_method_15_code 63 = .ok (.aload_n 0, 1) := by decide +kernel
theorem d6_64 : decode prog_9_method_15_code 64 = .ok (.getfield 19, 3) := by decide +kernel
theorem d6_67 : decode prog_9_method_15_code 67 = .ok (.aload_n 0, 1) := by decide +kernel
theorem d6_68 : decode prog_9_method_15_code 68 = .ok (.getfield 52, 3) := by decide +kernel
theorem d6_71 : decode prog_9_method_15_code 71 = .ok (.iconst 1, 1) := by decide +kernel
theorem d6_72 : decode prog_9_method_15_code 72 = .ok (.isub, 1) := by decide +kernel
theorem d6_73 : decode prog_9_method_15_code 73 = .ok (.iaload, 1) := by decide +kernel
theorem d6_81 : decode prog_9_method_15_code 81 = .ok (.iconst 1, 1) := by decide +kernel
theorem d6_82 : decode prog_9_method_15_code 82 = .ok (.goto 4, 3) := by decide +kernel
set_option maxRecDepth 65536 in
set_option maxHeartbeats 40000000 in
theorem c_rh10 (l : Launch) (Z : State) (a0 : Array Value) (hw : ∀ d ∈ tables_1, d.before a0 Z = true) (n0 : Nat) (h : Heap) (a : Addr) (hd : Addr) (en : Addr) (eb : Addr) (n : Int32) (p : Int32) (i0 : Int32) (st0 : Int32) (l0 : Int32) (s0 : Int32) (g0 : Int32) (e0 : Int32) (e1 : Int32) (vs : List Value) (b : Int32) (P1 : Exa Z h a "com/example/nestwire/nestwire/codec/EncodingWalker") (P2 : Exa Z h hd "com/example/nestwire/nestwire/codec/Header") (P3 : n0 ≤ a) (P4 : n0 ≤ hd) (P5 : n0 ≤ en) (P6 : a ≠ hd) (P7 : a ≠ en) (P8 : a ≠ eb) (P9 : hd ≠ en) (P10 : hd ≠ eb) (P11 : en ≠ eb) (P12 : Fld Z h a "com/example/nestwire/nestwire/codec/EncodingWalker" "header" "Lcom/example/nestwire/nestwire/codec/Header;" (.ref hd)) (P13 : Fld Z h a "com/example/nestwire/nestwire/codec/EncodingWalker" "ends" "[I" (.ref en)) (P14 : Fld Z h a "com/example/nestwire/nestwire/codec/EncodingWalker" "encoding" "[B" (.ref eb)) (P15 : Fld Z h a "com/example/nestwire/nestwire/codec/EncodingWalker" "end" "I" (.int n)) (P16 : Fld Z h a "com/example/nestwire/nestwire/codec/EncodingWalker" "position" "I" (.int p)) (P17 : Fld Z h a "com/example/nestwire/nestwire/codec/EncodingWalker" "depth" "I" (.int (1 : Int32))) (P18 : Fld Z h a "com/example/nestwire/nestwire/codec/EncodingWalker" "started" "Z" (.int st0)) (P19 : Fld Z h a "com/example/nestwire/nestwire/codec/EncodingWalker" "peeked" "Z" (.int (0 : Int32))) (P20 : Fld Z h a "com/example/nestwire/nestwire/codec/EncodingWalker" "itemStart" "I" (.int i0)) (P21 : Fld Z h hd "com/example/nestwire/nestwire/codec/Header" "isList" "Z" (.int l0)) (P22 : Fld Z h hd "com/example/nestwire/nestwire/codec/Header" "payloadStart" "I" (.int s0)) (P23 : Fld Z h hd "com/example/nestwire/nestwire/codec/Header" "payloadLength" "I" (.int g0)) (P24 : Ary Z h en .int [(.int e0), (.int e1), (.int (0 : Int32)), (.int (0 : Int32)), (.int (0 : Int32)), (.int (0 : Int32)), (.int (0 : Int32)), (.int (0 : Int32)), (.int (0 : Int32)), (.int (0 : Int32)), (.int (0 : Int32)), (.int (0 : Int32)), (.int (0 : Int32)), (.int (0 : Int32)), (.int (0 : Int32)), (.int (0 : Int32))]) (P25 : Ary Z h eb .byte vs) (hv : vs[p.toInt.toNat]? = some (.int b)) (hp : 0 ≤ p.toInt ∧ p.toInt < 100) (hb : 0 ≤ b.toInt ∧ b.toInt < 128) (hlim : e0.toInt < 200 ∧ p.toInt + 1 ≤ e0.toInt) : MeetsW l Z n0 (⟨"com/example/nestwire/nestwire/codec/EncodingWalker", "readHeader", "()V"⟩ : MethodName) prog_9_method_15_code 1 none ({ frames := 3, cells := 0, slots := 0, locals := 48 } : Room) #[(.ref a)] h (fun v h' => ∃ (pl : Int32), v = none ∧ Keep h h' [a, hd] ∧ (pl.toInt = 1) ∧ Fld Z h' a "com/example/nestwire/nestwire/codec/EncodingWalker" "header" "Lcom/example/nestwire/nestwire/codec/Header;" (.ref hd) ∧ Fld Z h' a "com/example/nestwire/nestwire/codec/EncodingWalker" "ends" "[I" (.ref en) ∧ Fld Z h' a "com/example/nestwire/nestwire/codec/EncodingWalker" "encoding" "[B" (.ref eb) ∧ Fld Z h' a "com/example/nestwire/nestwire/codec/EncodingWalker" "end" "I" (.int n) ∧ Fld Z h' a "com/example/nestwire/nestwire/codec/EncodingWalker" "position" "I" (.int p) ∧ Fld Z h' a "com/example/nestwire/nestwire/codec/EncodingWalker" "depth" "I" (.int (1 : Int32)) ∧ Fld Z h' a "com/example/nestwire/nestwire/codec/EncodingWalker" "started" "Z" (.int st0) ∧ Fld Z h' a "com/example/nestwire/nestwire/codec/EncodingWalker" "peeked" "Z" (.int (0 : Int32)) ∧ Fld Z h' a "com/example/nestwire/nestwire/codec/EncodingWalker" "itemStart" "I" (.int p) ∧ Fld Z h' hd "com/example/nestwire/nestwire/codec/Header" "isList" "Z" (.int (0 : Int32)) ∧ Fld Z h' hd "com/example/nestwire/nestwire/codec/Header" "payloadStart" "I" (.int p) ∧ Fld Z h' hd "com/example/nestwire/nestwire/codec/Header" "payloadLength" "I" (.int pl)) := by
  refine MeetsW.intro (plainFor_of_name pn_com_example_nestwire_nestwire_codec_EncodingWalker) (L0 := #[.val (.ref a)]) (fun m => by first | (simp [entryFrame, mkF, argsToLocals, Value.category]; done) | rfl) ?_
  intro m G K0
  have K : Cx l ({ frames := 3, cells := 0, slots := 0, locals := 48 } : Room) Z n0 _ "com/example/nestwire/nestwire/codec/EncodingWalker" "readHeader" prog_9_method_15_code 1 none m G := K0
  refine K.aloadN d6_0 (pc' := 1) rfl rfl rfl ?_
  refine K.getf d6_1 (pc' := 4) rfl (host := "") (Or.inl (hw _ (List.mem_of_getElem? (i := 34) rfl))) Via.refl P17 ?_
  refine K.if_ne d6_4 (pc1 := 7) rfl (by decide) (pc2 := 37) (by decide) (a := 1) rfl (fun c4 => ?_) (fun c4 => ?_)
  · refine K.aloadN d6_37 (pc' := 38) rfl rfl rfl ?_
    refine K.getf d6_38 (pc' := 41) rfl (host := "") (Or.inl (hw _ (List.mem_of_getElem? (i := 18) rfl))) Via.refl P12 ?_
    refine K.aloadN d6_41 (pc' := 42) rfl rfl rfl ?_
    refine K.getf d6_42 (pc' := 45) rfl (host := "") (Or.inl (hw _ (List.mem_of_getElem? (i := 23) rfl))) Via.refl P14 ?_
    refine K.aloadN d6_45 (pc' := 46) rfl rfl rfl ?_
    refine K.getf d6_46 (pc' := 49) rfl (host := "") (Or.inl (hw _ (List.mem_of_getElem? (i := 27) rfl))) Via.refl P16 ?_
    refine K.aloadN d6_49 (pc' := 50) rfl rfl rfl ?_
    refine K.getf d6_50 (pc' := 53) rfl (host := "") (Or.inl (hw _ (List.mem_of_getElem? (i := 34) rfl))) Via.refl P17 ?_
    refine K.if_ne d6_53 (pc1 := 56) rfl (by decide) (pc2 := 63) (by decide) (a := 1) rfl (fun c53 => ?_) (fun c53 => ?_)
    · refine K.aloadN d6_63 (pc' := 64) rfl rfl rfl ?_
      refine K.getf d6_64 (pc' := 67) rfl (host := "") (Or.inl (hw _ (List.mem_of_getElem? (i := 21) rfl))) Via.refl P13 ?_
      refine K.aloadN d6_67 (pc' := 68) rfl rfl rfl ?_
      refine K.getf d6_68 (pc' := 71) rfl (host := "") (Or.inl (hw _ (List.mem_of_getElem? (i := 34) rfl))) Via.refl P17 ?_
      refine K.iconst d6_71 (pc' := 72) rfl (z := 1) rfl ?_
      refine K.isub d6_72 (pc' := 73) rfl (z := (0 : Int32)) (by decide) ?_
      refine K.iald d6_73 (pc' := 74) rfl P24 (i := 0) rfl rfl ?_
      refine K.aloadN d6_74 (pc' := 75) rfl rfl rfl ?_
      refine K.getf d6_75 (pc' := 78) rfl (host := "") (Or.inl (hw _ (List.mem_of_getElem? (i := 34) rfl))) Via.refl P17 ?_
      refine K.if_le d6_78 (pc1 := 81) rfl (by decide) (pc2 := 85) (by decide) (a := 1) rfl (fun c78 => ?_) (fun c78 => ?_)
      · exfalso; omega
      · refine K.iconst d6_81 (pc' := 82) rfl (z := 1) rfl ?_
        refine K.goto d6_82 (by decide) (pc' := 86) (by decide) ?_
        refine K.callv (z := (⟨"com/example/nestwire/nestwire/codec/Header", "read", "([BIIZ)V"⟩ : MethodName)) (argsL := [(.ref eb), (.int p), (.int e0), (.int (1 : Int32))]) (rest := []) d6_86 (pc' := 89) rfl (c_rd0 l Z a0 hw n0 h (hd := hd) (eb := eb) (p := p) (lim := e0) (nz := (1 : Int32)) (vs := vs) (b := b) (l0 := l0) (s0 := s0) (g0 := g0) P2 P21 P22 P23 P25 P4 (Ne.symm P10) hv hp hb hlim) P2 (hw _ (List.mem_of_getElem? (i := 50) rfl)) (hw _ (List.mem_of_getElem? (i := 51) rfl)) (nf_sel (hw _ (List.mem_of_getElem? (i := 53) rfl)) rfl) (hw _ (List.mem_of_getElem? (i := 53) rfl)) (hw _ (List.mem_of_getElem? (i := 52) rfl)) (hw _ (List.mem_of_getElem? (i := 13) rfl)) (hw _ (List.mem_of_getElem? (i := 54) rfl)) (by decide) pd_2 rfl rfl (W := 0) (by simp [Value.category]) (by decide) (by decide) (by decide) (by decide) (fun v_3 h_1 q_2 => ?_)
        obtain ⟨pl, rfl, K_4, hpl_rd, f_5, f_6, f_7⟩ := q_2
        have f_8 : Exa Z h_1 a "com/example/nestwire/nestwire/codec/EncodingWalker" := P1.keep K_4
        have f_9 : Exa Z h_1 hd "com/example/nestwire/nestwire/codec/Header" := P2.keep K_4
        have f_10 : Fld Z h_1 a "com/example/nestwire/nestwire/codec/EncodingWalker" "header" "Lcom/example/nestwire/nestwire/codec/Header;" (.ref hd) := P12.keep K_4 (ninS P6 nin0)
        have f_11 : Fld Z h_1 a "com/example/nestwire/nestwire/codec/EncodingWalker" "ends" "[I" (.ref en) := P13.keep K_4 (ninS P6 nin0)
        have f_12 : Fld Z h_1 a "com/example/nestwire/nestwire/codec/EncodingWalker" "encoding" "[B" (.ref eb) := P14.keep K_4 (ninS P6 nin0)
        have f_13 : Fld Z h_1 a "com/example/nestwire/nestwire/codec/EncodingWalker" "end" "I" (.int n) := P15.keep K_4 (ninS P6 nin0)
        have f_14 : Fld Z h_1 a "com/example/nestwire/nestwire/codec/EncodingWalker" "position" "I" (.int p) := P16.keep K_4 (ninS P6 nin0)
        have f_15 : Fld Z h_1 a "com/example/nestwire/nestwire/codec/EncodingWalker" "depth" "I" (.int (1 : Int32)) := P17.keep K_4 (ninS P6 nin0)
        have f_16 : Fld Z h_1 a "com/example/nestwire/nestwire/codec/EncodingWalker" "started" "Z" (.int st0) := P18.keep K_4 (ninS P6 nin0)
        have f_17 : Fld Z h_1 a "com/example/nestwire/nestwire/codec/EncodingWalker" "peeked" "Z" (.int (0 : Int32)) := P19.keep K_4 (ninS P6 nin0)
        have f_18 : Fld Z h_1 a "com/example/nestwire/nestwire/codec/EncodingWalker" "itemStart" "I" (.int i0) := P20.keep K_4 (ninS P6 nin0)
        have f_22 : Ary Z h_1 en .int [(.int e0), (.int e1), (.int (0 : Int32)), (.int (0 : Int32)), (.int (0 : Int32)), (.int (0 : Int32)), (.int (0 : Int32)), (.int (0 : Int32)), (.int (0 : Int32)), (.int (0 : Int32)), (.int (0 : Int32)), (.int (0 : Int32)), (.int (0 : Int32)), (.int (0 : Int32)), (.int (0 : Int32)), (.int (0 : Int32))] := P24.keep K_4 (ninS (Ne.symm P9) nin0)
        have f_23 : Ary Z h_1 eb .byte vs := P25.keep K_4 (ninS (Ne.symm P10) nin0)
        have kp_24 : Keep h h_1 [a, hd] := (Keep.refl h [a, hd]).trans K_4 (allS (Or.inl (by simp)) all0)
        show G h_1 0 0 (mkF m 89 #[.val (.ref a)] [])
        refine K.aloadN d6_89 (pc' := 90) rfl rfl rfl ?_
        refine K.aloadN d6_90 (pc' := 91) rfl rfl rfl ?_
        refine K.getf d6_91 (pc' := 94) rfl (host := "") (Or.inl (hw _ (List.mem_of_getElem? (i := 27) rfl))) Via.refl f_14 ?_
        refine K.putf d6_94 (pc' := 97) rfl (host := "") (Or.inl (hw _ (List.mem_of_getElem? (i := 74) rfl))) Via.refl f_18 f_8 (Or.inl (hw _ (List.mem_of_getElem? (i := 75) rfl))) (hw _ (List.mem_of_getElem? (i := 3) rfl)) (ty := .int) (by decide) rfl rfl P3 (fun h_25 W_26 => ?_)
        have f_27 : Exa Z h_25 a "com/example/nestwire/nestwire/codec/EncodingWalker" := f_8.wr W_26
        have f_28 : Exa Z h_25 hd "com/example/nestwire/nestwire/codec/Header" := f_9.wr W_26
        have f_29 : Fld Z h_25 a "com/example/nestwire/nestwire/codec/EncodingWalker" "header" "Lcom/example/nestwire/nestwire/codec/Header;" (.ref hd) := f_10.other W_26 (Or.inr (slot_ne (Or.inr (hw _ (List.mem_of_getElem? (i := 19) rfl))) (Or.inl (hw _ (List.mem_of_getElem? (i := 75) rfl))) (by decide) (t := (.object "com/example/nestwire/nestwire/codec/Header")) (t' := .int) (by decide) (by decide)))
        have f_30 : Fld Z h_25 a "com/example/nestwire/nestwire/codec/EncodingWalker" "ends" "[I" (.ref en) := f_11.other W_26 (Or.inr (slot_ne (Or.inl (hw _ (List.mem_of_getElem? (i := 22) rfl))) (Or.inl (hw _ (List.mem_of_getElem? (i := 75) rfl))) (by decide) (t := (.array .int)) (t' := .int) (by decide) (by decide)))
        have f_31 : Fld Z h_25 a "com/example/nestwire/nestwire/codec/EncodingWalker" "encoding" "[B" (.ref eb) := f_12.other W_26 (Or.inr (slot_ne (Or.inr (hw _ (List.mem_of_getElem? (i := 24) rfl))) (Or.inl (hw _ (List.mem_of_getElem? (i := 75) rfl))) (by decide) (t := (.array .byte)) (t' := .int) (by decide) (by decide)))
        have f_32 : Fld Z h_25 a "com/example/nestwire/nestwire/codec/EncodingWalker" "end" "I" (.int n) := f_13.other W_26 (Or.inr (slot_ne (Or.inr (hw _ (List.mem_of_getElem? (i := 26) rfl))) (Or.inl (hw _ (List.mem_of_getElem? (i := 75) rfl))) (by decide) (t := .int) (t' := .int) (by decide) (by decide)))
        have f_33 : Fld Z h_25 a "com/example/nestwire/nestwire/codec/EncodingWalker" "position" "I" (.int p) := f_14.other W_26 (Or.inr (slot_ne (Or.inl (hw _ (List.mem_of_getElem? (i := 28) rfl))) (Or.inl (hw _ (List.mem_of_getElem? (i := 75) rfl))) (by decide) (t := .int) (t' := .int) (by decide) (by decide)))
        have f_34 : Fld Z h_25 a "com/example/nestwire/nestwire/codec/EncodingWalker" "depth" "I" (.int (1 : Int32)) := f_15.other W_26 (Or.inr (slot_ne (Or.inl (hw _ (List.mem_of_getElem? (i := 35) rfl))) (Or.inl (hw _ (List.mem_of_getElem? (i := 75) rfl))) (by decide) (t := .int) (t' := .int) (by decide) (by decide)))
        have f_35 : Fld Z h_25 a "com/example/nestwire/nestwire/codec/EncodingWalker" "started" "Z" (.int st0) := f_16.other W_26 (Or.inr (slot_ne (Or.inl (hw _ (List.mem_of_getElem? (i := 49) rfl))) (Or.inl (hw _ (List.mem_of_getElem? (i := 75) rfl))) (by decide) (t := .boolean) (t' := .int) (by decide) (by decide)))
        have f_36 : Fld Z h_25 a "com/example/nestwire/nestwire/codec/EncodingWalker" "peeked" "Z" (.int (0 : Int32)) := f_17.other W_26 (Or.inr (slot_ne (Or.inl (hw _ (List.mem_of_getElem? (i := 43) rfl))) (Or.inl (hw _ (List.mem_of_getElem? (i := 75) rfl))) (by decide) (t := .boolean) (t' := .int) (by decide) (by decide)))
        have f_37 : Fld Z h_25 a "com/example/nestwire/nestwire/codec/EncodingWalker" "itemStart" "I" (.int p) := f_18.same W_26
        have f_38 : Ary Z h_25 en .int [(.int e0), (.int e1), (.int (0 : Int32)), (.int (0 : Int32)), (.int (0 : Int32)), (.int (0 : Int32)), (.int (0 : Int32)), (.int (0 : Int32)), (.int (0 : Int32)), (.int (0 : Int32)), (.int (0 : Int32)), (.int (0 : Int32)), (.int (0 : Int32)), (.int (0 : Int32)), (.int (0 : Int32)), (.int (0 : Int32))] := f_22.other W_26 (Ne.symm P7)
        have f_39 : Ary Z h_25 eb .byte vs := f_23.other W_26 (Ne.symm P8)
        have f_40 : Fld Z h_25 hd "com/example/nestwire/nestwire/codec/Header" "isList" "Z" (.int (0 : Int32)) := f_5.other W_26 (Or.inl (Ne.symm P6))
        have f_41 : Fld Z h_25 hd "com/example/nestwire/nestwire/codec/Header" "payloadStart" "I" (.int p) := f_6.other W_26 (Or.inl (Ne.symm P6))
        have f_42 : Fld Z h_25 hd "com/example/nestwire/nestwire/codec/Header" "payloadLength" "I" (.int pl) := f_7.other W_26 (Or.inl (Ne.symm P6))
        have kp_43 : Keep h h_25 [a, hd] := kp_24.wr W_26 (Or.inl (by simp))
        exact K.ret0 d6_97 (by decide) (by decide) ⟨pl, rfl, kp_43, by exact hpl_rd, f_29, f_30, f_31, f_32, f_33, f_34, f_35, f_36, f_37, f_40, f_41, f_42⟩
    · exfalso; omega
  · exfalso; omega
set_option maxRecDepth 65536 in
set_option maxHeartbeats 40000000 in
theorem c_rh11 (l : Launch) (Z : State) (a0 : Array Value) (hw : ∀ d ∈ tables_1, d.before a0 Z = true) (n0 : Nat) (h : Heap) (a : Addr) (hd : Addr) (en : Addr) (eb : Addr) (n : Int32) (p : Int32) (i0 : Int32) (st0 : Int32) (l0 : Int32) (s0 : Int32) (g0 : Int32) (e0 : Int32) (e1 : Int32) (vs : List Value) (b : Int32) (b1 : Int32) (P1 : Exa Z h a "com/example/nestwire/nestwire/codec/EncodingWalker") (P2 : Exa Z h hd "com/example/nestwire/nestwire/codec/Header") (P3 : n0 ≤ a) (P4 : n0 ≤ hd) (P5 : n0 ≤ en) (P6 : a ≠ hd) (P7 : a ≠ en) (P8 : a ≠ eb) (P9 : hd ≠ en) (P10 : hd ≠ eb) (P11 : en ≠ eb) (P12 : Fld Z h a "com/example/nestwire/nestwire/codec/EncodingWalker" "header" "Lcom/example/nestwire/nestwire/codec/Header;" (.ref hd)) (P13 : Fld Z h a "com/example/nestwire/nestwire/codec/EncodingWalker" "ends" "[I" (.ref en)) (P14 : Fld Z h a "com/example/nestwire/nestwire/codec/EncodingWalker" "encoding" "[B" (.ref eb)) (P15 : Fld Z h a "com/example/nestwire/nestwire/codec/EncodingWalker" "end" "I" (.int n)) (P16 : Fld Z h a "com/example/nestwire/nestwire/codec/EncodingWalker" "position" "I" (.int p)) (P17 : Fld Z h a "com/example/nestwire/nestwire/codec/EncodingWalker" "depth" "I" (.int (1 : Int32))) (P18 : Fld Z h a "com/example/nestwire/nestwire/codec/EncodingWalker" "started" "Z" (.int st0)) (P19 : Fld Z h a "com/example/nestwire/nestwire/codec/EncodingWalker" "peeked" "Z" (.int (0 : Int32))) (P20 : Fld Z h a "com/example/nestwire/nestwire/codec/EncodingWalker" "itemStart" "I" (.int i0)) (P21 : Fld Z h hd "com/example/nestwire/nestwire/codec/Header" "isList" "Z" (.int l0)) (P22 : Fld Z h hd "com/example/nestwire/nestwire/codec/Header" "payloadStart" "I" (.int s0)) (P23 : Fld Z h hd "com/example/nestwire/nestwire/codec/Header" "payloadLength" "I" (.int g0)) (P24 : Ary Z h en .int [(.int e0), (.int e1), (.int (0 : Int32)), (.int (0 : Int32)), (.int (0 : Int32)), (.int (0 : Int32)), (.int (0 : Int32)), (.int (0 : Int32)), (.int (0 : Int32)), (.int (0 : Int32)), (.int (0 : Int32)), (.int (0 : Int32)), (.int (0 : Int32)), (.int (0 : Int32)), (.int (0 : Int32)), (.int (0 : Int32))]) (P25 : Ary Z h eb .byte vs) (hv : vs[p.toInt.toNat]? = some (.int b)) (hp : 0 ≤ p.toInt ∧ p.toInt < 100) (hb : b.toInt = -127) (hlim : e0.toInt < 200 ∧ p.toInt + 2 ≤ e0.toInt) (hv1 : vs[p.toInt.toNat + 1]? = some (.int b1)) (hb1 : -128 ≤ b1.toInt ∧ b1.toInt < 0) : MeetsW l Z n0 (⟨"com/example/nestwire/nestwire/codec/EncodingWalker", "readHeader", "()V"⟩ : MethodName) prog_9_method_15_code 1 none ({ frames := 3, cells := 0, slots := 0, locals := 48 } : Room) #[(.ref a)] h (fun v h' => ∃ (ps : Int32) (pl : Int32), v = none ∧ Keep h h' [a, hd] ∧ (ps.toInt = p.toInt + 1 ∧ pl.toInt = 1) ∧ Fld Z h' a "com/example/nestwire/nestwire/codec/EncodingWalker" "header" "Lcom/example/nestwire/nestwire/codec/Header;" (.ref hd) ∧ Fld Z h' a "com/example/nestwire/nestwire/codec/EncodingWalker" "ends" "[I" (.ref en) ∧ Fld Z h' a "com/example/nestwire/nestwire/codec/EncodingWalker" "encoding" "[B" (.ref eb) ∧ Fld Z h' a "com/example/nestwire/nestwire/codec/EncodingWalker" "end" "I" (.int n) ∧ Fld Z h' a "com/example/nestwire/nestwire/codec/EncodingWalker" "position" "I" (.int p) ∧ Fld Z h' a "com/example/nestwire/nestwire/codec/EncodingWalker" "depth" "I" (.int (1 : Int32)) ∧ Fld Z h' a "com/example/nestwire/nestwire/codec/EncodingWalker" "started" "Z" (.int st0) ∧ Fld Z h' a "com/example/nestwire/nestwire/codec/EncodingWalker" "peeked" "Z" (.int (0 : Int32)) ∧ Fld Z h' a "com/example/nestwire/nestwire/codec/EncodingWalker" "itemStart" "I" (.int p) ∧ Fld Z h' hd "com/example/nestwire/nestwire/codec/Header" "isList" "Z" (.int (0 : Int32)) ∧ Fld Z h' hd "com/example/nestwire/nestwire/codec/Header" "payloadStart" "I" (.int ps) ∧ Fld Z h' hd "com/example/nestwire/nestwire/codec/Header" "payloadLength" "I" (.int pl)) := by
  refine MeetsW.intro (plainFor_of_name pn_com_example_nestwire_nestwire_codec_EncodingWalker) (L0 := #[.val (.ref a)]) (fun m => by first | (simp [entryFrame, mkF, argsToLocals, Value.category]; done) | rfl) ?_
  intro m G K0
  have K : Cx l ({ frames := 3, cells := 0, slots := 0, locals := 48 } : Room) Z n0 _ "com/example/nestwire/nestwire/codec/EncodingWalker" "readHeader" prog_9_method_15_code 1 none m G := K0
  refine K.aloadN d6_0 (pc' := 1) rfl rfl rfl ?_
  refine K.getf d6_1 (pc' := 4) rfl (host := "") (Or.inl (hw _ (List.mem_of_getElem? (i := 34) rfl))) Via.refl P17 ?_
  refine K.if_ne d6_4 (pc1 := 7) rfl (by decide) (pc2 := 37) (by decide) (a := 1) rfl (fun c4 => ?_) (fun c4 => ?_)
  · refine K.aloadN d6_37 (pc' := 38) rfl rfl rfl ?_
    refine K.getf d6_38 (pc' := 41) rfl (host := "") (Or.inl (hw _ (List.mem_of_getElem? (i := 18) rfl))) Via.refl P12 ?_
    refine K.aloadN d6_41 (pc' := 42) rfl rfl rfl ?_
    refine K.getf d6_42 (pc' := 45) rfl (host := "") (Or.inl (hw _ (List.mem_of_getElem? (i := 23) rfl))) Via.refl P14 ?_
    refine K.aloadN d6_45 (pc' := 46) rfl rfl rfl ?_
    refine K.getf d6_46 (pc' := 49) rfl (host := "") (Or.inl (hw _ (List.mem_of_getElem? (i := 27) rfl))) Via.refl P16 ?_
    refine K.aloadN d6_49 (pc' := 50) rfl rfl rfl ?_
    refine K.getf d6_50 (pc' := 53) rfl (host := "") (Or.inl (hw _ (List.mem_of_getElem? (i := 34) rfl))) Via.refl P17 ?_
    refine K.if_ne d6_53 (pc1 := 56) rfl (by decide) (pc2 := 63) (by decide) (a := 1) rfl (fun c53 => ?_) (fun c53 => ?_)
    · refine K.aloadN d6_63 (pc' := 64) rfl rfl rfl ?_
      refine K.getf d6_64 (pc' := 67) rfl (host := "") (Or.inl (hw _ (List.mem_of_getElem? (i := 21) rfl))) Via.refl P13 ?_
      refine K.aloadN d6_67 (pc' := 68) rfl rfl rfl ?_
      refine K.getf d6_68 (pc' := 71) rfl (host := "") (Or.inl (hw _ (List.mem_of_getElem? (i := 34) rfl))) Via.refl P17 ?_
      refine K.iconst d6_71 (pc' := 72) rfl (z := 1) rfl ?_
      refine K.isub d6_72 (pc' := 73) rfl (z := (0 : Int32)) (by decide) ?_
      refine K.iald d6_73 (pc' := 74) rfl P24 (i := 0) rfl rfl ?_
      refine K.aloadN d6_74 (pc' := 75) rfl rfl rfl ?_
      refine K.getf d6_75 (pc' := 78) rfl (host := "") (Or.inl (hw _ (List.mem_of_getElem? (i := 34) rfl))) Via.refl P17 ?_
      refine K.if_le d6_78 (pc1 := 81) rfl (by decide) (pc2 := 85) (by decide) (a := 1) rfl (fun c78 => ?_) (fun c78 => ?_)
      · exfalso; omega
      · refine K.iconst d6_81 (pc' := 82) rfl (z := 1) rfl ?_
        refine K.goto d6_82 (by decide) (pc' := 86) (by decide) ?_
        refine K.callv (z := (⟨"com/example/nestwire/nestwire/codec/Header", "read", "([BIIZ)V"⟩ : MethodName)) (argsL := [(.ref eb), (.int p), (.int e0), (.int (1 : Int32))]) (rest := []) d6_86 (pc' := 89) rfl (c_rd1 l Z a0 hw n0 h (hd := hd) (eb := eb) (p := p) (lim := e0) (nz := (1 : Int32)) (vs := vs) (b := b) (l0 := l0) (s0 := s0) (g0 := g0) (b1 := b1) P2 P21 P22 P23 P25 P4 (Ne.symm P10) hv hp hb hlim hv1 hb1) P2 (hw _ (List.mem_of_getElem? (i := 50) rfl)) (hw _ (List.mem_of_getElem? (i := 51) rfl)) (nf_sel (hw _ (List.mem_of_getElem? (i := 53) rfl)) rfl) (hw _ (List.mem_of_getElem? (i := 53) rfl)) (hw _ (List.mem_of_getElem? (i := 52) rfl)) (hw _ (List.mem_of_getElem? (i := 13) rfl)) (hw _ (List.mem_of_getElem? (i := 54) rfl)) (by decide) pd_2 rfl rfl (W := 0) (by simp [Value.category]) (by decide) (by decide) (by decide) (by decide) (fun v_3 h_1 q_2 => ?_)
        obtain ⟨ps, pl, rfl, K_4, hpl_rd, f_5, f_6, f_7⟩ := q_2
        have f_8 : Exa Z h_1 a "com/example/nestwire/nestwire/codec/EncodingWalker" := P1.keep K_4
        have f_9 : Exa Z h_1 hd "com/example/nestwire/nestwire/codec/Header" := P2.keep K_4
        have f_10 : Fld Z h_1 a "com/example/nestwire/nestwire/codec/EncodingWalker" "header" "Lcom/example/nestwire/nestwire/codec/Header;" (.ref hd) := P12.keep K_4 (ninS P6 nin0)
        have f_11 : Fld Z h_1 a "com/example/nestwire/nestwire/codec/EncodingWalker" "ends" "[I" (.ref en) := P13.keep K_4 (ninS P6 nin0)
        have f_12 : Fld Z h_1 a "com/example/nestwire/nestwire/codec/EncodingWalker" "encoding" "[B" (.ref eb) := P14.keep K_4 (ninS P6 nin0)
        have f_13 : Fld Z h_1 a "com/example/nestwire/nestwire/codec/EncodingWalker" "end" "I" (.int n) := P15.keep K_4 (ninS P6 nin0)
        have f_14 : Fld Z h_1 a "com/example/nestwire/nestwire/codec/EncodingWalker" "position" "I" (.int p) := P16.keep K_4 (ninS P6 nin0)
        have f_15 : Fld Z h_1 a "com/example/nestwire/nestwire/codec/EncodingWalker" "depth" "I" (.int (1 : Int32)) := P17.keep K_4 (ninS P6 nin0)
        have f_16 : Fld Z h_1 a "com/example/nestwire/nestwire/codec/EncodingWalker" "started" "Z" (.int st0) := P18.keep K_4 (ninS P6 nin0)
        have f_17 : Fld Z h_1 a "com/example/nestwire/nestwire/codec/EncodingWalker" "peeked" "Z" (.int (0 : Int32)) := P19.keep K_4 (ninS P6 nin0)
        have f_18 : Fld Z h_1 a "com/example/nestwire/nestwire/codec/EncodingWalker" "itemStart" "I" (.int i0) := P20.keep K_4 (ninS P6 nin0)
        have f_22 : Ary Z h_1 en .int [(.int e0), (.int e1), (.int (0 : Int32)), (.int (0 : Int32)), (.int (0 : Int32)), (.int (0 : Int32)), (.int (0 : Int32)), (.int (0 : Int32)), (.int (0 : Int32)), (.int (0 : Int32)), (.int (0 : Int32)), (.int (0 : Int32)), (.int (0 : Int32)), (.int (0 : Int32)), (.int (0 : Int32)), (.int (0 : Int32))] := P24.keep K_4 (ninS (Ne.symm P9) nin0)
        have f_23 : Ary Z h_1 eb .byte vs := P25.keep K_4 (ninS (Ne.symm P10) nin0)
        have kp_24 : Keep h h_1 [a, hd] := (Keep.refl h [a, hd]).trans K_4 (allS (Or.inl (by simp)) all0)
        show G h_1 0 0 (mkF m 89 #[.val (.ref a)] [])
        refine K.aloadN d6_89 (pc' := 90) rfl rfl rfl ?_
        refine K.aloadN d6_90 (pc' := 91) rfl rfl rfl ?_
        refine K.getf d6_91 (pc' := 94) rfl (host := "") (Or.inl (hw _ (List.mem_of_getElem? (i := 27) rfl))) Via.refl f_14 ?_
        refine K.putf d6_94 (pc' := 97) rfl (host := "") (Or.inl (hw _ (List.mem_of_getElem? (i := 74) rfl))) Via.refl f_18 f_8 (Or.inl (hw _ (List.mem_of_getElem? (i := 75) rfl))) (hw _ (List.mem_of_getElem? (i := 3) rfl)) (ty := .int) (by decide) rfl rfl P3 (fun h_25 W_26 => ?_)
        have f_27 : Exa Z h_25 a "com/example/nestwire/nestwire/codec/EncodingWalker" := f_8.wr W_26
        have f_28 : Exa Z h_25 hd "com/example/nestwire/nestwire/codec/Header" := f_9.wr W_26
        have f_29 : Fld Z h_25 a "com/example/nestwire/nestwire/codec/EncodingWalker" "header" "Lcom/example/nestwire/nestwire/codec/Header;" (.ref hd) := f_10.other W_26 (Or.inr (slot_ne (Or.inr (hw _ (List.mem_of_getElem? (i := 19) rfl))) (Or.inl (hw _ (List.mem_of_getElem? (i := 75) rfl))) (by decide) (t := (.object "com/example/nestwire/nestwire/codec/Header")) (t' := .int) (by decide) (by decide)))
        have f_30 : Fld Z h_25 a "com/example/nestwire/nestwire/codec/EncodingWalker" "ends" "[I" (.ref en) := f_11.other W_26 (Or.inr (slot_ne (Or.inl (hw _ (List.mem_of_getElem? (i := 22) rfl))) (Or.inl (hw _ (List.mem_of_getElem? (i := 75) rfl))) (by decide) (t := (.array .int)) (t' := .int) (by decide) (by decide)))
        have f_31 : Fld Z h_25 a "com/example/nestwire/nestwire/codec/EncodingWalker" "encoding" "[B" (.ref eb) := f_12.other W_26 (Or.inr (slot_ne (Or.inr (hw _ (List.mem_of_getElem? (i := 24) rfl))) (Or.inl (hw _ (List.mem_of_getElem? (i := 75) rfl))) (by decide) (t := (.array .byte)) (t' := .int) (by decide) (by decide)))
        have f_32 : Fld Z h_25 a "com/example/nestwire/nestwire/codec/EncodingWalker" "end" "I" (.int n) := f_13.other W_26 (Or.inr (slot_ne (Or.inr (hw _ (List.mem_of_getElem? (i := 26) rfl))) (Or.inl (hw _ (List.mem_of_getElem? (i := 75) rfl))) (by decide) (t := .int) (t' := .int) (by decide) (by decide)))
        have f_33 : Fld Z h_25 a "com/example/nestwire/nestwire/codec/EncodingWalker" "position" "I" (.int p) := f_14.other W_26 (Or.inr (slot_ne (Or.inl (hw _ (List.mem_of_getElem? (i := 28) rfl))) (Or.inl (hw _ (List.mem_of_getElem? (i := 75) rfl))) (by decide) (t := .int) (t' := .int) (by decide) (by decide)))
        have f_34 : Fld Z h_25 a "com/example/nestwire/nestwire/codec/EncodingWalker" "depth" "I" (.int (1 : Int32)) := f_15.other W_26 (Or.inr (slot_ne (Or.inl (hw _ (List.mem_of_getElem? (i := 35) rfl))) (Or.inl (hw _ (List.mem_of_getElem? (i := 75) rfl))) (by decide) (t := .int) (t' := .int) (by decide) (by decide)))
        have f_35 : Fld Z h_25 a "com/example/nestwire/nestwire/codec/EncodingWalker" "started" "Z" (.int st0) := f_16.other W_26 (Or.inr (slot_ne (Or.inl (hw _ (List.mem_of_getElem? (i := 49) rfl))) (Or.inl (hw _ (List.mem_of_getElem? (i := 75) rfl))) (by decide) (t := .boolean) (t' := .int) (by decide) (by decide)))
        have f_36 : Fld Z h_25 a "com/example/nestwire/nestwire/codec/EncodingWalker" "peeked" "Z" (.int (0 : Int32)) := f_17.other W_26 (Or.inr (slot_ne (Or.inl (hw _ (List.mem_of_getElem? (i := 43) rfl))) (Or.inl (hw _ (List.mem_of_getElem? (i := 75) rfl))) (by decide) (t := .boolean) (t' := .int) (by decide) (by decide)))
        have f_37 : Fld Z h_25 a "com/example/nestwire/nestwire/codec/EncodingWalker" "itemStart" "I" (.int p) := f_18.same W_26
        have f_38 : Ary Z h_25 en .int [(.int e0), (.int e1), (.int (0 : Int32)), (.int (0 : Int32)), (.int (0 : Int32)), (.int (0 : Int32)), (.int (0 : Int32)), (.int (0 : Int32)), (.int (0 : Int32)), (.int (0 : Int32)), (.int (0 : Int32)), (.int (0 : Int32)), (.int (0 : Int32)), (.int (0 : Int32)), (.int (0 : Int32)), (.int (0 : Int32))] := f_22.other W_26 (Ne.symm P7)
        have f_39 : Ary Z h_25 eb .byte vs := f_23.other W_26 (Ne.symm P8)
        have f_40 : Fld Z h_25 hd "com/example/nestwire/nestwire/codec/Header" "isList" "Z" (.int (0 : Int32)) := f_5.other W_26 (Or.inl (Ne.symm P6))
        have f_41 : Fld Z h_25 hd "com/example/nestwire/nestwire/codec/Header" "payloadStart" "I" (.int ps) := f_6.other W_26 (Or.inl (Ne.symm P6))
        have f_42 : Fld Z h_25 hd "com/example/nestwire/nestwire/codec/Header" "payloadLength" "I" (.int pl) := f_7.other W_26 (Or.inl (Ne.symm P6))
        have kp_43 : Keep h h_25 [a, hd] := kp_24.wr W_26 (Or.inl (by simp))
        exact K.ret0 d6_97 (by decide) (by decide) ⟨ps, pl, rfl, kp_43, by exact hpl_rd, f_29, f_30, f_31, f_32, f_33, f_34, f_35, f_36, f_37, f_40, f_41, f_42⟩
    · exfalso; omega
  · exfalso; omega
set_option maxRecDepth 65536 in
set_option maxHeartbeats 40000000 in
theorem c_rh12 (l : Launch) (Z : State) (a0 : Array Value) (hw : ∀ d ∈ tables_1, d.before a0 Z = true) (n0 : Nat) (h : Heap) (a : Addr) (hd : Addr) (en : Addr) (eb : Addr) (n : Int32) (p : Int32) (i0 : Int32) (st0 : Int32) (l0 : Int32) (s0 : Int32) (g0 : Int32) (e0 : Int32) (e1 : Int32) (vs : List Value) (b : Int32) (P1 : Exa Z h a "com/example/nestwire/nestwire/codec/EncodingWalker") (P2 : Exa Z h hd "com/example/nestwire/nestwire/codec/Header") (P3 : n0 ≤ a) (P4 : n0 ≤ hd) (P5 : n0 ≤ en) (P6 : a ≠ hd) (P7 : a ≠ en) (P8 : a ≠ eb) (P9 : hd ≠ en) (P10 : hd ≠ eb) (P11 : en ≠ eb) (P12 : Fld Z h a "com/example/nestwire/nestwire/codec/EncodingWalker" "header" "Lcom/example/nestwire/nestwire/codec/Header;" (.ref hd)) (P13 : Fld Z h a "com/example/nestwire/nestwire/codec/EncodingWalker" "ends" "[I" (.ref en)) (P14 : Fld Z h a "com/example/nestwire/nestwire/codec/EncodingWalker" "encoding" "[B" (.ref eb)) (P15 : Fld Z h a "com/example/nestwire/nestwire/codec/EncodingWalker" "end" "I" (.int n)) (P16 : Fld Z h a "com/example/nestwire/nestwire/codec/EncodingWalker" "position" "I" (.int p)) (P17 : Fld Z h a "com/example/nestwire/nestwire/codec/EncodingWalker" "depth" "I" (.int (1 : Int32))) (P18 : Fld Z h a "com/example/nestwire/nestwire/codec/EncodingWalker" "started" "Z" (.int st0)) (P19 : Fld Z h a "com/example/nestwire/nestwire/codec/EncodingWalker" "peeked" "Z" (.int (0 : Int32))) (P20 : Fld Z h a "com/example/nestwire/nestwire/codec/EncodingWalker" "itemStart" "I" (.int i0)) (P21 : Fld Z h hd "com/example/nestwire/nestwire/codec/Header" "isList" "Z" (.int l0)) (P22 : Fld Z h hd "com/example/nestwire/nestwire/codec/Header" "payloadStart" "I" (.int s0)) (P23 : Fld Z h hd "com/example/nestwire/nestwire/codec/Header" "payloadLength" "I" (.int g0)) (P24 : Ary Z h en .int [(.int e0), (.int e1), (.int (0 : Int32)), (.int (0 : Int32)), (.int (0 : Int32)), (.int (0 : Int32)), (.int (0 : Int32)), (.int (0 : Int32)), (.int (0 : Int32)), (.int (0 : Int32)), (.int (0 : Int32)), (.int (0 : Int32)), (.int (0 : Int32)), (.int (0 : Int32)), (.int (0 : Int32)), (.int (0 : Int32))]) (P25 : Ary Z h eb .byte vs) (hv : vs[p.toInt.toNat]? = some (.int b)) (hp : 0 ≤ p.toInt ∧ p.toInt < 100) (hb : -64 ≤ b.toInt ∧ b.toInt ≤ -9) (hlim : e0.toInt < 200 ∧ p.toInt + 1 + (b.toInt + 64) ≤ e0.toInt) : MeetsW l Z n0 (⟨"com/example/nestwire/nestwire/codec/EncodingWalker", "readHeader", "()V"⟩ : MethodName) prog_9_method_15_code 1 none ({ frames := 3, cells := 0, slots := 0, locals := 48 } : Room) #[(.ref a)] h (fun v h' => ∃ (ps : Int32) (pl : Int32), v = none ∧ Keep h h' [a, hd] ∧ (ps.toInt = p.toInt + 1 ∧ pl.toInt = b.toInt + 64) ∧ Fld Z h' a "com/example/nestwire/nestwire/codec/EncodingWalker" "header" "Lcom/example/nestwire/nestwire/codec/Header;" (.ref hd) ∧ Fld Z h' a "com/example/nestwire/nestwire/codec/EncodingWalker" "ends" "[I" (.ref en) ∧ Fld Z h' a "com/example/nestwire/nestwire/codec/EncodingWalker" "encoding" "[B" (.ref eb) ∧ Fld Z h' a "com/example/nestwire/nestwire/codec/EncodingWalker" "end" "I" (.int n) ∧ Fld Z h' a "com/example/nestwire/nestwire/codec/EncodingWalker" "position" "I" (.int p) ∧ Fld Z h' a "com/example/nestwire/nestwire/codec/EncodingWalker" "depth" "I" (.int (1 : Int32)) ∧ Fld Z h' a "com/example/nestwire/nestwire/codec/EncodingWalker" "started" "Z" (.int st0) ∧ Fld Z h' a "com/example/nestwire/nestwire/codec/EncodingWalker" "peeked" "Z" (.int (0 : Int32)) ∧ Fld Z h' a "com/example/nestwire/nestwire/codec/EncodingWalker" "itemStart" "I" (.int p) ∧ Fld Z h' hd "com/example/nestwire/nestwire/codec/Header" "isList" "Z" (.int (1 : Int32)) ∧ Fld Z h' hd "com/example/nestwire/nestwire/codec/Header" "payloadStart" "I" (.int ps) ∧ Fld Z h' hd "com/example/nestwire/nestwire/codec/Header" "payloadLength" "I" (.int pl)) := by
  refine MeetsW.intro (plainFor_of_name pn_com_example_nestwire_nestwire_codec_EncodingWalker) (L0 := #[.val (.ref a)]) (fun m => by first | (simp [entryFrame, mkF, argsToLocals, Value.category]; done) | rfl) ?_
  intro m G K0
  have K : Cx l ({ frames := 3, cells := 0, slots := 0, locals := 48 } : Room) Z n0 _ "com/example/nestwire/nestwire/codec/EncodingWalker" "readHeader" prog_9_method_15_code 1 none m G := K0
  refine K.aloadN d6_0 (pc' := 1) rfl rfl rfl ?_
  refine K.getf d6_1 (pc' := 4) rfl (host := "") (Or.inl (hw _ (List.mem_of_getElem? (i := 34) rfl))) Via.refl P17 ?_
  refine K.if_ne d6_4 (pc1 := 7) rfl (by decide) (pc2 := 37) (by decide) (a := 1) rfl (fun c4 => ?_) (fun c4 => ?_)
  · refine K.aloadN d6_37 (pc' := 38) rfl rfl rfl ?_
    refine K.getf d6_38 (pc' := 41) rfl (host := "") (Or.inl (hw _ (List.mem_of_getElem? (i := 18) rfl))) Via.refl P12 ?_
    refine K.aloadN d6_41 (pc' := 42) rfl rfl rfl ?_
    refine K.getf d6_42 (pc' := 45) rfl (host := "") (Or.inl (hw _ (List.mem_of_getElem? (i := 23) rfl))) Via.refl P14 ?_
    refine K.aloadN d6_45 (pc' := 46) rfl rfl rfl ?_
    refine K.getf d6_46 (pc' := 49) rfl (host := "") (Or.inl (hw _ (List.mem_of_getElem? (i := 27) rfl))) Via.refl P16 ?_
    refine K.aloadN d6_49 (pc' := 50) rfl rfl rfl ?_
    refine K.getf d6_50 (pc' := 53) rfl (host := "") (Or.inl (hw _ (List.mem_of_getElem? (i := 34) rfl))) Via.refl P17 ?_
    refine K.if_ne d6_53 (pc1 := 56) rfl (by decide) (pc2 := 63) (by decide) (a := 1) rfl (fun c53 => ?_) (fun c53 => ?_)
    · refine K.aloadN d6_63 (pc' := 64) rfl rfl rfl ?_
      refine K.getf d6_64 (pc' := 67) rfl (host := "") (Or.inl (hw _ (List.mem_of_getElem? (i := 21) rfl))) Via.refl P13 ?_
      refine K.aloadN d6_67 (pc' := 68) rfl rfl rfl ?_
      refine K.getf d6_68 (pc' := 71) rfl (host := "") (Or.inl (hw _ (List.mem_of_getElem? (i := 34) rfl))) Via.refl P17 ?_
      refine K.iconst d6_71 (pc' := 72) rfl (z := 1) rfl ?_
      refine K.isub d6_72 (pc' := 73) rfl (z := (0 : Int32)) (by decide) ?_
      refine K.iald d6_73 (pc' := 74) rfl P24 (i := 0) rfl rfl ?_
      refine K.aloadN d6_74 (pc' := 75) rfl rfl rfl ?_
      refine K.getf d6_75 (pc' := 78) rfl (host := "") (Or.inl (hw _ (List.mem_of_getElem? (i := 34) rfl))) Via.refl P17 ?_
      refine K.if_le d6_78 (pc1 := 81) rfl (by decide) (pc2 := 85) (by decide) (a := 1) rfl (fun c78 => ?_) (fun c78 => ?_)
      · exfalso; omega
      · refine K.iconst d6_81 (pc' := 82) rfl (z := 1) rfl ?_
        refine K.goto d6_82 (by decide) (pc' := 86) (by decide) ?_
        refine K.callv (z := (⟨"com/example/nestwire/nestwire/codec/Header", "read", "([BIIZ)V"⟩ : MethodName)) (argsL := [(.ref eb), (.int p), (.int e0), (.int (1 : Int32))]) (rest := []) d6_86 (pc' := 89) rfl (c_rd2 l Z a0 hw n0 h (hd := hd) (eb := eb) (p := p) (lim := e0) (nz := (1 : Int32)) (vs := vs) (b := b) (l0 := l0) (s0 := s0) (g0 := g0) P2 P21 P22 P23 P25 P4 (Ne.symm P10) hv hp hb hlim) P2 (hw _ (List.mem_of_getElem? (i := 50) rfl)) (hw _ (List.mem_of_getElem? (i := 51) rfl)) (nf_sel (hw _ (List.mem_of_getElem? (i := 53) rfl)) rfl) (hw _ (List.mem_of_getElem? (i := 53) rfl)) (hw _ (List.mem_of_getElem? (i := 52) rfl)) (hw _ (List.mem_of_getElem? (i := 13) rfl)) (hw _ (List.mem_of_getElem? (i := 54) rfl)) (by decide) pd_2 rfl rfl (W := 0) (by simp [Value.category]) (by decide) (by decide) (by decide) (by decide) (fun v_3 h_1 q_2 => ?_)
        obtain ⟨ps, pl, rfl, K_4, hpl_rd, f_5, f_6, f_7⟩ := q_2
        have f_8 : Exa Z h_1 a "com/example/nestwire/nestwire/codec/EncodingWalker" := P1.keep K_4
        have f_9 : Exa Z h_1 hd "com/example/nestwire/nestwire/codec/Header" := P2.keep K_4
        have f_10 : Fld Z h_1 a "com/example/nestwire/nestwire/codec/EncodingWalker" "header" "Lcom/example/nestwire/nestwire/codec/Header;" (.ref hd) := P12.keep K_4 (ninS P6 nin0)
        have f_11 : Fld Z h_1 a "com/example/nestwire/nestwire/codec/EncodingWalker" "ends" "[I" (.ref en) := P13.keep K_4 (ninS P6 nin0)
        have f_12 : Fld Z h_1 a "com/example/nestwire/nestwire/codec/EncodingWalker" "encoding" "[B" (.ref eb) := P14.keep K_4 (ninS P6 nin0)
        have f_13 : Fld Z h_1 a "com/example/nestwire/nestwire/codec/EncodingWalker" "end" "I" (.int n) := P15.keep K_4 (ninS P6 nin0)
        have f_14 : Fld Z h_1 a "com/example/nestwire/nestwire/codec/EncodingWalker" "position" "I" (.int p) := P16.keep K_4 (ninS P6 nin0)
        have f_15 : Fld Z h_1 a "com/example/nestwire/nestwire/codec/EncodingWalker" "depth" "I" (.int (1 : Int32)) := P17.keep K_4 (ninS P6 nin0)
        have f_16 : Fld Z h_1 a "com/example/nestwire/nestwire/codec/EncodingWalker" "started" "Z" (.int st0) := P18.keep K_4 (ninS P6 nin0)
        have f_17 : Fld Z h_1 a "com/example/nestwire/nestwire/codec/EncodingWalker" "peeked" "Z" (.int (0 : Int32)) := P19.keep K_4 (ninS P6 nin0)
        have f_18 : Fld Z h_1 a "com/example/nestwire/nestwire/codec/EncodingWalker" "itemStart" "I" (.int i0) := P20.keep K_4 (ninS P6 nin0)
        have f_22 : Ary Z h_1 en .int [(.int e0), (.int e1), (.int (0 : Int32)), (.int (0 : Int32)), (.int (0 : Int32)), (.int (0 : Int32)), (.int (0 : Int32)), (.int (0 : Int32)), (.int (0 : Int32)), (.int (0 : Int32)), (.int (0 : Int32)), (.int (0 : Int32)), (.int (0 : Int32)), (.int (0 : Int32)), (.int (0 : Int32)), (.int (0 : Int32))] := P24.keep K_4 (ninS (Ne.symm P9) nin0)
        have f_23 : Ary Z h_1 eb .byte vs := P25.keep K_4 (ninS (Ne.symm P10) nin0)
        have kp_24 : Keep h h_1 [a, hd] := (Keep.refl h [a, hd]).trans K_4 (allS (Or.inl (by simp)) all0)
        show G h_1 0 0 (mkF m 89 #[.val (.ref a)] [])
        refine K.aloadN d6_89 (pc' := 90) rfl rfl rfl ?_
        refine K.aloadN d6_90 (pc' := 91) rfl rfl rfl ?_
        refine K.getf d6_91 (pc' := 94) rfl (host := "") (Or.inl (hw _ (List.mem_of_getElem? (i := 27) rfl))) Via.refl f_14 ?_
        refine K.putf d6_94 (pc' := 97) rfl (host := "") (Or.inl (hw _ (List.mem_of_getElem? (i := 74) rfl))) Via.refl f_18 f_8 (Or.inl (hw _ (List.mem_of_getElem? (i := 75) rfl))) (hw _ (List.mem_of_getElem? (i := 3) rfl)) (ty := .int) (by decide) rfl rfl P3 (fun h_25 W_26 => ?_)
        have f_27 : Exa Z h_25 a "com/example/nestwire/nestwire/codec/EncodingWalker" := f_8.wr W_26
        have f_28 : Exa Z h_25 hd "com/example/nestwire/nestwire/codec/Header" := f_9.wr W_26
        have f_29 : Fld Z h_25 a "com/example/nestwire/nestwire/codec/EncodingWalker" "header" "Lcom/example/nestwire/nestwire/codec/Header;" (.ref hd) := f_10.other W_26 (Or.inr (slot_ne (Or.inr (hw _ (List.mem_of_getElem? (i := 19) rfl))) (Or.inl (hw _ (List.mem_of_getElem? (i := 75) rfl))) (by decide) (t := (.object "com/example/nestwire/nestwire/codec/Header")) (t' := .int) (by decide) (by decide)))
        have f_30 : Fld Z h_25 a "com/example/nestwire/nestwire/codec/EncodingWalker" "ends" "[I" (.ref en) := f_11.other W_26 (Or.inr (slot_ne (Or.inl (hw _ (List.mem_of_getElem? (i := 22) rfl))) (Or.inl (hw _ (List.mem_of_getElem? (i := 75) rfl))) (by decide) (t := (.array .int)) (t' := .int) (by decide) (by decide)))
        have f_31 : Fld Z h_25 a "com/example/nestwire/nestwire/codec/EncodingWalker" "encoding" "[B" (.ref eb) := f_12.other W_26 (Or.inr (slot_ne (Or.inr (hw _ (List.mem_of_getElem? (i := 24) rfl))) (Or.inl (hw _ (List.mem_of_getElem? (i := 75) rfl))) (by decide) (t := (.array .byte)) (t' := .int) (by decide) (by decide)))
        have f_32 : Fld Z h_25 a "com/example/nestwire/nestwire/codec/EncodingWalker" "end" "I" (.int n) := f_13.other W_26 (Or.inr (slot_ne (Or.inr (hw _ (List.mem_of_getElem? (i := 26) rfl))) (Or.inl (hw _ (List.mem_of_getElem? (i := 75) rfl))) (by decide) (t := .int) (t' := .int) (by decide) (by decide)))
        have f_33 : Fld Z h_25 a "com/example/nestwire/nestwire/codec/EncodingWalker" "position" "I" (.int p) := f_14.other W_26 (Or.inr (slot_ne (Or.inl (hw _ (List.mem_of_getElem? (i := 28) rfl))) (Or.inl (hw _ (List.mem_of_getElem? (i := 75) rfl))) (by decide) (t := .int) (t' := .int) (by decide) (by decide)))
        have f_34 : Fld Z h_25 a "com/example/nestwire/nestwire/codec/EncodingWalker" "depth" "I" (.int (1 : Int32)) := f_15.other W_26 (Or.inr (slot_ne (Or.inl (hw _ (List.mem_of_getElem? (i := 35) rfl))) (Or.inl (hw _ (List.mem_of_getElem? (i := 75) rfl))) (by decide) (t := .int) (t' := .int) (by decide) (by decide)))
        have f_35 : Fld Z h_25 a "com/example/nestwire/nestwire/codec/EncodingWalker" "started" "Z" (.int st0) := f_16.other W_26 (Or.inr (slot_ne (Or.inl (hw _ (List.mem_of_getElem? (i := 49) rfl))) (Or.inl (hw _ (List.mem_of_getElem? (i := 75) rfl))) (by decide) (t := .boolean) (t' := .int) (by decide) (by decide)))
        have f_36 : Fld Z h_25 a "com/example/nestwire/nestwire/codec/EncodingWalker" "peeked" "Z" (.int (0 : Int32)) := f_17.other W_26 (Or.inr (slot_ne (Or.inl (hw _ (List.mem_of_getElem? (i := 43) rfl))) (Or.inl (hw _ (List.mem_of_getElem? (i := 75) rfl))) (by decide) (t := .boolean) (t' := .int) (by decide) (by decide)))
        have f_37 : Fld Z h_25 a "com/example/nestwire/nestwire/codec/EncodingWalker" "itemStart" "I" (.int p) := f_18.same W_26
        have f_38 : Ary Z h_25 en .int [(.int e0), (.int e1), (.int (0 : Int32)), (.int (0 : Int32)), (.int (0 : Int32)), (.int (0 : Int32)), (.int (0 : Int32)), (.int (0 : Int32)), (.int (0 : Int32)), (.int (0 : Int32)), (.int (0 : Int32)), (.int (0 : Int32)), (.int (0 : Int32)), (.int (0 : Int32)), (.int (0 : Int32)), (.int (0 : Int32))] := f_22.other W_26 (Ne.symm P7)
        have f_39 : Ary Z h_25 eb .byte vs := f_23.other W_26 (Ne.symm P8)
        have f_40 : Fld Z h_25 hd "com/example/nestwire/nestwire/codec/Header" "isList" "Z" (.int (1 : Int32)) := f_5.other W_26 (Or.inl (Ne.symm P6))
        have f_41 : Fld Z h_25 hd "com/example/nestwire/nestwire/codec/Header" "payloadStart" "I" (.int ps) := f_6.other W_26 (Or.inl (Ne.symm P6))
        have f_42 : Fld Z h_25 hd "com/example/nestwire/nestwire/codec/Header" "payloadLength" "I" (.int pl) := f_7.other W_26 (Or.inl (Ne.symm P6))
        have kp_43 : Keep h h_25 [a, hd] := kp_24.wr W_26 (Or.inl (by simp))
        exact K.ret0 d6_97 (by decide) (by decide) ⟨ps, pl, rfl, kp_43, by exact hpl_rd, f_29, f_30, f_31, f_32, f_33, f_34, f_35, f_36, f_37, f_40, f_41, f_42⟩
    · exfalso; omega
  · exfalso; omega
set_option maxRecDepth 65536 in
set_option maxHeartbeats 40000000 in
theorem c_rh20 (l : Launch) (Z : State) (a0 : Array Value) (hw : ∀ d ∈ tables_1, d.before a0 Z = true) (n0 : Nat) (h : Heap) (a : Addr) (hd : Addr) (en : Addr) (eb : Addr) (n : Int32) (p : Int32) (i0 : Int32) (st0 : Int32) (l0 : Int32) (s0 : Int32) (g0 : Int32) (e0 : Int32) (e1 : Int32) (vs : List Value) (b : Int32) (P1 : Exa Z h a "com/example/nestwire/nestwire/codec/EncodingWalker") (P2 : Exa Z h hd "com/example/nestwire/nestwire/codec/Header") (P3 : n0 ≤ a) (P4 : n0 ≤ hd) (P5 : n0 ≤ en) (P6 : a ≠ hd) (P7 : a ≠ en) (P8 : a ≠ eb) (P9 : hd ≠ en) (P10 : hd ≠ eb) (P11 : en ≠ eb) (P12 : Fld Z h a "com/example/nestwire/nestwire/codec/EncodingWalker" "header" "Lcom/example/nestwire/nestwire/codec/Header;" (.ref hd)) (P13 : Fld Z h a "com/example/nestwire/nestwire/codec/EncodingWalker" "ends" "[I" (.ref en)) (P14 : Fld Z h a "com/example/nestwire/nestwire/codec/EncodingWalker" "encoding" "[B" (.ref eb)) (P15 : Fld Z h a "com/example/nestwire/nestwire/codec/EncodingWalker" "end" "I" (.int n)) (P16 : Fld Z h a "com/example/nestwire/nestwire/codec/EncodingWalker" "position" "I" (.int p)) (P17 : Fld Z h a "com/example/nestwire/nestwire/codec/EncodingWalker" "depth" "I" (.int (2 : Int32))) (P18 : Fld Z h a "com/example/nestwire/nestwire/codec/EncodingWalker" "started" "Z" (.int st0)) (P19 : Fld Z h a "com/example/nestwire/nestwire/codec/EncodingWalker" "peeked" "Z" (.int (0 : Int32))) (P20 : Fld Z h a "com/example/nestwire/nestwire/codec/EncodingWalker" "itemStart" "I" (.int i0)) (P21 : Fld Z h hd "com/example/nestwire/nestwire/codec/Header" "isList" "Z" (.int l0)) (P22 : Fld Z h hd "com/example/nestwire/nestwire/codec/Header" "payloadStart" "I" (.int s0)) (P23 : Fld Z h hd "com/example/nestwire/nestwire/codec/Header" "payloadLength" "I" (.int g0)) (P24 : Ary Z h en .int [(.int e0), (.int e1), (.int (0 : Int32)), (.int (0 : Int32)), (.int (0 : Int32)), (.int (0 : Int32)), (.int (0 : Int32)), (.int (0 : Int32)), (.int (0 : Int32)), (.int (0 : Int32)), (.int (0 : Int32)), (.int (0 : Int32)), (.int (0 : Int32)), (.int (0 : Int32)), (.int (0 : Int32)), (.int (0 : Int32))]) (P25 : Ary Z h eb .byte vs) (hv : vs[p.toInt.toNat]? = some (.int b)) (hp : 0 ≤ p.toInt ∧ p.toInt < 100) (hb : 0 ≤ b.toInt ∧ b.toInt < 128) (hlim : e1.toInt < 200 ∧ p.toInt + 1 ≤ e1.toInt) : MeetsW l Z n0 (⟨"com/example/nestwire/nestwire/codec/EncodingWalker", "readHeader", "()V"⟩ : MethodName) prog_9_method_15_code 1 none ({ frames := 3, cells := 0, slots := 0, locals := 48 } : Room) #[(.ref a)] h (fun v h' => ∃ (pl : Int32), v = none ∧ Keep h h' [a, hd] ∧ (pl.toInt = 1) ∧ Fld Z h' a "com/example/nestwire/nestwire/codec/EncodingWalker" "header" "Lcom/example/nestwire/nestwire/codec/Header;" (.ref hd) ∧ Fld Z h' a "com/example/nestwire/nestwire/codec/EncodingWalker" "ends" "[I" (.ref en) ∧ Fld Z h' a "com/example/nestwire/nestwire/codec/EncodingWalker" "encoding" "[B" (.ref eb) ∧ Fld Z h' a "com/example/nestwire/nestwire/codec/EncodingWalker" "end" "I" (.int n) ∧ Fld Z h' a "com/example/nestwire/nestwire/codec/EncodingWalker" "position" "I" (.int p) ∧ Fld Z h' a "com/example/nestwire/nestwire/codec/EncodingWalker" "depth" "I" (.int (2 : Int32)) ∧ Fld Z h' a "com/example/nestwire/nestwire/codec/EncodingWalker" "started" "Z" (.int st0) ∧ Fld Z h' a "com/example/nestwire/nestwire/codec/EncodingWalker" "peeked" "Z" (.int (0 : Int32)) ∧ Fld Z h' a "com/example/nestwire/nestwire/codec/EncodingWalker" "itemStart" "I" (.int p) ∧ Fld Z h' hd "com/example/nestwire/nestwire/codec/Header" "isList" "Z" (.int (0 : Int32)) ∧ Fld Z h' hd "com/example/nestwire/nestwire/codec/Header" "payloadStart" "I" (.int p) ∧ Fld Z h' hd "com/example/nestwire/nestwire/codec/Header" "payloadLength" "I" (.int pl)) := by
  refine MeetsW.intro (plainFor_of_name pn_com_example_nestwire_nestwire_codec_EncodingWalker) (L0 := #[.val (.ref a)]) (fun m => by first | (simp [entryFrame, mkF, argsToLocals, Value.category]; done) | rfl) ?_
  intro m G K0
  have K : Cx l ({ frames := 3, cells := 0, slots := 0, locals := 48 } : Room) Z n0 _ "com/example/nestwire/nestwire/codec/EncodingWalker" "readHeader" prog_9_method_15_code 1 none m G := K0
  refine K.aloadN d6_0 (pc' := 1) rfl rfl rfl ?_
  refine K.getf d6_1 (pc' := 4) rfl (host := "") (Or.inl (hw _ (List.mem_of_getElem? (i := 34) rfl))) Via.refl P17 ?_
  refine K.if_ne d6_4 (pc1 := 7) rfl (by decide) (pc2 := 37) (by decide) (a := 2) rfl (fun c4 => ?_) (fun c4 => ?_)
  · refine K.aloadN d6_37 (pc' := 38) rfl rfl rfl ?_
    refine K.getf d6_38 (pc' := 41) rfl (host := "") (Or.inl (hw _ (List.mem_of_getElem? (i := 18) rfl))) Via.refl P12 ?_
    refine K.aloadN d6_41 (pc' := 42) rfl rfl rfl ?_
    refine K.getf d6_42 (pc' := 45) rfl (host := "") (Or.inl (hw _ (List.mem_of_getElem? (i := 23) rfl))) Via.refl P14 ?_
    refine K.aloadN d6_45 (pc' := 46) rfl rfl rfl ?_
    refine K.getf d6_46 (pc' := 49) rfl (host := "") (Or.inl (hw _ (List.mem_of_getElem? (i := 27) rfl))) Via.refl P16 ?_
    refine K.aloadN d6_49 (pc' := 50) rfl rfl rfl ?_
    refine K.getf d6_50 (pc' := 53) rfl (host := "") (Or.inl (hw _ (List.mem_of_getElem? (i := 34) rfl))) Via.refl P17 ?_
    refine K.if_ne d6_53 (pc1 := 56) rfl (by decide) (pc2 := 63) (by decide) (a := 2) rfl (fun c53 => ?_) (fun c53 => ?_)
    · refine K.aloadN d6_63 (pc' := 64) rfl rfl rfl ?_
      refine K.getf d6_64 (pc' := 67) rfl (host := "") (Or.inl (hw _ (List.mem_of_getElem? (i := 21) rfl))) Via.refl P13 ?_
      refine K.aloadN d6_67 (pc' := 68) rfl rfl rfl ?_
      refine K.getf d6_68 (pc' := 71) rfl (host := "") (Or.inl (hw _ (List.mem_of_getElem? (i := 34) rfl))) Via.refl P17 ?_
      refine K.iconst d6_71 (pc' := 72) rfl (z := 1) rfl ?_
      refine K.isub d6_72 (pc' := 73) rfl (z := (1 : Int32)) (by decide) ?_
      refine K.iald d6_73 (pc' := 74) rfl P24 (i := 1) rfl rfl ?_
      refine K.aloadN d6_74 (pc' := 75) rfl rfl rfl ?_
      refine K.getf d6_75 (pc' := 78) rfl (host := "") (Or.inl (hw _ (List.mem_of_getElem? (i := 34) rfl))) Via.refl P17 ?_
      refine K.if_le d6_78 (pc1 := 81) rfl (by decide) (pc2 := 85) (by decide) (a := 2) rfl (fun c78 => ?_) (fun c78 => ?_)
      · exfalso; omega
      · refine K.iconst d6_81 (pc' := 82) rfl (z := 1) rfl ?_
        refine K.goto d6_82 (by decide) (pc' := 86) (by decide) ?_
        refine K.callv (z := (⟨"com/example/nestwire/nestwire/codec/Header", "read", "([BIIZ)V"⟩ : MethodName)) (argsL := [(.ref eb), (.int p), (.int e1), (.int (1 : Int32))]) (rest := []) d6_86 (pc' := 89) rfl (c_rd0 l Z a0 hw n0 h (hd := hd) (eb := eb) (p := p) (lim := e1) (nz := (1 : Int32)) (vs := vs) (b := b) (l0 := l0) (s0 := s0) (g0 := g0) P2 P21 P22 P23 P25 P4 (Ne.symm P10) hv hp hb hlim) P2 (hw _ (List.mem_of_getElem? (i := 50) rfl)) (hw _ (List.mem_of_getElem? (i := 51) rfl)) (nf_sel (hw _ (List.mem_of_getElem? (i := 53) rfl)) rfl) (hw _ (List.mem_of_getElem? (i := 53) rfl)) (hw _ (List.mem_of_getElem? (i := 52) rfl)) (hw _ (List.mem_of_getElem? (i := 13) rfl)) (hw _ (List.mem_of_getElem? (i := 54) rfl)) (by decide) pd_2 rfl rfl (W := 0) (by simp [Value.category]) (by decide) (by decide) (by decide) (by decide) (fun v_3 h_1 q_2 => ?_)
        obtain ⟨pl, rfl, K_4, hpl_rd, f_5, f_6, f_7⟩ := q_2
        have f_8 : Exa Z h_1 a "com/example/nestwire/nestwire/codec/EncodingWalker" := P1.keep K_4
        have f_9 : Exa Z h_1 hd "com/example/nestwire/nestwire/codec/Header" := P2.keep K_4
        have f_10 : Fld Z h_1 a "com/example/nestwire/nestwire/codec/EncodingWalker" "header" "Lcom/example/nestwire/nestwire/codec/Header;" (.ref hd) := P12.keep K_4 (ninS P6 nin0)
        have f_11 : Fld Z h_1 a "com/example/nestwire/nestwire/codec/EncodingWalker" "ends" "[I" (.ref en) := P13.keep K_4 (ninS P6 nin0)
        have f_12 : Fld Z h_1 a "com/example/nestwire/nestwire/codec/EncodingWalker" "encoding" "[B" (.ref eb) := P14.keep K_4 (ninS P6 nin0)
        have f_13 : Fld Z h_1 a "com/example/nestwire/nestwire/codec/EncodingWalker" "end" "I" (.int n) := P15.keep K_4 (ninS P6 nin0)
        have f_14 : Fld Z h_1 a "com/example/nestwire/nestwire/codec/EncodingWalker" "position" "I" (.int p) := P16.keep K_4 (ninS P6 nin0)
        have f_15 : Fld Z h_1 a "com/example/nestwire/nestwire/codec/EncodingWalker" "depth" "I" (.int (2 : Int32)) := P17.keep K_4 (ninS P6 nin0)
        have f_16 : Fld Z h_1 a "com/example/nestwire/nestwire/codec/EncodingWalker" "started" "Z" (.int st0) := P18.keep K_4 (ninS P6 nin0)
        have f_17 : Fld Z h_1 a "com/example/nestwire/nestwire/codec/EncodingWalker" "peeked" "Z" (.int (0 : Int32)) := P19.keep K_4 (ninS P6 nin0)
        have f_18 : Fld Z h_1 a "com/example/nestwire/nestwire/codec/EncodingWalker" "itemStart" "I" (.int i0) := P20.keep K_4 (ninS P6 nin0)
        have f_22 : Ary Z h_1 en .int [(.int e0), (.int e1), (.int (0 : Int32)), (.int (0 : Int32)), (.int (0 : Int32)), (.int (0 : Int32)), (.int (0 : Int32)), (.int (0 : Int32)), (.int (0 : Int32)), (.int (0 : Int32)), (.int (0 : Int32)), (.int (0 : Int32)), (.int (0 : Int32)), (.int (0 : Int32)), (.int (0 : Int32)), (.int (0 : Int32))] := P24.keep K_4 (ninS (Ne.symm P9) nin0)
        have f_23 : Ary Z h_1 eb .byte vs := P25.keep K_4 (ninS (Ne.symm P10) nin0)
        have kp_24 : Keep h h_1 [a, hd] := (Keep.refl h [a, hd]).trans K_4 (allS (Or.inl (by simp)) all0)
        show G h_1 0 0 (mkF m 89 #[.val (.ref a)] [])
        refine K.aloadN d6_89 (pc' := 90) rfl rfl rfl ?_
        refine K.aloadN d6_90 (pc' := 91) rfl rfl rfl ?_
        refine K.getf d6_91 (pc' := 94) rfl (host := "") (Or.inl (hw _ (List.mem_of_getElem? (i := 27) rfl))) Via.refl f_14 ?_
        refine K.putf d6_94 (pc' := 97) rfl (host := "") (Or.inl (hw _ (List.mem_of_getElem? (i := 74) rfl))) Via.refl f_18 f_8 (Or.inl (hw _ (List.mem_of_getElem? (i := 75) rfl))) (hw _ (List.mem_of_getElem? (i := 3) rfl)) (ty := .int) (by decide) rfl rfl P3 (fun h_25 W_26 => ?_)
        have f_27 : Exa Z h_25 a "com/example/nestwire/nestwire/codec/EncodingWalker" := f_8.wr W_26
        have f_28 : Exa Z h_25 hd "com/example/nestwire/nestwire/codec/Header" := f_9.wr W_26
        have f_29 : Fld Z h_25 a "com/example/nestwire/nestwire/codec/EncodingWalker" "header" "Lcom/example/nestwire/nestwire/codec/Header;" (.ref hd) := f_10.other W_26 (Or.inr (slot_ne (Or.inr (hw _ (List.mem_of_getElem? (i := 19) rfl))) (Or.inl (hw _ (List.mem_of_getElem? (i := 75) rfl))) (by decide) (t := (.object "com/example/nestwire/nestwire/codec/Header")) (t' := .int) (by decide) (by decide)))
        have f_30 : Fld Z h_25 a "com/example/nestwire/nestwire/codec/EncodingWalker" "ends" "[I" (.ref en) := f_11.other W_26 (Or.inr (slot_ne (Or.inl (hw _ (List.mem_of_getElem? (i := 22) rfl))) (Or.inl (hw _ (List.mem_of_getElem? (i := 75) rfl))) (by decide) (t := (.array .int)) (t' := .int) (by decide) (by decide)))
        have f_31 : Fld Z h_25 a "com/example/nestwire/nestwire/codec/EncodingWalker" "encoding" "[B" (.ref eb) := f_12.other W_26 (Or.inr (slot_ne (Or.inr (hw _ (List.mem_of_getElem? (i := 24) rfl))) (Or.inl (hw _ (List.mem_of_getElem? (i := 75) rfl))) (by decide) (t := (.array .byte)) (t' := .int) (by decide) (by decide)))
        have f_32 : Fld Z h_25 a "com/example/nestwire/nestwire/codec/EncodingWalker" "end" "I" (.int n) := f_13.other W_26 (Or.inr (slot_ne (Or.inr (hw _ (List.mem_of_getElem? (i := 26) rfl))) (Or.inl (hw _ (List.mem_of_getElem? (i := 75) rfl))) (by decide) (t := .int) (t' := .int) (by decide) (by decide)))
        have f_33 : Fld Z h_25 a "com/example/nestwire/nestwire/codec/EncodingWalker" "position" "I" (.int p) := f_14.other W_26 (Or.inr (slot_ne (Or.inl (hw _ (List.mem_of_getElem? (i := 28) rfl))) (Or.inl (hw _ (List.mem_of_getElem? (i := 75) rfl))) (by decide) (t := .int) (t' := .int) (by decide) (by decide)))
        have f_34 : Fld Z h_25 a "com/example/nestwire/nestwire/codec/EncodingWalker" "depth" "I" (.int (2 : Int32)) := f_15.other W_26 (Or.inr (slot_ne (Or.inl (hw _ (List.mem_of_getElem? (i := 35) rfl))) (Or.inl (hw _ (List.mem_of_getElem? (i := 75) rfl))) (by decide) (t := .int) (t' := .int) (by decide) (by decide)))
        have f_35 : Fld Z h_25 a "com/example/nestwire/nestwire/codec/EncodingWalker" "started" "Z" (.int st0) := f_16.other W_26 (Or.inr (slot_ne (Or.inl (hw _ (List.mem_of_getElem? (i := 49) rfl))) (Or.inl (hw _ (List.mem_of_getElem? (i := 75) rfl))) (by decide) (t := .boolean) (t' := .int) (by decide) (by decide)))
        have f_36 : Fld Z h_25 a "com/example/nestwire/nestwire/codec/EncodingWalker" "peeked" "Z" (.int (0 : Int32)) := f_17.other W_26 (Or.inr (slot_ne (Or.inl (hw _ (List.mem_of_getElem? (i := 43) rfl))) (Or.inl (hw _ (List.mem_of_getElem? (i := 75) rfl))) (by decide) (t := .boolean) (t' := .int) (by decide) (by decide)))
        have f_37 : Fld Z h_25 a "com/example/nestwire/nestwire/codec/EncodingWalker" "itemStart" "I" (.int p) := f_18.same W_26
        have f_38 : Ary Z h_25 en .int [(.int e0), (.int e1), (.int (0 : Int32)), (.int (0 : Int32)), (.int (0 : Int32)), (.int (0 : Int32)), (.int (0 : Int32)), (.int (0 : Int32)), (.int (0 : Int32)), (.int (0 : Int32)), (.int (0 : Int32)), (.int (0 : Int32)), (.int (0 : Int32)), (.int (0 : Int32)), (.int (0 : Int32)), (.int (0 : Int32))] := f_22.other W_26 (Ne.symm P7)
        have f_39 : Ary Z h_25 eb .byte vs := f_23.other W_26 (Ne.symm P8)
        have f_40 : Fld Z h_25 hd "com/example/nestwire/nestwire/codec/Header" "isList" "Z" (.int (0 : Int32)) := f_5.other W_26 (Or.inl (Ne.symm P6))
        have f_41 : Fld Z h_25 hd "com/example/nestwire/nestwire/codec/Header" "payloadStart" "I" (.int p) := f_6.other W_26 (Or.inl (Ne.symm P6))
        have f_42 : Fld Z h_25 hd "com/example/nestwire/nestwire/codec/Header" "payloadLength" "I" (.int pl) := f_7.other W_26 (Or.inl (Ne.symm P6))
        have kp_43 : Keep h h_25 [a, hd] := kp_24.wr W_26 (Or.inl (by simp))
        exact K.ret0 d6_97 (by decide) (by decide) ⟨pl, rfl, kp_43, by exact hpl_rd, f_29, f_30, f_31, f_32, f_33, f_34, f_35, f_36, f_37, f_40, f_41, f_42⟩
    · exfalso; omega
  · exfalso; omega
theorem d5_0 : decode prog_9_method_9_code 0 = .ok (.aload_n 0, 1) := by decide +kernel
theorem d5_1 : decode prog_9_method_9_code 1 = .ok (.invokevirtual 55, 3) := by decide +kernel
theorem pd_3 : parseMethodDescriptor "()Z" = some ⟨[], some .boolean⟩ := by decide +kernel
theorem d5_4 : decode prog_9_method_9_code 4 = .ok (.ifCond .eq 17, 3) := by decide +kernel
theorem d5_7 : decode prog_9_method_9_code 7 = .ok (.aload_n 0, 1) := by decide +kernel
theorem d5_8 : decode prog_9_method_9_code 8 = .ok (.dup, 1) := by decide +kernel
theorem d5_9 : decode prog_9_method_9_code 9 = .ok (.getfield 52, 3) := by decide +kernel
theorem d5_12 : decode prog_9_method_9_code 12 = .ok (.iconst 1, 1) := by decide +kernel
theorem d5_13 : decode prog_9_method_9_code 13 = .ok (.isub, 1) := by decide +kernel
theorem d5_14 : decode prog_9_method_9_code 14 = .ok (.putfield 52, 3) := by decide +kernel
theorem d5_17 : decode prog_9_method_9_code 17 = .ok (.getstatic 58, 3) := by decide +kernel
theorem d5_20 : decode prog_9_method_9_code 20 = .ok (.areturn, 1) := by decide +kernel
set_option maxRecDepth 65536 in
set_option maxHeartbeats 40000000 in
theorem c_nA1 (l : Launch) (Z : State) (a0 : Array Value) (hw : ∀ d ∈ tables_1, d.before a0 Z = true) (n0 : Nat) (h : Heap) (a : Addr) (hd : Addr) (en : Addr) (eb : Addr) (n : Int32) (p : Int32) (i0 : Int32) (st0 : Int32) (e0 : Int32) (e1 : Int32) (vs : List Value) (cE : Addr) (P1 : Exa Z h a "com/example/nestwire/nestwire/codec/EncodingWalker") (P2 : Exa Z h hd "com/example/nestwire/nestwire/codec/Header") (P3 : n0 ≤ a) (P4 : n0 ≤ hd) (P5 : n0 ≤ en) (P6 : a ≠ hd) (P7 : a ≠ en) (P8 : a ≠ eb) (P9 : hd ≠ en) (P10 : hd ≠ eb) (P11 : en ≠ eb) (P12 : Old Z n0 h) (P13 : Sta Z Z.heap "com/example/nestwire/nestwire/codec/RlpWalker$Step" "LIST_END" "Lcom/example/nestwire/nestwire/codec/RlpWalker$Step;" (.ref cE)) (P14 : Fld Z h a "com/example/nestwire/nestwire/codec/EncodingWalker" "header" "Lcom/example/nestwire/nestwire/codec/Header;" (.ref hd)) (P15 : Fld Z h a "com/example/nestwire/nestwire/codec/EncodingWalker" "ends" "[I" (.ref en)) (P16 : Fld Z h a "com/example/nestwire/nestwire/codec/EncodingWalker" "encoding" "[B" (.ref eb)) (P17 : Fld Z h a "com/example/nestwire/nestwire/codec/EncodingWalker" "end" "I" (.int n)) (P18 : Fld Z h a "com/example/nestwire/nestwire/codec/EncodingWalker" "position" "I" (.int p)) (P19 : Fld Z h a "com/example/nestwire/nestwire/codec/EncodingWalker" "depth" "I" (.int (1 : Int32))) (P20 : Fld Z h a "com/example/nestwire/nestwire/codec/EncodingWalker" "started" "Z" (.int st0)) (P21 : Fld Z h a "com/example/nestwire/nestwire/codec/EncodingWalker" "peeked" "Z" (.int (0 : Int32))) (P22 : Fld Z h a "com/example/nestwire/nestwire/codec/EncodingWalker" "itemStart" "I" (.int i0)) (P23 : Ary Z h en .int [(.int e0), (.int e1), (.int (0 : Int32)), (.int (0 : Int32)), (.int (0 : Int32)), (.int (0 : Int32)), (.int (0 : Int32)), (.int (0 : Int32)), (.int (0 : Int32)), (.int (0 : Int32)), (.int (0 : Int32)), (.int (0 : Int32)), (.int (0 : Int32)), (.int (0 : Int32)), (.int (0 : Int32)), (.int (0 : Int32))]) (P24 : Ary Z h eb .byte vs) (hA : p.toInt = e0.toInt) : MeetsW l Z n0 (⟨"com/example/nestwire/nestwire/codec/EncodingWalker", "next", "()Lcom/example/nestwire/nestwire/codec/RlpWalker$Step;"⟩ : MethodName) prog_9_method_9_code 1 (some (.object "com/example/nestwire/nestwire/codec/RlpWalker$Step")) ({ frames := 1, cells := 0, slots := 0, locals := 12 } : Room) #[(.ref a)] h (fun v h' => v = some (.ref cE) ∧ Keep h h' [a] ∧ Fld Z h' a "com/example/nestwire/nestwire/codec/EncodingWalker" "header" "Lcom/example/nestwire/nestwire/codec/Header;" (.ref hd) ∧ Fld Z h' a "com/example/nestwire/nestwire/codec/EncodingWalker" "ends" "[I" (.ref en) ∧ Fld Z h' a "com/example/nestwire/nestwire/codec/EncodingWalker" "encoding" "[B" (.ref eb) ∧ Fld Z h' a "com/example/nestwire/nestwire/codec/EncodingWalker" "end" "I" (.int n) ∧ Fld Z h' a "com/example/nestwire/nestwire/codec/EncodingWalker" "position" "I" (.int p) ∧ Fld Z h' a "com/example/nestwire/nestwire/codec/EncodingWalker" "depth" "I" (.int (0 : Int32)) ∧ Fld Z h' a "com/example/nestwire/nestwire/codec/EncodingWalker" "started" "Z" (.int st0) ∧ Fld Z h' a "com/example/nestwire/nestwire/codec/EncodingWalker" "peeked" "Z" (.int (0 : Int32)) ∧ Fld Z h' a "com/example/nestwire/nestwire/codec/EncodingWalker" "itemStart" "I" (.int i0)) := by
  refine MeetsW.intro (plainFor_of_name pn_com_example_nestwire_nestwire_codec_EncodingWalker) (L0 := #[.val (.ref a)]) (fun m => by first | (simp [entryFrame, mkF, argsToLocals, Value.category]; done) | rfl) ?_
  intro m G K0
  have K : Cx l ({ frames := 1, cells := 0, slots := 0, locals := 12 } : Room) Z n0 _ "com/example/nestwire/nestwire/codec/EncodingWalker" "next" prog_9_method_9_code 1 (some (.object "com/example/nestwire/nestwire/codec/RlpWalker$Step")) m G := K0
  refine K.aloadN d5_0 (pc' := 1) rfl rfl rfl ?_
  refine K.callv (z := (⟨"com/example/nestwire/nestwire/codec/EncodingWalker", "atListEnd", "()Z"⟩ : MethodName)) (argsL := []) (rest := []) d5_1 (pc' := 4) rfl (c_ale1 l Z a0 hw n0 h (a := a) (en := en) (p := p) (e0 := e0) (e1 := e1) P1 P19 P18 P15 P23) P1 (hw _ (List.mem_of_getElem? (i := 41) rfl)) (hw _ (List.mem_of_getElem? (i := 30) rfl)) (nf_sel (hw _ (List.mem_of_getElem? (i := 32) rfl)) rfl) (hw _ (List.mem_of_getElem? (i := 32) rfl)) (hw _ (List.mem_of_getElem? (i := 31) rfl)) (hw _ (List.mem_of_getElem? (i := 4) rfl)) (hw _ (List.mem_of_getElem? (i := 33) rfl)) (by decide) pd_3 rfl rfl (W := 0) (by simp [Value.category]) (by decide) (by decide) (by decide) (by decide) (fun v_3 h_1 q_2 => ?_)
  obtain ⟨rfl, rfl⟩ := q_2
  show G h 0 0 (mkF m 4 #[.val (.ref a)] [(.int (b2 (p.toInt = e0.toInt)))])
  refine K.ifeqB d5_4 (pc1 := 7) rfl (by decide) (pc2 := 21) (by decide) (fun c4 => ?_) (fun c4 => ?_)
  · exfalso; exact c4 hA
  · refine K.aloadN d5_7 (pc' := 8) rfl rfl rfl ?_
    refine K.dup d5_8 (pc' := 9) rfl rfl ?_
    refine K.getf d5_9 (pc' := 12) rfl (host := "") (Or.inl (hw _ (List.mem_of_getElem? (i := 34) rfl))) Via.refl P19 ?_
    refine K.iconst d5_12 (pc' := 13) rfl (z := 1) rfl ?_
    refine K.isub d5_13 (pc' := 14) rfl (z := (0 : Int32)) (by decide) ?_
    refine K.putf d5_14 (pc' := 17) rfl (host := "") (Or.inl (hw _ (List.mem_of_getElem? (i := 34) rfl))) Via.refl P19 P1 (Or.inl (hw _ (List.mem_of_getElem? (i := 35) rfl))) (hw _ (List.mem_of_getElem? (i := 3) rfl)) (ty := .int) (by decide) rfl rfl P3 (fun h_5 W_6 => ?_)
    have f_7 : Exa Z h_5 a "com/example/nestwire/nestwire/codec/EncodingWalker" := P1.wr W_6
    have f_8 : Exa Z h_5 hd "com/example/nestwire/nestwire/codec/Header" := P2.wr W_6
    have f_9 : Old Z n0 h_5 := P12.wr W_6 P3
    have f_10 : Fld Z h_5 a "com/example/nestwire/nestwire/codec/EncodingWalker" "header" "Lcom/example/nestwire/nestwire/codec/Header;" (.ref hd) := P14.other W_6 (Or.inr (slot_ne (Or.inr (hw _ (List.mem_of_getElem? (i := 19) rfl))) (Or.inl (hw _ (List.mem_of_getElem? (i := 35) rfl))) (by decide) (t := (.object "com/example/nestwire/nestwire/codec/Header")) (t' := .int) (by decide) (by decide)))
    have f_11 : Fld Z h_5 a "com/example/nestwire/nestwire/codec/EncodingWalker" "ends" "[I" (.ref en) := P15.other W_6 (Or.inr (slot_ne (Or.inl (hw _ (List.mem_of_getElem? (i := 22) rfl))) (Or.inl (hw _ (List.mem_of_getElem? (i := 35) rfl))) (by decide) (t := (.array .int)) (t' := .int) (by decide) (by decide)))
    have f_12 : Fld Z h_5 a "com/example/nestwire/nestwire/codec/EncodingWalker" "encoding" "[B" (.ref eb) := P16.other W_6 (Or.inr (slot_ne (Or.inr (hw _ (List.mem_of_getElem? (i := 24) rfl))) (Or.inl (hw _ (List.mem_of_getElem? (i := 35) rfl))) (by decide) (t := (.array .byte)) (t' := .int) (by decide) (by decide)))
    have f_13 : Fld Z h_5 a "com/example/nestwire/nestwire/codec/EncodingWalker" "end" "I" (.int n) := P17.other W_6 (Or.inr (slot_ne (Or.inr (hw _ (List.mem_of_getElem? (i := 26) rfl))) (Or.inl (hw _ (List.mem_of_getElem? (i := 35) rfl))) (by decide) (t := .int) (t' := .int) (by decide) (by decide)))
    have f_14 : Fld Z h_5 a "com/example/nestwire/nestwire/codec/EncodingWalker" "position" "I" (.int p) := P18.other W_6 (Or.inr (slot_ne (Or.inl (hw _ (List.mem_of_getElem? (i := 28) rfl))) (Or.inl (hw _ (List.mem_of_getElem? (i := 35) rfl))) (by decide) (t := .int) (t' := .int) (by decide) (by decide)))
    have f_15 : Fld Z h_5 a "com/example/nestwire/nestwire/codec/EncodingWalker" "depth" "I" (.int (0 : Int32)) := P19.same W_6
    have f_16 : Fld Z h_5 a "com/example/nestwire/nestwire/codec/EncodingWalker" "started" "Z" (.int st0) := P20.other W_6 (Or.inr (slot_ne (Or.inl (hw _ (List.mem_of_getElem? (i := 49) rfl))) (Or.inl (hw _ (List.mem_of_getElem? (i := 35) rfl))) (by decide) (t := .boolean) (t' := .int) (by decide) (by decide)))
    have f_17 : Fld Z h_5 a "com/example/nestwire/nestwire/codec/EncodingWalker" "peeked" "Z" (.int (0 : Int32)) := P21.other W_6 (Or.inr (slot_ne (Or.inl (hw _ (List.mem_of_getElem? (i := 43) rfl))) (Or.inl (hw _ (List.mem_of_getElem? (i := 35) rfl))) (by decide) (t := .boolean) (t' := .int) (by decide) (by decide)))
    have f_18 : Fld Z h_5 a "com/example/nestwire/nestwire/codec/EncodingWalker" "itemStart" "I" (.int i0) := P22.other W_6 (Or.inr (slot_ne (Or.inl (hw _ (List.mem_of_getElem? (i := 75) rfl))) (Or.inl (hw _ (List.mem_of_getElem? (i := 35) rfl))) (by decide) (t := .int) (t' := .int) (by decide) (by decide)))
    have f_19 : Ary Z h_5 en .int [(.int e0), (.int e1), (.int (0 : Int32)), (.int (0 : Int32)), (.int (0 : Int32)), (.int (0 : Int32)), (.int (0 : Int32)), (.int (0 : Int32)), (.int (0 : Int32)), (.int (0 : Int32)), (.int (0 : Int32)), (.int (0 : Int32)), (.int (0 : Int32)), (.int (0 : Int32)), (.int (0 : Int32)), (.int (0 : Int32))] := P23.other W_6 (Ne.symm P7)
    have f_20 : Ary Z h_5 eb .byte vs := P24.other W_6 (Ne.symm P8)
    have kp_21 : Keep h h_5 [a] := (Keep.refl h [a]).wr W_6 (Or.inl (by simp))
    refine K.gets d5_17 (pc' := 20) rfl (host := "") (Or.inl (hw _ (List.mem_of_getElem? (i := 94) rfl))) Via.refl (P13.ext f_9.2) ?_
    exact K.reta d5_20 rfl rfl rfl (by decide) (by decide) ⟨rfl, kp_21, f_10, f_11, f_12, f_13, f_14, f_15, f_16, f_17, f_18⟩
set_option maxRecDepth 65536 in
set_option maxHeartbeats 40000000 in
theorem c_nA2 (l : Launch) (Z : State) (a0 : Array Value) (hw : ∀ d ∈ tables_1, d.before a0 Z = true) (n0 : Nat) (h : Heap) (a : Addr) (hd : Addr) (en : Addr) (eb : Addr) (n : Int32) (p : Int32) (i0 : Int32) (st0 : Int32) (e0 : Int32) (e1 : Int32) (vs : List Value) (cE : Addr) (P1 : Exa Z h a "com/example/nestwire/nestwire/codec/EncodingWalker") (P2 : Exa Z h hd "com/example/nestwire/nestwire/codec/Header") (P3 : n0 ≤ a) (P4 : n0 ≤ hd) (P5 : n0 ≤ en) (P6 : a ≠ hd) (P7 : a ≠ en) (P8 : a ≠ eb) (P9 : hd ≠ en) (P10 : hd ≠ eb) (P11 : en ≠ eb) (P12 : Old Z n0 h) (P13 : Sta Z Z.heap "com/example/nestwire/nestwire/codec/RlpWalker$Step" "LIST_END" "Lcom/example/nestwire/nestwire/codec/RlpWalker$Step;" (.ref cE)) (P14 : Fld Z h a "com/example/nestwire/nestwire/codec/EncodingWalker" "header" "Lcom/example/nestwire/nestwire/codec/Header;" (.ref hd)) (P15 : Fld Z h a "com/example/nestwire/nestwire/codec/EncodingWalker" "ends" "[I" (.ref en)) (P16 : Fld Z h a "com/example/nestwire/nestwire/codec/EncodingWalker" "encoding" "[B" (.ref eb)) (P17 : Fld Z h a "com/example/nestwire/nestwire/codec/EncodingWalker" "end" "I" (.int n)) (P18 : Fld Z h a "com/example/nestwire/nestwire/codec/EncodingWalker" "position" "I" (.int p)) (P19 : Fld Z h a "com/example/nestwire/nestwire/codec/EncodingWalker" "depth" "I" (.int (2 : Int32))) (P20 : Fld Z h a "com/example/nestwire/nestwire/codec/EncodingWalker" "started" "Z" (.int st0)) (P21 : Fld Z h a "com/example/nestwire/nestwire/codec/EncodingWalker" "peeked" "Z" (.int (0 : Int32))) (P22 : Fld Z h a "com/example/nestwire/nestwire/codec/EncodingWalker" "itemStart" "I" (.int i0)) (P23 : Ary Z h en .int [(.int e0), (.int e1), (.int (0 : Int32)), (.int (0 : Int32)), (.int (0 : Int32)), (.int (0 : Int32)), (.int (0 : Int32)), (.int (0 : Int32)), (.int (0 : Int32)), (.int (0 : Int32)), (.int (0 : Int32)), (.int (0 : Int32)), (.int (0 : Int32)), (.int (0 : Int32)), (.int (0 : Int32)), (.int (0 : Int32))]) (P24 : Ary Z h eb .byte vs) (hA : p.toInt = e1.toInt) : MeetsW l Z n0 (⟨"com/example/nestwire/nestwire/codec/EncodingWalker", "next", "()Lcom/example/nestwire/nestwire/codec/RlpWalker$Step;"⟩ : MethodName) prog_9_method_9_code 1 (some (.object "com/example/nestwire/nestwire/codec/RlpWalker$Step")) ({ frames := 1, cells := 0, slots := 0, locals := 12 } : Room) #[(.ref a)] h (fun v h' => v = some (.ref cE) ∧ Keep h h' [a] ∧ Fld Z h' a "com/example/nestwire/nestwire/codec/EncodingWalker" "header" "Lcom/example/nestwire/nestwire/codec/Header;" (.ref hd) ∧ Fld Z h' a "com/example/nestwire/nestwire/codec/EncodingWalker" "ends" "[I" (.ref en) ∧ Fld Z h' a "com/example/nestwire/nestwire/codec/EncodingWalker" "encoding" "[B" (.ref eb) ∧ Fld Z h' a "com/example/nestwire/nestwire/codec/EncodingWalker" "end" "I" (.int n) ∧ Fld Z h' a "com/example/nestwire/nestwire/codec/EncodingWalker" "position" "I" (.int p) ∧ Fld Z h' a "com/example/nestwire/nestwire/codec/EncodingWalker" "depth" "I" (.int (1 : Int32)) ∧ Fld Z h' a "com/example/nestwire/nestwire/codec/EncodingWalker" "started" "Z" (.int st0) ∧ Fld Z h' a "com/example/nestwire/nestwire/codec/EncodingWalker" "peeked" "Z" (.int (0 : Int32)) ∧ Fld Z h' a "com/example/nestwire/nestwire/codec/EncodingWalker" "itemStart" "I" (.int i0)) := by
  refine MeetsW.intro (plainFor_of_name pn_com_example_nestwire_nestwire_codec_EncodingWalker) (L0 := #[.val (.ref a)]) (fun m => by first | (simp [entryFrame, mkF, argsToLocals, Value.category]; done) | rfl) ?_
  intro m G K0
  have K : Cx l ({ frames := 1, cells := 0, slots := 0, locals := 12 } : Room) Z n0 _ "com/example/nestwire/nestwire/codec/EncodingWalker" "next" prog_9_method_9_code 1 (some (.object "com/example/nestwire/nestwire/codec/RlpWalker$Step")) m G := K0
  refine K.aloadN d5_0 (pc' := 1) rfl rfl rfl ?_
  refine K.callv (z := (⟨"com/example/nestwire/nestwire/codec/EncodingWalker", "atListEnd", "()Z"⟩ : MethodName)) (argsL := []) (rest := []) d5_1 (pc' := 4) rfl (c_ale2 l Z a0 hw n0 h (a := a) (en := en) (p := p) (e0 := e0) (e1 := e1) P1 P19 P18 P15 P23) P1 (hw _ (List.mem_of_getElem? (i := 41) rfl)) (hw _ (List.mem_of_getElem? (i := 30) rfl)) (nf_sel (hw _ (List.mem_of_getElem? (i := 32) rfl)) rfl) (hw _ (List.mem_of_getElem? (i := 32) rfl)) (hw _ (List.mem_of_getElem? (i := 31) rfl)) (hw _ (List.mem_of_getElem? (i := 4) rfl)) (hw _ (List.mem_of_getElem? (i := 33) rfl)) (by decide) pd_3 rfl rfl (W := 0) (by simp [Value.category]) (by decide) (by decide) (by decide) (by decide) (fun v_3 h_1 q_2 => ?_)
  obtain ⟨rfl, rfl⟩ := q_2
  show G h 0 0 (mkF m 4 #[.val (.ref a)] [(.int (b2 (p.toInt = e1.toInt)))])
  refine K.ifeqB d5_4 (pc1 := 7) rfl (by decide) (pc2 := 21) (by decide) (fun c4 => ?_) (fun c4 => ?_)
  · exfalso; exact c4 hA
  · refine K.aloadN d5_7 (pc' := 8) rfl rfl rfl ?_
    refine K.dup d5_8 (pc' := 9) rfl rfl ?_
    refine K.getf d5_9 (pc' := 12) rfl (host := "") (Or.inl (hw _ (List.mem_of_getElem? (i := 34) rfl))) Via.refl P19 ?_
    refine K.iconst d5_12 (pc' := 13) rfl (z := 1) rfl ?_
    refine K.isub d5_13 (pc' := 14) rfl (z := (1 : Int32)) (by decide) ?_
    refine K.putf d5_14 (pc' := 17) rfl (host := "") (Or.inl (hw _ (List.mem_of_getElem? (i := 34) rfl))) Via.refl P19 P1 (Or.inl (hw _ (List.mem_of_getElem? (i := 35) rfl))) (hw _ (List.mem_of_getElem? (i := 3) rfl)) (ty := .int) (by decide) rfl rfl P3 (fun h_5 W_6 => ?_)
    have f_7 : Exa Z h_5 a "com/example/nestwire/nestwire/codec/EncodingWalker" := P1.wr W_6
    have f_8 : Exa Z h_5 hd "com/example/nestwire/nestwire/codec/Header" := P2.wr W_6
    have f_9 : Old Z n0 h_5 := P12.wr W_6 P3
    have f_10 : Fld Z h_5 a "com/example/nestwire/nestwire/codec/EncodingWalker" "header" "Lcom/example/nestwire/nestwire/codec/Header;" (.ref hd) := P14.other W_6 (Or.inr (slot_ne (Or.inr (hw _ (List.mem_of_getElem? (i := 19) rfl))) (Or.inl (hw _ (List.mem_of_getElem? (i := 35) rfl))) (by decide) (t := (.object "com/example/nestwire/nestwire/codec/Header")) (t' := .int) (by decide) (by decide)))
    have f_11 : Fld Z h_5 a "com/example/nestwire/nestwire/codec/EncodingWalker" "ends" "[I" (.ref en) := P15.other W_6 (Or.inr (slot_ne (Or.inl (hw _ (List.mem_of_getElem? (i := 22) rfl))) (Or.inl (hw _ (List.mem_of_getElem? (i := 35) rfl))) (by decide) (t := (.array .int)) (t' := .int) (by decide) (by decide)))
    have f_12 : Fld Z h_5 a "com/example/nestwire/nestwire/codec/EncodingWalker" "encoding" "[B" (.ref eb) := P16.other W_6 (Or.inr (slot_ne (Or.inr (hw _ (List.mem_of_getElem? (i := 24) rfl))) (Or.inl (hw _ (List.mem_of_getElem? (i := 35) rfl))) (by decide) (t := (.array .byte)) (t' := .int) (by decide) (by decide)))
    have f_13 : Fld Z h_5 a "com/example/nestwire/nestwire/codec/EncodingWalker" "end" "I" (.int n) := P17.other W_6 (Or.inr (slot_ne (Or.inr (hw _ (List.mem_of_getElem? (i := 26) rfl))) (Or.inl (hw _ (List.mem_of_getElem? (i := 35) rfl))) (by decide) (t := .int) (t' := .int) (by decide) (by decide)))
    have f_14 : Fld Z h_5 a "com/example/nestwire/nestwire/codec/EncodingWalker" "position" "I" (.int p) := P18.other W_6 (Or.inr (slot_ne (Or.inl (hw _ (List.mem_of_getElem? (i := 28) rfl))) (Or.inl (hw _ (List.mem_of_getElem? (i := 35) rfl))) (by decide) (t := .int) (t' := .int) (by decide) (by decide)))
    have f_15 : Fld Z h_5 a "com/example/nestwire/nestwire/codec/EncodingWalker" "depth" "I" (.int (1 : Int32)) := P19.same W_6
    have f_16 : Fld Z h_5 a "com/example/nestwire/nestwire/codec/EncodingWalker" "started" "Z" (.int st0) := P20.other W_6 (Or.inr (slot_ne (Or.inl (hw _ (List.mem_of_getElem? (i := 49) rfl))) (Or.inl (hw _ (List.mem_of_getElem? (i := 35) rfl))) (by decide) (t := .boolean) (t' := .int) (by decide) (by decide)))
    have f_17 : Fld Z h_5 a "com/example/nestwire/nestwire/codec/EncodingWalker" "peeked" "Z" (.int (0 : Int32)) := P21.other W_6 (Or.inr (slot_ne (Or.inl (hw _ (List.mem_of_getElem? (i := 43) rfl))) (Or.inl (hw _ (List.mem_of_getElem? (i := 35) rfl))) (by decide) (t := .boolean) (t' := .int) (by decide) (by decide)))
    have f_18 : Fld Z h_5 a "com/example/nestwire/nestwire/codec/EncodingWalker" "itemStart" "I" (.int i0) := P22.other W_6 (Or.inr (slot_ne (Or.inl (hw _ (List.mem_of_getElem? (i := 75) rfl))) (Or.inl (hw _ (List.mem_of_getElem? (i := 35) rfl))) (by decide) (t := .int) (t' := .int) (by decide) (by decide)))
    have f_19 : Ary Z h_5 en .int [(.int e0), (.int e1), (.int (0 : Int32)), (.int (0 : Int32)), (.int (0 : Int32)), (.int (0 : Int32)), (.int (0 : Int32)), (.int (0 : Int32)), (.int (0 : Int32)), (.int (0 : Int32)), (.int (0 : Int32)), (.int (0 : Int32)), (.int (0 : Int32)), (.int (0 : Int32)), (.int (0 : Int32)), (.int (0 : Int32))] := P23.other W_6 (Ne.symm P7)
    have f_20 : Ary Z h_5 eb .byte vs := P24.other W_6 (Ne.symm P8)
    have kp_21 : Keep h h_5 [a] := (Keep.refl h [a]).wr W_6 (Or.inl (by simp))
    refine K.gets d5_17 (pc' := 20) rfl (host := "") (Or.inl (hw _ (List.mem_of_getElem? (i := 94) rfl))) Via.refl (P13.ext f_9.2) ?_
    exact K.reta d5_20 rfl rfl rfl (by decide) (by decide) ⟨rfl, kp_21, f_10, f_11, f_12, f_13, f_14, f_15, f_16, f_17, f_18⟩
theorem d5_21 : decode prog_9_method_9_code 21 = .ok (.aload_n 0, 1) := by decide +kernel
theorem d5_22 : decode prog_9_method_9_code 22 = .ok (.getfield 64, 3) := by decide +kernel
theorem d5_25 : decode prog_9_method_9_code 25 = .ok (.ifCond .eq 11, 3) := by decide +kernel
theorem d5_36 : decode prog_9_method_9_code 36 = .ok (.aload_n 0, 1) := by decide +kernel
theorem d5_37 : decode prog_9_method_9_code 37 = .ok (.invokevirtual 67, 3) := by decide +kernel
theorem pd_4 : parseMethodDescriptor "()V" = some ⟨[], none⟩ := by decide +kernel
theorem d5_40 : decode prog_9_method_9_code 40 = .ok (.aload_n 0, 1) := by decide +kernel
theorem d5_41 : decode prog_9_method_9_code 41 = .ok (.iconst 1, 1) := by decide +kernel
theorem d5_42 : decode prog_9_method_9_code 42 = .ok (.putfield 48, 3) := by decide +kernel
theorem d5_45 : decode prog_9_method_9_code 45 = .ok (.aload_n 0, 1) := by decide +kernel
theorem d5_46 : decode prog_9_method_9_code 46 = .ok (.getfield 15, 3) := by decide +kernel
theorem d5_49 : decode prog_9_method_9_code 49 = .ok (.invokevirtual 70, 3) := by decide +kernel
theorem d5_52 : decode prog_9_method_9_code 52 = .ok (.ifCond .eq 70, 3) := by decide +kernel
theorem d5_122 : decode prog_9_method_9_code 122 = .ok (.aload_n 0, 1) := by decide +kernel
theorem d5_123 : decode prog_9_method_9_code 123 = .ok (.aload_n 0, 1) := by decide +kernel
theorem d5_124 : decode prog_9_method_9_code 124 = .ok (.getfield 15, 3) := by decide +kernel
theorem d5_127 : decode prog_9_method_9_code 127 = .ok (.invokevirtual 85, 3) := by decide +kernel
theorem pd_5 : parseMethodDescriptor "()I" = some ⟨[], some .int⟩ := by decide +kernel
theorem d5_130 : decode prog_9_method_9_code 130 = .ok (.putfield 31, 3) := by decide +kernel
theorem d5_133 : decode prog_9_method_9_code 133 = .ok (.getstatic 76, 3) := by decide +kernel
theorem d5_136 : decode prog_9_method_9_code 136 = .ok (.areturn, 1) := by decide +kernel
set_option maxRecDepth 65536 in
set_option maxHeartbeats 40000000 in
theorem c_nB10 (l : Launch) (Z : State) (a0 : Array Value) (hw : ∀ d ∈ tables_1, d.before a0 Z = true) (n0 : Nat) (h : Heap) (a : Addr) (hd : Addr) (en : Addr) (eb : Addr) (n : Int32) (p : Int32) (i0 : Int32) (st0 : Int32) (l0 : Int32) (s0 : Int32) (g0 : Int32) (e0 : Int32) (e1 : Int32) (vs : List Value) (b : Int32) (cB : Addr) (P1 : Exa Z h a "com/example/nestwire/nestwire/codec/EncodingWalker") (P2 : Exa Z h hd "com/example/nestwire/nestwire/codec/Header") (P3 : n0 ≤ a) (P4 : n0 ≤ hd) (P5 : n0 ≤ en) (P6 : a ≠ hd) (P7 : a ≠ en) (P8 : a ≠ eb) (P9 : hd ≠ en) (P10 : hd ≠ eb) (P11 : en ≠ eb) (P12 : Old Z n0 h) (P13 : Sta Z Z.heap "com/example/nestwire/nestwire/codec/RlpWalker$Step" "BYTES" "Lcom/example/nestwire/nestwire/codec/RlpWalker$Step;" (.ref cB)) (P14 : Fld Z h a "com/example/nestwire/nestwire/codec/EncodingWalker" "header" "Lcom/example/nestwire/nestwire/codec/Header;" (.ref hd)) (P15 : Fld Z h a "com/example/nestwire/nestwire/codec/EncodingWalker" "ends" "[I" (.ref en)) (P16 : Fld Z h a "com/example/nestwire/nestwire/codec/EncodingWalker" "encoding" "[B" (.ref eb)) (P17 : Fld Z h a "com/example/nestwire/nestwire/codec/EncodingWalker" "end" "I" (.int n)) (P18 : Fld Z h a "com/example/nestwire/nestwire/codec/EncodingWalker" "position" "I" (.int p)) (P19 : Fld Z h a "com/example/nestwire/nestwire/codec/EncodingWalker" "depth" "I" (.int (1 : Int32))) (P20 : Fld Z h a "com/example/nestwire/nestwire/codec/EncodingWalker" "started" "Z" (.int st0)) (P21 : Fld Z h a "com/example/nestwire/nestwire/codec/EncodingWalker" "peeked" "Z" (.int (0 : Int32))) (P22 : Fld Z h a "com/example/nestwire/nestwire/codec/EncodingWalker" "itemStart" "I" (.int i0)) (P23 : Fld Z h hd "com/example/nestwire/nestwire/codec/Header" "isList" "Z" (.int l0)) (P24 : Fld Z h hd "com/example/nestwire/nestwire/codec/Header" "payloadStart" "I" (.int s0)) (P25 : Fld Z h hd "com/example/nestwire/nestwire/codec/Header" "payloadLength" "I" (.int g0)) (P26 : Ary Z h en .int [(.int e0), (.int e1), (.int (0 : Int32)), (.int (0 : Int32)), (.int (0 : Int32)), (.int (0 : Int32)), (.int (0 : Int32)), (.int (0 : Int32)), (.int (0 : Int32)), (.int (0 : Int32)), (.int (0 : Int32)), (.int (0 : Int32)), (.int (0 : Int32)), (.int (0 : Int32)), (.int (0 : Int32)), (.int (0 : Int32))]) (P27 : Ary Z h eb .byte vs) (hv : vs[p.toInt.toNat]? = some (.int b)) (hp : 0 ≤ p.toInt ∧ p.toInt < 100) (hb : 0 ≤ b.toInt ∧ b.toInt < 128) (hlim : e0.toInt < 200 ∧ p.toInt + 1 ≤ e0.toInt) : MeetsW l Z n0 (⟨"com/example/nestwire/nestwire/codec/EncodingWalker", "next", "()Lcom/example/nestwire/nestwire/codec/RlpWalker$Step;"⟩ : MethodName) prog_9_method_9_code 1 (some (.object "com/example/nestwire/nestwire/codec/RlpWalker$Step")) ({ frames := 4, cells := 0, slots := 0, locals := 60 } : Room) #[(.ref a)] h (fun v h' => ∃ (pe : Int32) (l1 : Int32) (s1 : Int32) (g1 : Int32), v = some (.ref cB) ∧ Keep h h' [a, hd] ∧ (pe.toInt = p.toInt + 1) ∧ Fld Z h' a "com/example/nestwire/nestwire/codec/EncodingWalker" "header" "Lcom/example/nestwire/nestwire/codec/Header;" (.ref hd) ∧ Fld Z h' a "com/example/nestwire/nestwire/codec/EncodingWalker" "ends" "[I" (.ref en) ∧ Fld Z h' a "com/example/nestwire/nestwire/codec/EncodingWalker" "encoding" "[B" (.ref eb) ∧ Fld Z h' a "com/example/nestwire/nestwire/codec/EncodingWalker" "end" "I" (.int n) ∧ Fld Z h' a "com/example/nestwire/nestwire/codec/EncodingWalker" "position" "I" (.int pe) ∧ Fld Z h' a "com/example/nestwire/nestwire/codec/EncodingWalker" "depth" "I" (.int (1 : Int32)) ∧ Fld Z h' a "com/example/nestwire/nestwire/codec/EncodingWalker" "started" "Z" (.int (1 : Int32)) ∧ Fld Z h' a "com/example/nestwire/nestwire/codec/EncodingWalker" "peeked" "Z" (.int (0 : Int32)) ∧ Fld Z h' a "com/example/nestwire/nestwire/codec/EncodingWalker" "itemStart" "I" (.int p) ∧ Fld Z h' hd "com/example/nestwire/nestwire/codec/Header" "isList" "Z" (.int l1) ∧ Fld Z h' hd "com/example/nestwire/nestwire/codec/Header" "payloadStart" "I" (.int s1) ∧ Fld Z h' hd "com/example/nestwire/nestwire/codec/Header" "payloadLength" "I" (.int g1)) := by
  refine MeetsW.intro (plainFor_of_name pn_com_example_nestwire_nestwire_codec_EncodingWalker) (L0 := #[.val (.ref a)]) (fun m => by first | (simp [entryFrame, mkF, argsToLocals, Value.category]; done) | rfl) ?_
  intro m G K0
  have K : Cx l ({ frames := 4, cells := 0, slots := 0, locals := 60 } : Room) Z n0 _ "com/example/nestwire/nestwire/codec/EncodingWalker" "next" prog_9_method_9_code 1 (some (.object "com/example/nestwire/nestwire/codec/RlpWalker$Step")) m G := K0
  refine K.aloadN d5_0 (pc' := 1) rfl rfl rfl ?_
  refine K.callv (z := (⟨"com/example/nestwire/nestwire/codec/EncodingWalker", "atListEnd", "()Z"⟩ : MethodName)) (argsL := []) (rest := []) d5_1 (pc' := 4) rfl (c_ale1 l Z a0 hw n0 h (a := a) (en := en) (p := p) (e0 := e0) (e1 := e1) P1 P19 P18 P15 P26) P1 (hw _ (List.mem_of_getElem? (i := 41) rfl)) (hw _ (List.mem_of_getElem? (i := 30) rfl)) (nf_sel (hw _ (List.mem_of_getElem? (i := 32) rfl)) rfl) (hw _ (List.mem_of_getElem? (i := 32) rfl)) (hw _ (List.mem_of_getElem? (i := 31) rfl)) (hw _ (List.mem_of_getElem? (i := 4) rfl)) (hw _ (List.mem_of_getElem? (i := 33) rfl)) (by decide) pd_3 rfl rfl (W := 0) (by simp [Value.category]) (by decide) (by decide) (by decide) (by decide) (fun v_3 h_1 q_2 => ?_)
  obtain ⟨rfl, rfl⟩ := q_2
  show G h 0 0 (mkF m 4 #[.val (.ref a)] [(.int (b2 (p.toInt = e0.toInt)))])
  refine K.ifeqB d5_4 (pc1 := 7) rfl (by decide) (pc2 := 21) (by decide) (fun c4 => ?_) (fun c4 => ?_)
  · refine K.aloadN d5_21 (pc' := 22) rfl rfl rfl ?_
    refine K.getf d5_22 (pc' := 25) rfl (host := "") (Or.inl (hw _ (List.mem_of_getElem? (i := 42) rfl))) Via.refl P21 ?_
    refine K.if_eq d5_25 (pc1 := 28) rfl (by decide) (pc2 := 36) (by decide) (a := 0) rfl (fun c25 => ?_) (fun c25 => ?_)
    · refine K.aloadN d5_36 (pc' := 37) rfl rfl rfl ?_
      refine K.callp (argsL := []) (rest := []) d5_37 (pc' := 40) rfl (c_rh10 l Z a0 hw n0 h (a := a) (hd := hd) (en := en) (eb := eb) (n := n) (p := p) (i0 := i0) (st0 := st0) (l0 := l0) (s0 := s0) (g0 := g0) (e0 := e0) (e1 := e1) (vs := vs) (b := b) P1 P2 P3 P4 P5 P6 P7 P8 P9 P10 P11 P14 P15 P16 P17 P18 P19 P20 P21 P22 P23 P24 P25 P26 P27 hv hp hb hlim) P1 (hw _ (List.mem_of_getElem? (i := 44) rfl)) (hw _ (List.mem_of_getElem? (i := 45) rfl)) (hw _ (List.mem_of_getElem? (i := 3) rfl)) (hw _ (List.mem_of_getElem? (i := 46) rfl)) (hw _ (List.mem_of_getElem? (i := 4) rfl)) (hw _ (List.mem_of_getElem? (i := 47) rfl)) (by decide) pd_4 rfl rfl (W := 0) (by simp [Value.category]) (by decide) (by decide) (by decide) (by decide) (fun v_7 h_5 q_6 => ?_)
      obtain ⟨pl, rfl, K_8, hpl_rh, f_9, f_10, f_11, f_12, f_13, f_14, f_15, f_16, f_17, f_18, f_19, f_20⟩ := q_6
      have f_21 : Exa Z h_5 a "com/example/nestwire/nestwire/codec/EncodingWalker" := P1.keep K_8
      have f_22 : Exa Z h_5 hd "com/example/nestwire/nestwire/codec/Header" := P2.keep K_8
      have f_23 : Old Z n0 h_5 := P12.keep K_8 (allS P3 (allS P4 all0))
      have f_36 : Ary Z h_5 en .int [(.int e0), (.int e1), (.int (0 : Int32)), (.int (0 : Int32)), (.int (0 : Int32)), (.int (0 : Int32)), (.int (0 : Int32)), (.int (0 : Int32)), (.int (0 : Int32)), (.int (0 : Int32)), (.int (0 : Int32)), (.int (0 : Int32)), (.int (0 : Int32)), (.int (0 : Int32)), (.int (0 : Int32)), (.int (0 : Int32))] := P26.keep K_8 (ninS (Ne.symm P7) (ninS (Ne.symm P9) nin0))
      have f_37 : Ary Z h_5 eb .byte vs := P27.keep K_8 (ninS (Ne.symm P8) (ninS (Ne.symm P10) nin0))
      have kp_38 : Keep h h_5 [a, hd] := (Keep.refl h [a, hd]).trans K_8 (allS (Or.inl (by simp)) (allS (Or.inl (by simp)) all0))
      show G h_5 0 0 (mkF m 40 #[.val (.ref a)] [])
      refine K.aloadN d5_40 (pc' := 41) rfl rfl rfl ?_
      refine K.iconst d5_41 (pc' := 42) rfl (z := 1) rfl ?_
      refine K.putf d5_42 (pc' := 45) rfl (host := "") (Or.inl (hw _ (List.mem_of_getElem? (i := 48) rfl))) Via.refl f_15 f_21 (Or.inl (hw _ (List.mem_of_getElem? (i := 49) rfl))) (hw _ (List.mem_of_getElem? (i := 3) rfl)) (ty := .boolean) (by decide) rfl rfl P3 (fun h_39 W_40 => ?_)
      have f_41 : Exa Z h_39 a "com/example/nestwire/nestwire/codec/EncodingWalker" := f_21.wr W_40
      have f_42 : Exa Z h_39 hd "com/example/nestwire/nestwire/codec/Header" := f_22.wr W_40
      have f_43 : Old Z n0 h_39 := f_23.wr W_40 P3
      have f_44 : Ary Z h_39 en .int [(.int e0), (.int e1), (.int (0 : Int32)), (.int (0 : Int32)), (.int (0 : Int32)), (.int (0 : Int32)), (.int (0 : Int32)), (.int (0 : Int32)), (.int (0 : Int32)), (.int (0 : Int32)), (.int (0 : Int32)), (.int (0 : Int32)), (.int (0 : Int32)), (.int (0 : Int32)), (.int (0 : Int32)), (.int (0 : Int32))] := f_36.other W_40 (Ne.symm P7)
      have f_45 : Ary Z h_39 eb .byte vs := f_37.other W_40 (Ne.symm P8)
      have f_46 : Fld Z h_39 a "com/example/nestwire/nestwire/codec/EncodingWalker" "header" "Lcom/example/nestwire/nestwire/codec/Header;" (.ref hd) := f_9.other W_40 (Or.inr (slot_ne (Or.inr (hw _ (List.mem_of_getElem? (i := 19) rfl))) (Or.inl (hw _ (List.mem_of_getElem? (i := 49) rfl))) (by decide) (t := (.object "com/example/nestwire/nestwire/codec/Header")) (t' := .boolean) (by decide) (by decide)))
      have f_47 : Fld Z h_39 a "com/example/nestwire/nestwire/codec/EncodingWalker" "ends" "[I" (.ref en) := f_10.other W_40 (Or.inr (slot_ne (Or.inl (hw _ (List.mem_of_getElem? (i := 22) rfl))) (Or.inl (hw _ (List.mem_of_getElem? (i := 49) rfl))) (by decide) (t := (.array .int)) (t' := .boolean) (by decide) (by decide)))
      have f_48 : Fld Z h_39 a "com/example/nestwire/nestwire/codec/EncodingWalker" "encoding" "[B" (.ref eb) := f_11.other W_40 (Or.inr (slot_ne (Or.inr (hw _ (List.mem_of_getElem? (i := 24) rfl))) (Or.inl (hw _ (List.mem_of_getElem? (i := 49) rfl))) (by decide) (t := (.array .byte)) (t' := .boolean) (by decide) (by decide)))
      have f_49 : Fld Z h_39 a "com/example/nestwire/nestwire/codec/EncodingWalker" "end" "I" (.int n) := f_12.other W_40 (Or.inr (slot_ne (Or.inr (hw _ (List.mem_of_getElem? (i := 26) rfl))) (Or.inl (hw _ (List.mem_of_getElem? (i := 49) rfl))) (by decide) (t := .int) (t' := .boolean) (by decide) (by decide)))
      have f_50 : Fld Z h_39 a "com/example/nestwire/nestwire/codec/EncodingWalker" "position" "I" (.int p) := f_13.other W_40 (Or.inr (slot_ne (Or.inl (hw _ (List.mem_of_getElem? (i := 28) rfl))) (Or.inl (hw _ (List.mem_of_getElem? (i := 49) rfl))) (by decide) (t := .int) (t' := .boolean) (by decide) (by decide)))
      have f_51 : Fld Z h_39 a "com/example/nestwire/nestwire/codec/EncodingWalker" "depth" "I" (.int (1 : Int32)) := f_14.other W_40 (Or.inr (slot_ne (Or.inl (hw _ (List.mem_of_getElem? (i := 35) rfl))) (Or.inl (hw _ (List.mem_of_getElem? (i := 49) rfl))) (by decide) (t := .int) (t' := .boolean) (by decide) (by decide)))
      have f_52 : Fld Z h_39 a "com/example/nestwire/nestwire/codec/EncodingWalker" "started" "Z" (.int (1 : Int32)) := f_15.same W_40
      have f_53 : Fld Z h_39 a "com/example/nestwire/nestwire/codec/EncodingWalker" "peeked" "Z" (.int (0 : Int32)) := f_16.other W_40 (Or.inr (slot_ne (Or.inl (hw _ (List.mem_of_getElem? (i := 43) rfl))) (Or.inl (hw _ (List.mem_of_getElem? (i := 49) rfl))) (by decide) (t := .boolean) (t' := .boolean) (by decide) (by decide)))
      have f_54 : Fld Z h_39 a "com/example/nestwire/nestwire/codec/EncodingWalker" "itemStart" "I" (.int p) := f_17.other W_40 (Or.inr (slot_ne (Or.inl (hw _ (List.mem_of_getElem? (i := 75) rfl))) (Or.inl (hw _ (List.mem_of_getElem? (i := 49) rfl))) (by decide) (t := .int) (t' := .boolean) (by decide) (by decide)))
      have f_55 : Fld Z h_39 hd "com/example/nestwire/nestwire/codec/Header" "isList" "Z" (.int (0 : Int32)) := f_18.other W_40 (Or.inl (Ne.symm P6))
      have f_56 : Fld Z h_39 hd "com/example/nestwire/nestwire/codec/Header" "payloadStart" "I" (.int p) := f_19.other W_40 (Or.inl (Ne.symm P6))
      have f_57 : Fld Z h_39 hd "com/example/nestwire/nestwire/codec/Header" "payloadLength" "I" (.int pl) := f_20.other W_40 (Or.inl (Ne.symm P6))
      have kp_58 : Keep h h_39 [a, hd] := kp_38.wr W_40 (Or.inl (by simp))
      refine K.aloadN d5_45 (pc' := 46) rfl rfl rfl ?_
      refine K.getf d5_46 (pc' := 49) rfl (host := "") (Or.inl (hw _ (List.mem_of_getElem? (i := 18) rfl))) Via.refl f_46 ?_
      refine K.callv (z := (⟨"com/example/nestwire/nestwire/codec/Header", "isList", "()Z"⟩ : MethodName)) (argsL := []) (rest := []) d5_49 (pc' := 52) rfl (c_isl l Z a0 hw n0 h_39 (a := hd) (l0 := (0 : Int32)) f_42 f_55 (Or.inl rfl)) f_42 (hw _ (List.mem_of_getElem? (i := 76) rfl)) (hw _ (List.mem_of_getElem? (i := 77) rfl)) (nf_sel (hw _ (List.mem_of_getElem? (i := 79) rfl)) rfl) (hw _ (List.mem_of_getElem? (i := 79) rfl)) (hw _ (List.mem_of_getElem? (i := 78) rfl)) (hw _ (List.mem_of_getElem? (i := 13) rfl)) (hw _ (List.mem_of_getElem? (i := 80) rfl)) (by decide) pd_3 rfl rfl (W := 0) (by simp [Value.category]) (by decide) (by decide) (by decide) (by decide) (fun v_61 h_59 q_60 => ?_)
      obtain ⟨rfl, rfl⟩ := q_60
      show G h_39 0 0 (mkF m 52 #[.val (.ref a)] [(.int (0 : Int32))])
      refine K.if_eq d5_52 (pc1 := 55) rfl (by decide) (pc2 := 122) (by decide) (a := 0) rfl (fun c52 => ?_) (fun c52 => ?_)
      · refine K.aloadN d5_122 (pc' := 123) rfl rfl rfl ?_
        refine K.aloadN d5_123 (pc' := 124) rfl rfl rfl ?_
        refine K.getf d5_124 (pc' := 127) rfl (host := "") (Or.inl (hw _ (List.mem_of_getElem? (i := 18) rfl))) Via.refl f_46 ?_
        refine K.callv (z := (⟨"com/example/nestwire/nestwire/codec/Header", "payloadEnd", "()I"⟩ : MethodName)) (argsL := []) (rest := [(.ref a)]) d5_127 (pc' := 130) rfl (c_pen l Z a0 hw n0 h_39 (a := hd) (s0 := p) (g0 := pl) f_42 f_56 f_57 (by omega)) f_42 (hw _ (List.mem_of_getElem? (i := 81) rfl)) (hw _ (List.mem_of_getElem? (i := 82) rfl)) (nf_sel (hw _ (List.mem_of_getElem? (i := 84) rfl)) rfl) (hw _ (List.mem_of_getElem? (i := 84) rfl)) (hw _ (List.mem_of_getElem? (i := 83) rfl)) (hw _ (List.mem_of_getElem? (i := 13) rfl)) (hw _ (List.mem_of_getElem? (i := 85) rfl)) (by decide) pd_5 rfl rfl (W := 1) (by simp [Value.category]) (by decide) (by decide) (by decide) (by decide) (fun v_65 h_63 q_64 => ?_)
        obtain ⟨pe, rfl, t_pe, rfl⟩ := q_64
        show G h_39 0 0 (mkF m 130 #[.val (.ref a)] [(.int pe), (.ref a)])
        refine K.putf d5_130 (pc' := 133) rfl (host := "") (Or.inl (hw _ (List.mem_of_getElem? (i := 27) rfl))) Via.refl f_50 f_41 (Or.inl (hw _ (List.mem_of_getElem? (i := 28) rfl))) (hw _ (List.mem_of_getElem? (i := 3) rfl)) (ty := .int) (by decide) rfl rfl P3 (fun h_66 W_67 => ?_)
        have f_68 : Exa Z h_66 a "com/example/nestwire/nestwire/codec/EncodingWalker" := f_41.wr W_67
        have f_69 : Exa Z h_66 hd "com/example/nestwire/nestwire/codec/Header" := f_42.wr W_67
        have f_70 : Old Z n0 h_66 := f_43.wr W_67 P3
        have f_71 : Ary Z h_66 en .int [(.int e0), (.int e1), (.int (0 : Int32)), (.int (0 : Int32)), (.int (0 : Int32)), (.int (0 : Int32)), (.int (0 : Int32)), (.int (0 : Int32)), (.int (0 : Int32)), (.int (0 : Int32)), (.int (0 : Int32)), (.int (0 : Int32)), (.int (0 : Int32)), (.int (0 : Int32)), (.int (0 : Int32)), (.int (0 : Int32))] := f_44.other W_67 (Ne.symm P7)
        have f_72 : Ary Z h_66 eb .byte vs := f_45.other W_67 (Ne.symm P8)
        have f_73 : Fld Z h_66 a "com/example/nestwire/nestwire/codec/EncodingWalker" "header" "Lcom/example/nestwire/nestwire/codec/Header;" (.ref hd) := f_46.other W_67 (Or.inr (slot_ne (Or.inr (hw _ (List.mem_of_getElem? (i := 19) rfl))) (Or.inl (hw _ (List.mem_of_getElem? (i := 28) rfl))) (by decide) (t := (.object "com/example/nestwire/nestwire/codec/Header")) (t' := .int) (by decide) (by decide)))
        have f_74 : Fld Z h_66 a "com/example/nestwire/nestwire/codec/EncodingWalker" "ends" "[I" (.ref en) := f_47.other W_67 (Or.inr (slot_ne (Or.inl (hw _ (List.mem_of_getElem? (i := 22) rfl))) (Or.inl (hw _ (List.mem_of_getElem? (i := 28) rfl))) (by decide) (t := (.array .int)) (t' := .int) (by decide) (by decide)))
        have f_75 : Fld Z h_66 a "com/example/nestwire/nestwire/codec/EncodingWalker" "encoding" "[B" (.ref eb) := f_48.other W_67 (Or.inr (slot_ne (Or.inr (hw _ (List.mem_of_getElem? (i := 24) rfl))) (Or.inl (hw _ (List.mem_of_getElem? (i := 28) rfl))) (by decide) (t := (.array .byte)) (t' := .int) (by decide) (by decide)))
        have f_76 : Fld Z h_66 a "com/example/nestwire/nestwire/codec/EncodingWalker" "end" "I" (.int n) := f_49.other W_67 (Or.inr (slot_ne (Or.inr (hw _ (List.mem_of_getElem? (i := 26) rfl))) (Or.inl (hw _ (List.mem_of_getElem? (i := 28) rfl))) (by decide) (t := .int) (t' := .int) (by decide) (by decide)))
        have f_77 : Fld Z h_66 a "com/example/nestwire/nestwire/codec/EncodingWalker" "position" "I" (.int pe) := f_50.same W_67
        have f_78 : Fld Z h_66 a "com/example/nestwire/nestwire/codec/EncodingWalker" "depth" "I" (.int (1 : Int32)) := f_51.other W_67 (Or.inr (slot_ne (Or.inl (hw _ (List.mem_of_getElem? (i := 35) rfl))) (Or.inl (hw _ (List.mem_of_getElem? (i := 28) rfl))) (by decide) (t := .int) (t' := .int) (by decide) (by decide)))
        have f_79 : Fld Z h_66 a "com/example/nestwire/nestwire/codec/EncodingWalker" "started" "Z" (.int (1 : Int32)) := f_52.other W_67 (Or.inr (slot_ne (Or.inl (hw _ (List.mem_of_getElem? (i := 49) rfl))) (Or.inl (hw _ (List.mem_of_getElem? (i := 28) rfl))) (by decide) (t := .boolean) (t' := .int) (by decide) (by decide)))
        have f_80 : Fld Z h_66 a "com/example/nestwire/nestwire/codec/EncodingWalker" "peeked" "Z" (.int (0 : Int32)) := f_53.other W_67 (Or.inr (slot_ne (Or.inl (hw _ (List.mem_of_getElem? (i := 43) rfl))) (Or.inl (hw _ (List.mem_of_getElem? (i := 28) rfl))) (by decide) (t := .boolean) (t' := .int) (by decide) (by decide)))
        have f_81 : Fld Z h_66 a "com/example/nestwire/nestwire/codec/EncodingWalker" "itemStart" "I" (.int p) := f_54.other W_67 (Or.inr (slot_ne (Or.inl (hw _ (List.mem_of_getElem? (i := 75) rfl))) (Or.inl (hw _ (List.mem_of_getElem? (i := 28) rfl))) (by decide) (t := .int) (t' := .int) (by decide) (by decide)))
        have f_82 : Fld Z h_66 hd "com/example/nestwire/nestwire/codec/Header" "isList" "Z" (.int (0 : Int32)) := f_55.other W_67 (Or.inl (Ne.symm P6))
        have f_83 : Fld Z h_66 hd "com/example/nestwire/nestwire/codec/Header" "payloadStart" "I" (.int p) := f_56.other W_67 (Or.inl (Ne.symm P6))
        have f_84 : Fld Z h_66 hd "com/example/nestwire/nestwire/codec/Header" "payloadLength" "I" (.int pl) := f_57.other W_67 (Or.inl (Ne.symm P6))
        have kp_85 : Keep h h_66 [a, hd] := kp_58.wr W_67 (Or.inl (by simp))
        refine K.gets d5_133 (pc' := 136) rfl (host := "") (Or.inl (hw _ (List.mem_of_getElem? (i := 103) rfl))) Via.refl (P13.ext f_70.2) ?_
        exact K.reta d5_136 rfl rfl rfl (by decide) (by decide) ⟨pe, (0 : Int32), p, pl, rfl, kp_85, by omega, f_73, f_74, f_75, f_76, f_77, f_78, f_79, f_80, f_81, f_82, f_83, f_84⟩
      · exfalso; omega
    · exfalso; omega
  · exfalso; omega
set_option maxRecDepth 65536 in
set_option maxHeartbeats 40000000 in
theorem c_nB11 (l : Launch) (Z : State) (a0 : Array Value) (hw : ∀ d ∈ tables_1, d.before a0 Z = true) (n0 : Nat) (h : Heap) (a : Addr) (hd : Addr) (en : Addr) (eb : Addr) (n : Int32) (p : Int32) (i0 : Int32) (st0 : Int32) (l0 : Int32) (s0 : Int32) (g0 : Int32) (e0 : Int32) (e1 : Int32) (vs : List Value) (b : Int32) (b1 : Int32) (cB : Addr) (P1 : Exa Z h a "com/example/nestwire/nestwire/codec/EncodingWalker") (P2 : Exa Z h hd "com/example/nestwire/nestwire/codec/Header") (P3 : n0 ≤ a) (P4 : n0 ≤ hd) (P5 : n0 ≤ en) (P6 : a ≠ hd) (P7 : a ≠ en) (P8 : a ≠ eb) (P9 : hd ≠ en) (P10 : hd ≠ eb) (P11 : en ≠ eb) (P12 : Old Z n0 h) (P13 : Sta Z Z.heap "com/example/nestwire/nestwire/codec/RlpWalker$Step" "BYTES" "Lcom/example/nestwire/nestwire/codec/RlpWalker$Step;" (.ref cB)) (P14 : Fld Z h a "com/example/nestwire/nestwire/codec/EncodingWalker" "header" "Lcom/example/nestwire/nestwire/codec/Header;" (.ref hd)) (P15 : Fld Z h a "com/example/nestwire/nestwire/codec/EncodingWalker" "ends" "[I" (.ref en)) (P16 : Fld Z h a "com/example/nestwire/nestwire/codec/EncodingWalker" "encoding" "[B" (.ref eb)) (P17 : Fld Z h a "com/example/nestwire/nestwire/codec/EncodingWalker" "end" "I" (.int n)) (P18 : Fld Z h a "com/example/nestwire/nestwire/codec/EncodingWalker" "position" "I" (.int p)) (P19 : Fld Z h a "com/example/nestwire/nestwire/codec/EncodingWalker" "depth" "I" (.int (1 : Int32))) (P20 : Fld Z h a "com/example/nestwire/nestwire/codec/EncodingWalker" "started" "Z" (.int st0)) (P21 : Fld Z h a "com/example/nestwire/nestwire/codec/EncodingWalker" "peeked" "Z" (.int (0 : Int32))) (P22 : Fld Z h a "com/example/nestwire/nestwire/codec/EncodingWalker" "itemStart" "I" (.int i0)) (P23 : Fld Z h hd "com/example/nestwire/nestwire/codec/Header" "isList" "Z" (.int l0)) (P24 : Fld Z h hd "com/example/nestwire/nestwire/codec/Header" "payloadStart" "I" (.int s0)) (P25 : Fld Z h hd "com/example/nestwire/nestwire/codec/Header" "payloadLength" "I" (.int g0)) (P26 : Ary Z h en .int [(.int e0), (.int e1), (.int (0 : Int32)), (.int (0 : Int32)), (.int (0 : Int32)), (.int (0 : Int32)), (.int (0 : Int32)), (.int (0 : Int32)), (.int (0 : Int32)), (.int (0 : Int32)), (.int (0 : Int32)), (.int (0 : Int32)), (.int (0 : Int32)), (.int (0 : Int32)), (.int (0 : Int32)), (.int (0 : Int32))]) (P27 : Ary Z h eb .byte vs) (hv : vs[p.toInt.toNat]? = some (.int b)) (hp : 0 ≤ p.toInt ∧ p.toInt < 100) (hb : b.toInt = -127) (hlim : e0.toInt < 200 ∧ p.toInt + 2 ≤ e0.toInt) (hv1 : vs[p.toInt.toNat + 1]? = some (.int b1)) (hb1 : -128 ≤ b1.toInt ∧ b1.toInt < 0) : MeetsW l Z n0 (⟨"com/example/nestwire/nestwire/codec/EncodingWalker", "next", "()Lcom/example/nestwire/nestwire/codec/RlpWalker$Step;"⟩ : MethodName) prog_9_method_9_code 1 (some (.object "com/example/nestwire/nestwire/codec/RlpWalker$Step")) ({ frames := 4, cells := 0, slots := 0, locals := 60 } : Room) #[(.ref a)] h (fun v h' => ∃ (pe : Int32) (l1 : Int32) (s1 : Int32) (g1 : Int32), v = some (.ref cB) ∧ Keep h h' [a, hd] ∧ (pe.toInt = p.toInt + 2) ∧ Fld Z h' a "com/example/nestwire/nestwire/codec/EncodingWalker" "header" "Lcom/example/nestwire/nestwire/codec/Header;" (.ref hd) ∧ Fld Z h' a "com/example/nestwire/nestwire/codec/EncodingWalker" "ends" "[I" (.ref en) ∧ Fld Z h' a "com/example/nestwire/nestwire/codec/EncodingWalker" "encoding" "[B" (.ref eb) ∧ Fld Z h' a "com/example/nestwire/nestwire/codec/EncodingWalker" "end" "I" (.int n) ∧ Fld Z h' a "com/example/nestwire/nestwire/codec/EncodingWalker" "position" "I" (.int pe) ∧ Fld Z h' a "com/example/nestwire/nestwire/codec/EncodingWalker" "depth" "I" (.int (1 : Int32)) ∧ Fld Z h' a "com/example/nestwire/nestwire/codec/EncodingWalker" "started" "Z" (.int (1 : Int32)) ∧ Fld Z h' a "com/example/nestwire/nestwire/codec/EncodingWalker" "peeked" "Z" (.int (0 : Int32)) ∧ Fld Z h' a "com/example/nestwire/nestwire/codec/EncodingWalker" "itemStart" "I" (.int p) ∧ Fld Z h' hd "com/example/nestwire/nestwire/codec/Header" "isList" "Z" (.int l1) ∧ Fld Z h' hd "com/example/nestwire/nestwire/codec/Header" "payloadStart" "I" (.int s1) ∧ Fld Z h' hd "com/example/nestwire/nestwire/codec/Header" "payloadLength" "I" (.int g1)) := by
  refine MeetsW.intro (plainFor_of_name pn_com_example_nestwire_nestwire_codec_EncodingWalker) (L0 := #[.val (.ref a)]) (fun m => by first | (simp [entryFrame, mkF, argsToLocals, Value.category]; done) | rfl) ?_
  intro m G K0
  have K : Cx l ({ frames := 4, cells := 0, slots := 0, locals := 60 } : Room) Z n0 _ "com/example/nestwire/nestwire/codec/EncodingWalker" "next" prog_9_method_9_code 1 (some (.object "com/example/nestwire/nestwire/codec/RlpWalker$Step")) m G := K0
  refine K.aloadN d5_0 (pc' := 1) rfl rfl rfl ?_
  refine K.callv (z := (⟨"com/example/nestwire/nestwire/codec/EncodingWalker", "atListEnd", "()Z"⟩ : MethodName)) (argsL := []) (rest := []) d5_1 (pc' := 4) rfl (c_ale1 l Z a0 hw n0 h (a := a) (en := en) (p := p) (e0 := e0) (e1 := e1) P1 P19 P18 P15 P26) P1 (hw _ (List.mem_of_getElem? (i := 41) rfl)) (hw _ (List.mem_of_getElem? (i := 30) rfl)) (nf_sel (hw _ (List.mem_of_getElem? (i := 32) rfl)) rfl) (hw _ (List.mem_of_getElem? (i := 32) rfl)) (hw _ (List.mem_of_getElem? (i := 31) rfl)) (hw _ (List.mem_of_getElem? (i := 4) rfl)) (hw _ (List.mem_of_getElem? (i := 33) rfl)) (by decide) pd_3 rfl rfl (W := 0) (by simp [Value.category]) (by decide) (by decide) (by decide) (by decide) (fun v_3 h_1 q_2 => ?_)
  obtain ⟨rfl, rfl⟩ := q_2
  show G h 0 0 (mkF m 4 #[.val (.ref a)] [(.int (b2 (p.toInt = e0.toInt)))])
  refine K.ifeqB d5_4 (pc1 := 7) rfl (by decide) (pc2 := 21) (by decide) (fun c4 => ?_) (fun c4 => ?_)
  · refine K.aloadN d5_21 (pc' := 22) rfl rfl rfl ?_
    refine K.getf d5_22 (pc' := 25) rfl (host := "") (Or.inl (hw _ (List.mem_of_getElem? (i := 42) rfl))) Via.refl P21 ?_
    refine K.if_eq d5_25 (pc1 := 28) rfl (by decide) (pc2 := 36) (by decide) (a := 0) rfl (fun c25 => ?_) (fun c25 => ?_)
    · refine K.aloadN d5_36 (pc' := 37) rfl rfl rfl ?_
      refine K.callp (argsL := []) (rest := []) d5_37 (pc' := 40) rfl (c_rh11 l Z a0 hw n0 h (a := a) (hd := hd) (en := en) (eb := eb) (n := n) (p := p) (i0 := i0) (st0 := st0) (l0 := l0) (s0 := s0) (g0 := g0) (e0 := e0) (e1 := e1) (vs := vs) (b := b) (b1 := b1) P1 P2 P3 P4 P5 P6 P7 P8 P9 P10 P11 P14 P15 P16 P17 P18 P19 P20 P21 P22 P23 P24 P25 P26 P27 hv hp hb hlim hv1 hb1) P1 (hw _ (List.mem_of_getElem? (i := 44) rfl)) (hw _ (List.mem_of_getElem? (i := 45) rfl)) (hw _ (List.mem_of_getElem? (i := 3) rfl)) (hw _ (List.mem_of_getElem? (i := 46) rfl)) (hw _ (List.mem_of_getElem? (i := 4) rfl)) (hw _ (List.mem_of_getElem? (i := 47) rfl)) (by decide) pd_4 rfl rfl (W := 0) (by simp [Value.category]) (by decide) (by decide) (by decide) (by decide) (fun v_7 h_5 q_6 => ?_)
      obtain ⟨ps, pl, rfl, K_8, hpl_rh, f_9, f_10, f_11, f_12, f_13, f_14, f_15, f_16, f_17, f_18, f_19, f_20⟩ := q_6
      have f_21 : Exa Z h_5 a "com/example/nestwire/nestwire/codec/EncodingWalker" := P1.keep K_8
      have f_22 : Exa Z h_5 hd "com/example/nestwire/nestwire/codec/Header" := P2.keep K_8
      have f_23 : Old Z n0 h_5 := P12.keep K_8 (allS P3 (allS P4 all0))
      have f_36 : Ary Z h_5 en .int [(.int e0), (.int e1), (.int (0 : Int32)), (.int (0 : Int32)), (.int (0 : Int32)), (.int (0 : Int32)), (.int (0 : Int32)), (.int (0 : Int32)), (.int (0 : Int32)), (.int (0 : Int32)), (.int (0 : Int32)), (.int (0 : Int32)), (.int (0 : Int32)), (.int (0 : Int32)), (.int (0 : Int32)), (.int (0 : Int32))] := P26.keep K_8 (ninS (Ne.symm P7) (ninS (Ne.symm P9) nin0))
      have f_37 : Ary Z h_5 eb .byte vs := P27.keep K_8 (ninS (Ne.symm P8) (ninS (Ne.symm P10) nin0))
      have kp_38 : Keep h h_5 [a, hd] := (Keep.refl h [a, hd]).trans K_8 (allS (Or.inl (by simp)) (allS (Or.inl (by simp)) all0))
      show G h_5 0 0 (mkF m 40 #[.val (.ref a)] [])
      refine K.aloadN d5_40 (pc' := 41) rfl rfl rfl ?_
      refine K.iconst d5_41 (pc' := 42) rfl (z := 1) rfl ?_
      refine K.putf d5_42 (pc' := 45) rfl (host := "") (Or.inl (hw _ (List.mem_of_getElem? (i := 48) rfl))) Via.refl f_15 f_21 (Or.inl (hw _ (List.mem_of_getElem? (i := 49) rfl))) (hw _ (List.mem_of_getElem? (i := 3) rfl)) (ty := .boolean) (by decide) rfl rfl P3 (fun h_39 W_40 => ?_)
      have f_41 : Exa Z h_39 a "com/example/nestwire/nestwire/codec/EncodingWalker" := f_21.wr W_40
      have f_42 : Exa Z h_39 hd "com/example/nestwire/nestwire/codec/Header" := f_22.wr W_40
      have f_43 : Old Z n0 h_39 := f_23.wr W_40 P3
      have f_44 : Ary Z h_39 en .int [(.int e0), (.int e1), (.int (0 : Int32)), (.int (0 : Int32)), (.int (0 : Int32)), (.int (0 : Int32)), (.int (0 : Int32)), (.int (0 : Int32)), (.int (0 : Int32)), (.int (0 : Int32)), (.int (0 : Int32)), (.int (0 : Int32)), (.int (0 : Int32)), (.int (0 : Int32)), (.int (0 : Int32)), (.int (0 : Int32))] := f_36.other W_40 (Ne.symm P7)
      have f_45 : Ary Z h_39 eb .byte vs := f_37.other W_40 (Ne.symm P8)
      have f_46 : Fld Z h_39 a "com/example/nestwire/nestwire/codec/EncodingWalker" "header" "Lcom/example/nestwire/nestwire/codec/Header;" (.ref hd) := f_9.other W_40 (Or.inr (slot_ne (Or.inr (hw _ (List.mem_of_getElem? (i := 19) rfl))) (Or.inl (hw _ (List.mem_of_getElem? (i := 49) rfl))) (by decide) (t := (.object "com/example/nestwire/nestwire/codec/Header")) (t' := .boolean) (by decide) (by decide)))
      have f_47 : Fld Z h_39 a "com/example/nestwire/nestwire/codec/EncodingWalker" "ends" "[I" (.ref en) := f_10.other W_40 (Or.inr (slot_ne (Or.inl (hw _ (List.mem_of_getElem? (i := 22) rfl))) (Or.inl (hw _ (List.mem_of_getElem? (i := 49) rfl))) (by decide) (t := (.array .int)) (t' := .boolean) (by decide) (by decide)))
      have f_48 : Fld Z h_39 a "com/example/nestwire/nestwire/codec/EncodingWalker" "encoding" "[B" (.ref eb) := f_11.other W_40 (Or.inr (slot_ne (Or.inr (hw _ (List.mem_of_getElem? (i := 24) rfl))) (Or.inl (hw _ (List.mem_of_getElem? (i := 49) rfl))) (by decide) (t := (.array .byte)) (t' := .boolean) (by decide) (by decide)))
      have f_49 : Fld Z h_39 a "com/example/nestwire/nestwire/codec/EncodingWalker" "end" "I" (.int n) := f_12.other W_40 (Or.inr (slot_ne (Or.inr (hw _ (List.mem_of_getElem? (i := 26) rfl))) (Or.inl (hw _ (List.mem_of_getElem? (i := 49) rfl))) (by decide) (t := .int) (t' := .boolean) (by decide) (by decide)))
      have f_50 : Fld Z h_39 a "com/example/nestwire/nestwire/codec/EncodingWalker" "position" "I" (.int p) := f_13.other W_40 (Or.inr (slot_ne (Or.inl (hw _ (List.mem_of_getElem? (i := 28) rfl))) (Or.inl (hw _ (List.mem_of_getElem? (i := 49) rfl))) (by decide) (t := .int) (t' := .boolean) (by decide) (by decide)))
      have f_51 : Fld Z h_39 a "com/example/nestwire/nestwire/codec/EncodingWalker" "depth" "I" (.int (1 : Int32)) := f_14.other W_40 (Or.inr (slot_ne (Or.inl (hw _ (List.mem_of_getElem? (i := 35) rfl))) (Or.inl (hw _ (List.mem_of_getElem? (i := 49) rfl))) (by decide) (t := .int) (t' := .boolean) (by decide) (by decide)))
      have f_52 : Fld Z h_39 a "com/example/nestwire/nestwire/codec/EncodingWalker" "started" "Z" (.int (1 : Int32)) := f_15.same W_40
      have f_53 : Fld Z h_39 a "com/example/nestwire/nestwire/codec/EncodingWalker" "peeked" "Z" (.int (0 : Int32)) := f_16.other W_40 (Or.inr (slot_ne (Or.inl (hw _ (List.mem_of_getElem? (i := 43) rfl))) (Or.inl (hw _ (List.mem_of_getElem? (i := 49) rfl))) (by decide) (t := .boolean) (t' := .boolean) (by decide) (by decide)))
      have f_54 : Fld Z h_39 a "com/example/nestwire/nestwire/codec/EncodingWalker" "itemStart" "I" (.int p) := f_17.other W_40 (Or.inr (slot_ne (Or.inl (hw _ (List.mem_of_getElem? (i := 75) rfl))) (Or.inl (hw _ (List.mem_of_getElem? (i := 49) rfl))) (by decide) (t := .int) (t' := .boolean) (by decide) (by decide)))
      have f_55 : Fld Z h_39 hd "com/example/nestwire/nestwire/codec/Header" "isList" "Z" (.int (0 : Int32)) := f_18.other W_40 (Or.inl (Ne.symm P6))
      have f_56 : Fld Z h_39 hd "com/example/nestwire/nestwire/codec/Header" "payloadStart" "I" (.int ps) := f_19.other W_40 (Or.inl (Ne.symm P6))
      have f_57 : Fld Z h_39 hd "com/example/nestwire/nestwire/codec/Header" "payloadLength" "I" (.int pl) := f_20.other W_40 (Or.inl (Ne.symm P6))
      have kp_58 : Keep h h_39 [a, hd] := kp_38.wr W_40 (Or.inl (by simp))
      refine K.aloadN d5_45 (pc' := 46) rfl rfl rfl ?_
      refine K.getf d5_46 (pc' := 49) rfl (host := "") (Or.inl (hw _ (List.mem_of_getElem? (i := 18) rfl))) Via.refl f_46 ?_
      refine K.callv (z := (⟨"com/example/nestwire/nestwire/codec/Header", "isList", "()Z"⟩ : MethodName)) (argsL := []) (rest := []) d5_49 (pc' := 52) rfl (c_isl l Z a0 hw n0 h_39 (a := hd) (l0 := (0 : Int32)) f_42 f_55 (Or.inl rfl)) f_42 (hw _ (List.mem_of_getElem? (i := 76) rfl)) (hw _ (List.mem_of_getElem? (i := 77) rfl)) (nf_sel (hw _ (List.mem_of_getElem? (i := 79) rfl)) rfl) (hw _ (List.mem_of_getElem? (i := 79) rfl)) (hw _ (List.mem_of_getElem? (i := 78) rfl)) (hw _ (List.mem_of_getElem? (i := 13) rfl)) (hw _ (List.mem_of_getElem? (i := 80) rfl)) (by decide) pd_3 rfl rfl (W := 0) (by simp [Value.category]) (by decide) (by decide) (by decide) (by decide) (fun v_61 h_59 q_60 => ?_)
      obtain ⟨rfl, rfl⟩ := q_60
      show G h_39 0 0 (mkF m 52 #[.val (.ref a)] [(.int (0 : Int32))])
      refine K.if_eq d5_52 (pc1 := 55) rfl (by decide) (pc2 := 122) (by decide) (a := 0) rfl (fun c52 => ?_) (fun c52 => ?_)
      · refine K.aloadN d5_122 (pc' := 123) rfl rfl rfl ?_
        refine K.aloadN d5_123 (pc' := 124) rfl rfl rfl ?_
        refine K.getf d5_124 (pc' := 127) rfl (host := "") (Or.inl (hw _ (List.mem_of_getElem? (i := 18) rfl))) Via.refl f_46 ?_
        refine K.callv (z := (⟨"com/example/nestwire/nestwire/codec/Header", "payloadEnd", "()I"⟩ : MethodName)) (argsL := []) (rest := [(.ref a)]) d5_127 (pc' := 130) rfl (c_pen l Z a0 hw n0 h_39 (a := hd) (s0 := ps) (g0 := pl) f_42 f_56 f_57 (by omega)) f_42 (hw _ (List.mem_of_getElem? (i := 81) rfl)) (hw _ (List.mem_of_getElem? (i := 82) rfl)) (nf_sel (hw _ (List.mem_of_getElem? (i := 84) rfl)) rfl) (hw _ (List.mem_of_getElem? (i := 84) rfl)) (hw _ (List.mem_of_getElem? (i := 83) rfl)) (hw _ (List.mem_of_getElem? (i := 13) rfl)) (hw _ (List.mem_of_getElem? (i := 85) rfl)) (by decide) pd_5 rfl rfl (W := 1) (by simp [Value.category]) (by decide) (by decide) (by decide) (by decide) (fun v_65 h_63 q_64 => ?_)
        obtain ⟨pe, rfl, t_pe, rfl⟩ := q_64
        show G h_39 0 0 (mkF m 130 #[.val (.ref a)] [(.int pe), (.ref a)])
        refine K.putf d5_130 (pc' := 133) rfl (host := "") (Or.inl (hw _ (List.mem_of_getElem? (i := 27) rfl))) Via.refl f_50 f_41 (Or.inl (hw _ (List.mem_of_getElem? (i := 28) rfl))) (hw _ (List.mem_of_getElem? (i := 3) rfl)) (ty := .int) (by decide) rfl rfl P3 (fun h_66 W_67 => ?_)
        have f_68 : Exa Z h_66 a "com/example/nestwire/nestwire/codec/EncodingWalker" := f_41.wr W_67
        have f_69 : Exa Z h_66 hd "com/example/nestwire/nestwire/codec/Header" := f_42.wr W_67
        have f_70 : Old Z n0 h_66 := f_43.wr W_67 P3
        have f_71 : Ary Z h_66 en .int [(.int e0), (.int e1), (.int (0 : Int32)), (.int (0 : Int32)), (.int (0 : Int32)), (.int (0 : Int32)), (.int (0 : Int32)), (.int (0 : Int32)), (.int (0 : Int32)), (.int (0 : Int32)), (.int (0 : Int32)), (.int (0 : Int32)), (.int (0 : Int32)), (.int (0 : Int32)), (.int (0 : Int32)), (.int (0 : Int32))] := f_44.other W_67 (Ne.symm P7)
        have f_72 : Ary Z h_66 eb .byte vs := f_45.other W_67 (Ne.symm P8)
        have f_73 : Fld Z h_66 a "com/example/nestwire/nestwire/codec/EncodingWalker" "header" "Lcom/example/nestwire/nestwire/codec/Header;" (.ref hd) := f_46.other W_67 (Or.inr (slot_ne (Or.inr (hw _ (List.mem_of_getElem? (i := 19) rfl))) (Or.inl (hw _ (List.mem_of_getElem? (i := 28) rfl))) (by decide) (t := (.object "com/example/nestwire/nestwire/codec/Header")) (t' := .int) (by decide) (by decide)))
        have f_74 : Fld Z h_66 a "com/example/nestwire/nestwire/codec/EncodingWalker" "ends" "[I" (.ref en) := f_47.other W_67 (Or.inr (slot_ne (Or.inl (hw _ (List.mem_of_getElem? (i := 22) rfl))) (Or.inl (hw _ (List.mem_of_getElem? (i := 28) rfl))) (by decide) (t := (.array .int)) (t' := .int) (by decide) (by decide)))
        have f_75 : Fld Z h_66 a "com/example/nestwire/nestwire/codec/EncodingWalker" "encoding" "[B" (.ref eb) := f_48.other W_67 (Or.inr (slot_ne (Or.inr (hw _ (List.mem_of_getElem? (i := 24) rfl))) (Or.inl (hw _ (List.mem_of_getElem? (i := 28) rfl))) (by decide) (t := (.array .byte)) (t' := .int) (by decide) (by decide)))
        have f_76 : Fld Z h_66 a "com/example/nestwire/nestwire/codec/EncodingWalker" "end" "I" (.int n) := f_49.other W_67 (Or.inr (slot_ne (Or.inr (hw _ (List.mem_of_getElem? (i := 26) rfl))) (Or.inl (hw _ (List.mem_of_getElem? (i := 28) rfl))) (by decide) (t := .int) (t' := .int) (by decide) (by decide)))
        have f_77 : Fld Z h_66 a "com/example/nestwire/nestwire/codec/EncodingWalker" "position" "I" (.int pe) := f_50.same W_67
        have f_78 : Fld Z h_66 a "com/example/nestwire/nestwire/codec/EncodingWalker" "depth" "I" (.int (1 : Int32)) := f_51.other W_67 (Or.inr (slot_ne (Or.inl (hw _ (List.mem_of_getElem? (i := 35) rfl))) (Or.inl (hw _ (List.mem_of_getElem? (i := 28) rfl))) (by decide) (t := .int) (t' := .int) (by decide) (by decide)))
        have f_79 : Fld Z h_66 a "com/example/nestwire/nestwire/codec/EncodingWalker" "started" "Z" (.int (1 : Int32)) := f_52.other W_67 (Or.inr (slot_ne (Or.inl (hw _ (List.mem_of_getElem? (i := 49) rfl))) (Or.inl (hw _ (List.mem_of_getElem? (i := 28) rfl))) (by decide) (t := .boolean) (t' := .int) (by decide) (by decide)))
        have f_80 : Fld Z h_66 a "com/example/nestwire/nestwire/codec/EncodingWalker" "peeked" "Z" (.int (0 : Int32)) := f_53.other W_67 (Or.inr (slot_ne (Or.inl (hw _ (List.mem_of_getElem? (i := 43) rfl))) (Or.inl (hw _ (List.mem_of_getElem? (i := 28) rfl))) (by decide) (t := .boolean) (t' := .int) (by decide) (by decide)))
        have f_81 : Fld Z h_66 a "com/example/nestwire/nestwire/codec/EncodingWalker" "itemStart" "I" (.int p) := f_54.other W_67 (Or.inr (slot_ne (Or.inl (hw _ (List.mem_of_getElem? (i := 75) rfl))) (Or.inl (hw _ (List.mem_of_getElem? (i := 28) rfl))) (by decide) (t := .int) (t' := .int) (by decide) (by decide)))
        have f_82 : Fld Z h_66 hd "com/example/nestwire/nestwire/codec/Header" "isList" "Z" (.int (0 : Int32)) := f_55.other W_67 (Or.inl (Ne.symm P6))
        have f_83 : Fld Z h_66 hd "com/example/nestwire/nestwire/codec/Header" "payloadStart" "I" (.int ps) := f_56.other W_67 (Or.inl (Ne.symm P6))
        have f_84 : Fld Z h_66 hd "com/example/nestwire/nestwire/codec/Header" "payloadLength" "I" (.int pl) := f_57.other W_67 (Or.inl (Ne.symm P6))
        have kp_85 : Keep h h_66 [a, hd] := kp_58.wr W_67 (Or.inl (by simp))
        refine K.gets d5_133 (pc' := 136) rfl (host := "") (Or.inl (hw _ (List.mem_of_getElem? (i := 103) rfl))) Via.refl (P13.ext f_70.2) ?_
        exact K.reta d5_136 rfl rfl rfl (by decide) (by decide) ⟨pe, (0 : Int32), ps, pl, rfl, kp_85, by omega, f_73, f_74, f_75, f_76, f_77, f_78, f_79, f_80, f_81, f_82, f_83, f_84⟩
      · exfalso; omega
    · exfalso; omega
  · exfalso; omega
set_option maxRecDepth 65536 in
set_option maxHeartbeats 40000000 in
theorem c_nB20 (l : Launch) (Z : State) (a0 : Array Value) (hw : ∀ d ∈ tables_1, d.before a0 Z = true) (n0 : Nat) (h : Heap) (a : Addr) (hd : Addr) (en : Addr) (eb : Addr) (n : Int32) (p : Int32) (i0 : Int32) (st0 : Int32) (l0 : Int32) (s0 : Int32) (g0 : Int32) (e0 : Int32) (e1 : Int32) (vs : List Value) (b : Int32) (cB : Addr) (P1 : Exa Z h a "com/example/nestwire/nestwire/codec/EncodingWalker") (P2 : Exa Z h hd "com/example/nestwire/nestwire/codec/Header") (P3 : n0 ≤ a) (P4 : n0 ≤ hd) (P5 : n0 ≤ en) (P6 : a ≠ hd) (P7 : a ≠ en) (P8 : a ≠ eb) (P9 : hd ≠ en) (P10 : hd ≠ eb) (P11 : en ≠ eb) (P12 : Old Z n0 h) (P13 : Sta Z Z.heap "com/example/nestwire/nestwire/codec/RlpWalker$Step" "BYTES" "Lcom/example/nestwire/nestwire/codec/RlpWalker$Step;" (.ref cB)) (P14 : Fld Z h a "com/example/nestwire/nestwire/codec/EncodingWalker" "header" "Lcom/example/nestwire/nestwire/codec/Header;" (.ref hd)) (P15 : Fld Z h a "com/example/nestwire/nestwire/codec/EncodingWalker" "ends" "[I" (.ref en)) (P16 : Fld Z h a "com/example/nestwire/nestwire/codec/EncodingWalker" "encoding" "[B" (.ref eb)) (P17 : Fld Z h a "com/example/nestwire/nestwire/codec/EncodingWalker" "end" "I" (.int n)) (P18 : Fld Z h a "com/example/nestwire/nestwire/codec/EncodingWalker" "position" "I" (.int p)) (P19 : Fld Z h a "com/example/nestwire/nestwire/codec/EncodingWalker" "depth" "I" (.int (2 : Int32))) (P20 : Fld Z h a "com/example/nestwire/nestwire/codec/EncodingWalker" "started" "Z" (.int st0)) (P21 : Fld Z h a "com/example/nestwire/nestwire/codec/EncodingWalker" "peeked" "Z" (.int (0 : Int32))) (P22 : Fld Z h a "com/example/nestwire/nestwire/codec/EncodingWalker" "itemStart" "I" (.int i0)) (P23 : Fld Z h hd "com/example/nestwire/nestwire/codec/Header" "isList" "Z" (.int l0)) (P24 : Fld Z h hd "com/example/nestwire/nestwire/codec/Header" "payloadStart" "I" (.int s0)) (P25 : Fld Z h hd "com/example/nestwire/nestwire/codec/Header" "payloadLength" "I" (.int g0)) (P26 : Ary Z h en .int [(.int e0), (.int e1), (.int (0 : Int32)), (.int (0 : Int32)), (.int (0 : Int32)), (.int (0 : Int32)), (.int (0 : Int32)), (.int (0 : Int32)), (.int (0 : Int32)), (.int (0 : Int32)), (.int (0 : Int32)), (.int (0 : Int32)), (.int (0 : Int32)), (.int (0 : Int32)), (.int (0 : Int32)), (.int (0 : Int32))]) (P27 : Ary Z h eb .byte vs) (hv : vs[p.toInt.toNat]? = some (.int b)) (hp : 0 ≤ p.toInt ∧ p.toInt < 100) (hb : 0 ≤ b.toInt ∧ b.toInt < 128) (hlim : e1.toInt < 200 ∧ p.toInt + 1 ≤ e1.toInt) : MeetsW l Z n0 (⟨"com/example/nestwire/nestwire/codec/EncodingWalker", "next", "()Lcom/example/nestwire/nestwire/codec/RlpWalker$Step;"⟩ : MethodName) prog_9_method_9_code 1 (some (.object "com/example/nestwire/nestwire/codec/RlpWalker$Step")) ({ frames := 4, cells := 0, slots := 0, locals := 60 } : Room) #[(.ref a)] h (fun v h' => ∃ (pe : Int32) (l1 : Int32) (s1 : Int32) (g1 : Int32), v = some (.ref cB) ∧ Keep h h' [a, hd] ∧ (pe.toInt = p.toInt + 1) ∧ Fld Z h' a "com/example/nestwire/nestwire/codec/EncodingWalker" "header" "Lcom/example/nestwire/nestwire/codec/Header;" (.ref hd) ∧ Fld Z h' a "com/example/nestwire/nestwire/codec/EncodingWalker" "ends" "[I" (.ref en) ∧ Fld Z h' a "com/example/nestwire/nestwire/codec/EncodingWalker" "encoding" "[B" (.ref eb) ∧ Fld Z h' a "com/example/nestwire/nestwire/codec/EncodingWalker" "end" "I" (.int n) ∧ Fld Z h' a "com/example/nestwire/nestwire/codec/EncodingWalker" "position" "I" (.int pe) ∧ Fld Z h' a "com/example/nestwire/nestwire/codec/EncodingWalker" "depth" "I" (.int (2 : Int32)) ∧ Fld Z h' a "com/example/nestwire/nestwire/codec/EncodingWalker" "started" "Z" (.int (1 : Int32)) ∧ Fld Z h' a "com/example/nestwire/nestwire/codec/EncodingWalker" "peeked" "Z" (.int (0 : Int32)) ∧ Fld Z h' a "com/example/nestwire/nestwire/codec/EncodingWalker" "itemStart" "I" (.int p) ∧ Fld Z h' hd "com/example/nestwire/nestwire/codec/Header" "isList" "Z" (.int l1) ∧ Fld Z h' hd "com/example/nestwire/nestwire/codec/Header" "payloadStart" "I" (.int s1) ∧ Fld Z h' hd "com/example/nestwire/nestwire/codec/Header" "payloadLength" "I" (.int g1)) := by
  refine MeetsW.intro (plainFor_of_name pn_com_example_nestwire_nestwire_codec_EncodingWalker) (L0 := #[.val (.ref a)]) (fun m => by first | (simp [entryFrame, mkF, argsToLocals, Value.category]; done) | rfl) ?_
  intro m G K0
  have K : Cx l ({ frames := 4, cells := 0, slots := 0, locals := 60 } : Room) Z n0 _ "com/example/nestwire/nestwire/codec/EncodingWalker" "next" prog_9_method_9_code 1 (some (.object "com/example/nestwire/nestwire/codec/RlpWalker$Step")) m G := K0
  refine K.aloadN d5_0 (pc' := 1) rfl rfl rfl ?_
  refine K.callv (z := (⟨"com/example/nestwire/nestwire/codec/EncodingWalker", "atListEnd", "()Z"⟩ : MethodName)) (argsL := []) (rest := []) d5_1 (pc' := 4) rfl (c_ale2 l Z a0 hw n0 h (a := a) (en := en) (p := p) (e0 := e0) (e1 := e1) P1 P19 P18 P15 P26) P1 (hw _ (List.mem_of_getElem? (i := 41) rfl)) (hw _ (List.mem_of_getElem? (i := 30) rfl)) (nf_sel (hw _ (List.mem_of_getElem? (i := 32) rfl)) rfl) (hw _ (List.mem_of_getElem? (i := 32) rfl)) (hw _ (List.mem_of_getElem? (i := 31) rfl)) (hw _ (List.mem_of_getElem? (i := 4) rfl)) (hw _ (List.mem_of_getElem? (i := 33) rfl)) (by decide) pd_3 rfl rfl (W := 0) (by simp [Value.category]) (by decide) (by decide) (by decide) (by decide) (fun v_3 h_1 q_2 => ?_)
  obtain ⟨rfl, rfl⟩ := q_2
  show G h 0 0 (mkF m 4 #[.val (.ref a)] [(.int (b2 (p.toInt = e1.toInt)))])
  refine K.ifeqB d5_4 (pc1 := 7) rfl (by decide) (pc2 := 21) (by decide) (fun c4 => ?_) (fun c4 => ?_)
  · refine K.aloadN d5_21 (pc' := 22) rfl rfl rfl ?_
    refine K.getf d5_22 (pc' := 25) rfl (host := "") (Or.inl (hw _ (List.mem_of_getElem? (i := 42) rfl))) Via.refl P21 ?_
    refine K.if_eq d5_25 (pc1 := 28) rfl (by decide) (pc2 := 36) (by decide) (a := 0) rfl (fun c25 => ?_) (fun c25 => ?_)
    · refine K.aloadN d5_36 (pc' := 37) rfl rfl rfl ?_
      refine K.callp (argsL := []) (rest := []) d5_37 (pc' := 40) rfl (c_rh20 l Z a0 hw n0 h (a := a) (hd := hd) (en := en) (eb := eb) (n := n) (p := p) (i0 := i0) (st0 := st0) (l0 := l0) (s0 := s0) (g0 := g0) (e0 := e0) (e1 := e1) (vs := vs) (b := b) P1 P2 P3 P4 P5 P6 P7 P8 P9 P10 P11 P14 P15 P16 P17 P18 P19 P20 P21 P22 P23 P24 P25 P26 P27 hv hp hb hlim) P1 (hw _ (List.mem_of_getElem? (i := 44) rfl)) (hw _ (List.mem_of_getElem? (i := 45) rfl)) (hw _ (List.mem_of_getElem? (i := 3) rfl)) (hw _ (List.mem_of_getElem? (i := 46) rfl)) (hw _ (List.mem_of_getElem? (i := 4) rfl)) (hw _ (List.mem_of_getElem? (i := 47) rfl)) (by decide) pd_4 rfl rfl (W := 0) (by simp [Value.category]) (by decide) (by decide) (by decide) (by decide) (fun v_7 h_5 q_6 => ?_)
      obtain ⟨pl, rfl, K_8, hpl_rh, f_9, f_10, f_11, f_12, f_13, f_14, f_15, f_16, f_17, f_18, f_19, f_20⟩ := q_6
      have f_21 : Exa Z h_5 a "com/example/nestwire/nestwire/codec/EncodingWalker" := P1.keep K_8
      have f_22 : Exa Z h_5 hd "com/example/nestwire/nestwire/codec/Header" := P2.keep K_8
      have f_23 : Old Z n0 h_5 := P12.keep K_8 (allS P3 (allS P4 all0))
      have f_36 : Ary Z h_5 en .int [(.int e0), (.int e1), (.int (0 : Int32)), (.int (0 : Int32)), (.int (0 : Int32)), (.int (0 : Int32)), (.int (0 : Int32)), (.int (0 : Int32)), (.int (0 : Int32)), (.int (0 : Int32)), (.int (0 : Int32)), (.int (0 : Int32)), (.int (0 : Int32)), (.int (0 : Int32)), (.int (0 : Int32)), (.int (0 : Int32))] := P26.keep K_8 (ninS (Ne.symm P7) (ninS (Ne.symm P9) nin0))
      have f_37 : Ary Z h_5 eb .byte vs := P27.keep K_8 (ninS (Ne.symm P8) (ninS (Ne.symm P10) nin0))
      have kp_38 : Keep h h_5 [a, hd] := (Keep.refl h [a, hd]).trans K_8 (allS (Or.inl (by simp)) (allS (Or.inl (by simp)) all0))
      show G h_5 0 0 (mkF m 40 #[.val (.ref a)] [])
      refine K.aloadN d5_40 (pc' := 41) rfl rfl rfl ?_
      refine K.iconst d5_41 (pc' := 42) rfl (z := 1) rfl ?_
      refine K.putf d5_42 (pc' := 45) rfl (host := "") (Or.inl (hw _ (List.mem_of_getElem? (i := 48) rfl))) Via.refl f_15 f_21 (Or.inl (hw _ (List.mem_of_getElem? (i := 49) rfl))) (hw _ (List.mem_of_getElem? (i := 3) rfl)) (ty := .boolean) (by decide) rfl rfl P3 (fun h_39 W_40 => ?_)
      have f_41 : Exa Z h_39 a "com/example/nestwire/nestwire/codec/EncodingWalker" := f_21.wr W_40
      have f_42 : Exa Z h_39 hd "com/example/nestwire/nestwire/codec/Header" := f_22.wr W_40
      have f_43 : Old Z n0 h_39 := f_23.wr W_40 P3
      have f_44 : Ary Z h_39 en .int [(.int e0), (.int e1), (.int (0 : Int32)), (.int (0 : Int32)), (.int (0 : Int32)), (.int (0 : Int32)), (.int (0 : Int32)), (.int (0 : Int32)), (.int (0 : Int32)), (.int (0 : Int32)), (.int (0 : Int32)), (.int (0 : Int32)), (.int (0 : Int32)), (.int (0 : Int32)), (.int (0 : Int32)), (.int (0 : Int32))] := f_36.other W_40 (Ne.symm P7)
      have f_45 : Ary Z h_39 eb .byte vs := f_37.other W_40 (Ne.symm P8)
      have f_46 : Fld Z h_39 a "com/example/nestwire/nestwire/codec/EncodingWalker" "header" "Lcom/example/nestwire/nestwire/codec/Header;" (.ref hd) := f_9.other W_40 (Or.inr (slot_ne (Or.inr (hw _ (List.mem_of_getElem? (i := 19) rfl))) (Or.inl (hw _ (List.mem_of_getElem? (i := 49) rfl))) (by decide) (t := (.object "com/example/nestwire/nestwire/codec/Header")) (t' := .boolean) (by decide) (by decide)))
      have f_47 : Fld Z h_39 a "com/example/nestwire/nestwire/codec/EncodingWalker" "ends" "[I" (.ref en) := f_10.other W_40 (Or.inr (slot_ne (Or.inl (hw _ (List.mem_of_getElem? (i := 22) rfl))) (Or.inl (hw _ (List.mem_of_getElem? (i := 49) rfl))) (by decide) (t := (.array .int)) (t' := .boolean) (by decide) (by decide)))
      have f_48 : Fld Z h_39 a "com/example/nestwire/nestwire/codec/EncodingWalker" "encoding" "[B" (.ref eb) := f_11.other W_40 (Or.inr (slot_ne (Or.inr (hw _ (List.mem_of_getElem? (i := 24) rfl))) (Or.inl (hw _ (List.mem_of_getElem? (i := 49) rfl))) (by decide) (t := (.array .byte)) (t' := .boolean) (by decide) (by decide)))
      have f_49 : Fld Z h_39 a "com/example/nestwire/nestwire/codec/EncodingWalker" "end" "I" (.int n) := f_12.other W_40 (Or.inr (slot_ne (Or.inr (hw _ (List.mem_of_getElem? (i := 26) rfl))) (Or.inl (hw _ (List.mem_of_getElem? (i := 49) rfl))) (by decide) (t := .int) (t' := .boolean) (by decide) (by decide)))
      have f_50 : Fld Z h_39 a "com/example/nestwire/nestwire/codec/EncodingWalker" "position" "I" (.int p) := f_13.other W_40 (Or.inr (slot_ne (Or.inl (hw _ (List.mem_of_getElem? (i := 28) rfl))) (Or.inl (hw _ (List.mem_of_getElem? (i := 49) rfl))) (by decide) (t := .int) (t' := .boolean) (by decide) (by decide)))
      have f_51 : Fld Z h_39 a "com/example/nestwire/nestwire/codec/EncodingWalker" "depth" "I" (.int (2 : Int32)) := f_14.other W_40 (Or.inr (slot_ne (Or.inl (hw _ (List.mem_of_getElem? (i := 35) rfl))) (Or.inl (hw _ (List.mem_of_getElem? (i := 49) rfl))) (by decide) (t := .int) (t' := .boolean) (by decide) (by decide)))
      have f_52 : Fld Z h_39 a "com/example/nestwire/nestwire/codec/EncodingWalker" "started" "Z" (.int (1 : Int32)) := f_15.same W_40
      have f_53 : Fld Z h_39 a "com/example/nestwire/nestwire/codec/EncodingWalker" "peeked" "Z" (.int (0 : Int32)) := f_16.other W_40 (Or.inr (slot_ne (Or.inl (hw _ (List.mem_of_getElem? (i := 43) rfl))) (Or.inl (hw _ (List.mem_of_getElem? (i := 49) rfl))) (by decide) (t := .boolean) (t' := .boolean) (by decide) (by decide)))
      have f_54 : Fld Z h_39 a "com/example/nestwire/nestwire/codec/EncodingWalker" "itemStart" "I" (.int p) := f_17.other W_40 (Or.inr (slot_ne (Or.inl (hw _ (List.mem_of_getElem? (i := 75) rfl))) (Or.inl (hw _ (List.mem_of_getElem? (i := 49) rfl))) (by decide) (t := .int) (t' := .boolean) (by decide) (by decide)))
      have f_55 : Fld Z h_39 hd "com/example/nestwire/nestwire/codec/Header" "isList" "Z" (.int (0 : Int32)) := f_18.other W_40 (Or.inl (Ne.symm P6))
      have f_56 : Fld Z h_39 hd "com/example/nestwire/nestwire/codec/Header" "payloadStart" "I" (.int p) := f_19.other W_40 (Or.inl (Ne.symm P6))
      have f_57 : Fld Z h_39 hd "com/example/nestwire/nestwire/codec/Header" "payloadLength" "I" (.int pl) := f_20.other W_40 (Or.inl (Ne.symm P6))
      have kp_58 : Keep h h_39 [a, hd] := kp_38.wr W_40 (Or.inl (by simp))
      refine K.aloadN d5_45 (pc' := 46) rfl rfl rfl ?_
      refine K.getf d5_46 (pc' := 49) rfl (host := "") (Or.inl (hw _ (List.mem_of_getElem? (i := 18) rfl))) Via.refl f_46 ?_
      refine K.callv (z := (⟨"com/example/nestwire/nestwire/codec/Header", "isList", "()Z"⟩ : MethodName)) (argsL := []) (rest := []) d5_49 (pc' := 52) rfl (c_isl l Z a0 hw n0 h_39 (a := hd) (l0 := (0 : Int32)) f_42 f_55 (Or.inl rfl)) f_42 (hw _ (List.mem_of_getElem? (i := 76) rfl)) (hw _ (List.mem_of_getElem? (i := 77) rfl)) (nf_sel (hw _ (List.mem_of_getElem? (i := 79) rfl)) rfl) (hw _ (List.mem_of_getElem? (i := 79) rfl)) (hw _ (List.mem_of_getElem? (i := 78) rfl)) (hw _ (List.mem_of_getElem? (i := 13) rfl)) (hw _ (List.mem_of_getElem? (i := 80) rfl)) (by decide) pd_3 rfl rfl (W := 0) (by simp [Value.category]) (by decide) (by decide) (by decide) (by decide) (fun v_61 h_59 q_60 => ?_)
      obtain ⟨rfl, rfl⟩ := q_60
      show G h_39 0 0 (mkF m 52 #[.val (.ref a)] [(.int (0 : Int32))])
      refine K.if_eq d5_52 (pc1 := 55) rfl (by decide) (pc2 := 122) (by decide) (a := 0) rfl (fun c52 => ?_) (fun c52 => ?_)
      · refine K.aloadN d5_122 (pc' := 123) rfl rfl rfl ?_
        refine K.aloadN d5_123 (pc' := 124) rfl rfl rfl ?_
        refine K.getf d5_124 (pc' := 127) rfl (host := "") (Or.inl (hw _ (List.mem_of_getElem? (i := 18) rfl))) Via.refl f_46 ?_
        refine K.callv (z := (⟨"com/example/nestwire/nestwire/codec/Header", "payloadEnd", "()I"⟩ : MethodName)) (argsL := []) (rest := [(.ref a)]) d5_127 (pc' := 130) rfl (c_pen l Z a0 hw n0 h_39 (a := hd) (s0 := p) (g0 := pl) f_42 f_56 f_57 (by omega)) f_42 (hw _ (List.mem_of_getElem? (i := 81) rfl)) (hw _ (List.mem_of_getElem? (i := 82) rfl)) (nf_sel (hw _ (List.mem_of_getElem? (i := 84) rfl)) rfl) (hw _ (List.mem_of_getElem? (i := 84) rfl)) (hw _ (List.mem_of_getElem? (i := 83) rfl)) (hw _ (List.mem_of_getElem? (i := 13) rfl)) (hw _ (List.mem_of_getElem? (i := 85) rfl)) (by decide) pd_5 rfl rfl (W := 1) (by simp [Value.category]) (by decide) (by decide) (by decide) (by decide) (fun v_65 h_63 q_64 => ?_)
        obtain ⟨pe, rfl, t_pe, rfl⟩ := q_64
        show G h_39 0 0 (mkF m 130 #[.val (.ref a)] [(.int pe), (.ref a)])
        refine K.putf d5_130 (pc' := 133) rfl (host := "") (Or.inl (hw _ (List.mem_of_getElem? (i := 27) rfl))) Via.refl f_50 f_41 (Or.inl (hw _ (List.mem_of_getElem? (i := 28) rfl))) (hw _ (List.mem_of_getElem? (i := 3) rfl)) (ty := .int) (by decide) rfl rfl P3 (fun h_66 W_67 => ?_)
        have f_68 : Exa Z h_66 a "com/example/nestwire/nestwire/codec/EncodingWalker" := f_41.wr W_67
        have f_69 : Exa Z h_66 hd "com/example/nestwire/nestwire/codec/Header" := f_42.wr W_67
        have f_70 : Old Z n0 h_66 := f_43.wr W_67 P3
        have f_71 : Ary Z h_66 en .int [(.int e0), (.int e1), (.int (0 : Int32)), (.int (0 : Int32)), (.int (0 : Int32)), (.int (0 : Int32)), (.int (0 : Int32)), (.int (0 : Int32)), (.int (0 : Int32)), (.int (0 : Int32)), (.int (0 : Int32)), (.int (0 : Int32)), (.int (0 : Int32)), (.int (0 : Int32)), (.int (0 : Int32)), (.int (0 : Int32))] := f_44.other W_67 (Ne.symm P7)
        have f_72 : Ary Z h_66 eb .byte vs := f_45.other W_67 (Ne.symm P8)
        have f_73 : Fld Z h_66 a "com/example/nestwire/nestwire/codec/EncodingWalker" "header" "Lcom/example/nestwire/nestwire/codec/Header;" (.ref hd) := f_46.other W_67 (Or.inr (slot_ne (Or.inr (hw _ (List.mem_of_getElem? (i := 19) rfl))) (Or.inl (hw _ (List.mem_of_getElem? (i := 28) rfl))) (by decide) (t := (.object "com/example/nestwire/nestwire/codec/Header")) (t' := .int) (by decide) (by decide)))
        have f_74 : Fld Z h_66 a "com/example/nestwire/nestwire/codec/EncodingWalker" "ends" "[I" (.ref en) := f_47.other W_67 (Or.inr (slot_ne (Or.inl (hw _ (List.mem_of_getElem? (i := 22) rfl))) (Or.inl (hw _ (List.mem_of_getElem? (i := 28) rfl))) (by decide) (t := (.array .int)) (t' := .int) (by decide) (by decide)))
        have f_75 : Fld Z h_66 a "com/example/nestwire/nestwire/codec/EncodingWalker" "encoding" "[B" (.ref eb) := f_48.other W_67 (Or.inr (slot_ne (Or.inr (hw _ (List.mem_of_getElem? (i := 24) rfl))) (Or.inl (hw _ (List.mem_of_getElem? (i := 28) rfl))) (by decide) (t := (.array .byte)) (t' := .int) (by decide) (by decide)))
        have f_76 : Fld Z h_66 a "com/example/nestwire/nestwire/codec/EncodingWalker" "end" "I" (.int n) := f_49.other W_67 (Or.inr (slot_ne (Or.inr (hw _ (List.mem_of_getElem? (i := 26) rfl))) (Or.inl (hw _ (List.mem_of_getElem? (i := 28) rfl))) (by decide) (t := .int) (t' := .int) (by decide) (by decide)))
        have f_77 : Fld Z h_66 a "com/example/nestwire/nestwire/codec/EncodingWalker" "position" "I" (.int pe) := f_50.same W_67
        have f_78 : Fld Z h_66 a "com/example/nestwire/nestwire/codec/EncodingWalker" "depth" "I" (.int (2 : Int32)) := f_51.other W_67 (Or.inr (slot_ne (Or.inl (hw _ (List.mem_of_getElem? (i := 35) rfl))) (Or.inl (hw _ (List.mem_of_getElem? (i := 28) rfl))) (by decide) (t := .int) (t' := .int) (by decide) (by decide)))
        have f_79 : Fld Z h_66 a "com/example/nestwire/nestwire/codec/EncodingWalker" "started" "Z" (.int (1 : Int32)) := f_52.other W_67 (Or.inr (slot_ne (Or.inl (hw _ (List.mem_of_getElem? (i := 49) rfl))) (Or.inl (hw _ (List.mem_of_getElem? (i := 28) rfl))) (by decide) (t := .boolean) (t' := .int) (by decide) (by decide)))
        have f_80 : Fld Z h_66 a "com/example/nestwire/nestwire/codec/EncodingWalker" "peeked" "Z" (.int (0 : Int32)) := f_53.other W_67 (Or.inr (slot_ne (Or.inl (hw _ (List.mem_of_getElem? (i := 43) rfl))) (Or.inl (hw _ (List.mem_of_getElem? (i := 28) rfl))) (by decide) (t := .boolean) (t' := .int) (by decide) (by decide)))
        have f_81 : Fld Z h_66 a "com/example/nestwire/nestwire/codec/EncodingWalker" "itemStart" "I" (.int p) := f_54.other W_67 (Or.inr (slot_ne (Or.inl (hw _ (List.mem_of_getElem? (i := 75) rfl))) (Or.inl (hw _ (List.mem_of_getElem? (i := 28) rfl))) (by decide) (t := .int) (t' := .int) (by decide) (by decide)))
        have f_82 : Fld Z h_66 hd "com/example/nestwire/nestwire/codec/Header" "isList" "Z" (.int (0 : Int32)) := f_55.other W_67 (Or.inl (Ne.symm P6))
        have f_83 : Fld Z h_66 hd "com/example/nestwire/nestwire/codec/Header" "payloadStart" "I" (.int p) := f_56.other W_67 (Or.inl (Ne.symm P6))
        have f_84 : Fld Z h_66 hd "com/example/nestwire/nestwire/codec/Header" "payloadLength" "I" (.int pl) := f_57.other W_67 (Or.inl (Ne.symm P6))
        have kp_85 : Keep h h_66 [a, hd] := kp_58.wr W_67 (Or.inl (by simp))
        refine K.gets d5_133 (pc' := 136) rfl (host := "") (Or.inl (hw _ (List.mem_of_getElem? (i := 103) rfl))) Via.refl (P13.ext f_70.2) ?_
        exact K.reta d5_136 rfl rfl rfl (by decide) (by decide) ⟨pe, (0 : Int32), p, pl, rfl, kp_85, by omega, f_73, f_74, f_75, f_76, f_77, f_78, f_79, f_80, f_81, f_82, f_83, f_84⟩
      · exfalso; omega
    · exfalso; omega
  · exfalso; omega
theorem d5_55 : decode prog_9_method_9_code 55 = .ok (.aload_n 0, 1) := by decide +kernel
theorem d5_56 : decode prog_9_method_9_code 56 = .ok (.getfield 52, 3) := by decide +kernel
theorem d5_59 : decode prog_9_method_9_code 59 = .ok (.aload_n 0, 1) := by decide +kernel
theorem d5_60 : decode prog_9_method_9_code 60 = .ok (.getfield 19, 3) := by decide +kernel
theorem d5_63 : decode prog_9_method_9_code 63 = .ok (.arraylength, 1) := by decide +kernel
theorem d5_64 : decode prog_9_method_9_code 64 = .ok (.if_icmp .ne 20, 3) := by decide +kernel
theorem d5_84 : decode prog_9_method_9_code 84 = .ok (.aload_n 0, 1) := by decide +kernel
theorem d5_85 : decode prog_9_method_9_code 85 = .ok (.getfield 19, 3) := by decide +kernel
theorem d5_88 : decode prog_9_method_9_code 88 = .ok (.aload_n 0, 1) := by decide +kernel
theorem d5_89 : decode prog_9_method_9_code 89 = .ok (.dup, 1) := by decide +kernel
theorem d5_90 : decode prog_9_method_9_code 90 = .ok (.getfield 52, 3) := by decide +kernel
theorem d5_93 : decode prog_9_method_9_code 93 = .ok (.dup_x1, 1) := by decide +kernel
theorem d5_94 : decode prog_9_method_9_code 94 = .ok (.iconst 1, 1) := by decide +kernel
theorem d5_95 : decode prog_9_method_9_code 95 = .ok (.iadd, 1) := by decide +kernel
theorem d5_96 : decode prog_9_method_9_code 96 = .ok (.putfield 52, 3) := by decide +kernel
theorem d5_99 : decode prog_9_method_9_code 99 = .ok (.aload_n 0, 1) := by decide +kernel
theorem d5_100 : decode prog_9_method_9_code 100 = .ok (.getfield 15, 3) := by decide +kernel
theorem d5_103 : decode prog_9_method_9_code 103 = .ok (.invokevirtual 85, 3) := by decide +kernel
theorem d5_106 : decode prog_9_method_9_code 106 = .ok (.iastore, 1) := by decide +kernel
theorem d5_107 : decode prog_9_method_9_code 107 = .ok (.aload_n 0, 1) := by decide +kernel
theorem d5_108 : decode prog_9_method_9_code 108 = .ok (.aload_n 0, 1) := by decide +kernel
theorem d5_109 : decode prog_9_method_9_code 109 = .ok (.getfield 15, 3) := by decide +kernel
theorem d5_112 : decode prog_9_method_9_code 112 = .ok (.invokevirtual 89, 3) := by decide +kernel
theorem d5_115 : decode prog_9_method_9_code 115 = .ok (.putfield 31, 3) := by decide +kernel
theorem d5_118 : decode prog_9_method_9_code 118 = .ok (.getstatic 73, 3) := by decide +kernel
theorem d5_121 : decode prog_9_method_9_code 121 = .ok (.areturn, 1) := by decide +kernel
set_option maxRecDepth 65536 in
set_option maxHeartbeats 40000000 in
theorem c_nC0 (l : Launch) (Z : State) (a0 : Array Value) (hw : ∀ d ∈ tables_1, d.before a0 Z = true) (n0 : Nat) (h : Heap) (a : Addr) (hd : Addr) (en : Addr) (eb : Addr) (n : Int32) (p : Int32) (i0 : Int32) (l0 : Int32) (s0 : Int32) (g0 : Int32) (e0 : Int32) (e1 : Int32) (vs : List Value) (b : Int32) (cS : Addr) (P1 : Exa Z h a "com/example/nestwire/nestwire/codec/EncodingWalker") (P2 : Exa Z h hd "com/example/nestwire/nestwire/codec/Header") (P3 : n0 ≤ a) (P4 : n0 ≤ hd) (P5 : n0 ≤ en) (P6 : a ≠ hd) (P7 : a ≠ en) (P8 : a ≠ eb) (P9 : hd ≠ en) (P10 : hd ≠ eb) (P11 : en ≠ eb) (P12 : Old Z n0 h) (P13 : Sta Z Z.heap "com/example/nestwire/nestwire/codec/RlpWalker$Step" "LIST_START" "Lcom/example/nestwire/nestwire/codec/RlpWalker$Step;" (.ref cS)) (P14 : Fld Z h a "com/example/nestwire/nestwire/codec/EncodingWalker" "header" "Lcom/example/nestwire/nestwire/codec/Header;" (.ref hd)) (P15 : Fld Z h a "com/example/nestwire/nestwire/codec/EncodingWalker" "ends" "[I" (.ref en)) (P16 : Fld Z h a "com/example/nestwire/nestwire/codec/EncodingWalker" "encoding" "[B" (.ref eb)) (P17 : Fld Z h a "com/example/nestwire/nestwire/codec/EncodingWalker" "end" "I" (.int n)) (P18 : Fld Z h a "com/example/nestwire/nestwire/codec/EncodingWalker" "position" "I" (.int p)) (P19 : Fld Z h a "com/example/nestwire/nestwire/codec/EncodingWalker" "depth" "I" (.int (0 : Int32))) (P20 : Fld Z h a "com/example/nestwire/nestwire/codec/EncodingWalker" "started" "Z" (.int (0 : Int32))) (P21 : Fld Z h a "com/example/nestwire/nestwire/codec/EncodingWalker" "peeked" "Z" (.int (0 : Int32))) (P22 : Fld Z h a "com/example/nestwire/nestwire/codec/EncodingWalker" "itemStart" "I" (.int i0)) (P23 : Fld Z h hd "com/example/nestwire/nestwire/codec/Header" "isList" "Z" (.int l0)) (P24 : Fld Z h hd "com/example/nestwire/nestwire/codec/Header" "payloadStart" "I" (.int s0)) (P25 : Fld Z h hd "com/example/nestwire/nestwire/codec/Header" "payloadLength" "I" (.int g0)) (P26 : Ary Z h en .int [(.int e0), (.int e1), (.int (0 : Int32)), (.int (0 : Int32)), (.int (0 : Int32)), (.int (0 : Int32)), (.int (0 : Int32)), (.int (0 : Int32)), (.int (0 : Int32)), (.int (0 : Int32)), (.int (0 : Int32)), (.int (0 : Int32)), (.int (0 : Int32)), (.int (0 : Int32)), (.int (0 : Int32)), (.int (0 : Int32))]) (P27 : Ary Z h eb .byte vs) (hv : vs[p.toInt.toNat]? = some (.int b)) (hp : 0 ≤ p.toInt ∧ p.toInt < 100) (hb : -64 ≤ b.toInt ∧ b.toInt ≤ -9) (hlim : n.toInt < 200 ∧ p.toInt + 1 + (b.toInt + 64) ≤ n.toInt) : MeetsW l Z n0 (⟨"com/example/nestwire/nestwire/codec/EncodingWalker", "next", "()Lcom/example/nestwire/nestwire/codec/RlpWalker$Step;"⟩ : MethodName) prog_9_method_9_code 1 (some (.object "com/example/nestwire/nestwire/codec/RlpWalker$Step")) ({ frames := 4, cells := 0, slots := 0, locals := 60 } : Room) #[(.ref a)] h (fun v h' => ∃ (pe : Int32) (ee : Int32) (s1 : Int32) (g1 : Int32), v = some (.ref cS) ∧ Keep h h' [a, hd, en] ∧ (pe.toInt = p.toInt + 1 ∧ ee.toInt = p.toInt + 1 + (b.toInt + 64)) ∧ Fld Z h' a "com/example/nestwire/nestwire/codec/EncodingWalker" "header" "Lcom/example/nestwire/nestwire/codec/Header;" (.ref hd) ∧ Fld Z h' a "com/example/nestwire/nestwire/codec/EncodingWalker" "ends" "[I" (.ref en) ∧ Fld Z h' a "com/example/nestwire/nestwire/codec/EncodingWalker" "encoding" "[B" (.ref eb) ∧ Fld Z h' a "com/example/nestwire/nestwire/codec/EncodingWalker" "end" "I" (.int n) ∧ Fld Z h' a "com/example/nestwire/nestwire/codec/EncodingWalker" "position" "I" (.int pe) ∧ Fld Z h' a "com/example/nestwire/nestwire/codec/EncodingWalker" "depth" "I" (.int (1 : Int32)) ∧ Fld Z h' a "com/example/nestwire/nestwire/codec/EncodingWalker" "started" "Z" (.int (1 : Int32)) ∧ Fld Z h' a "com/example/nestwire/nestwire/codec/EncodingWalker" "peeked" "Z" (.int (0 : Int32)) ∧ Fld Z h' a "com/example/nestwire/nestwire/codec/EncodingWalker" "itemStart" "I" (.int p) ∧ Fld Z h' hd "com/example/nestwire/nestwire/codec/Header" "isList" "Z" (.int (1 : Int32)) ∧ Fld Z h' hd "com/example/nestwire/nestwire/codec/Header" "payloadStart" "I" (.int s1) ∧ Fld Z h' hd "com/example/nestwire/nestwire/codec/Header" "payloadLength" "I" (.int g1) ∧ Ary Z h' en .int [(.int ee), (.int e1), (.int (0 : Int32)), (.int (0 : Int32)), (.int (0 : Int32)), (.int (0 : Int32)), (.int (0 : Int32)), (.int (0 : Int32)), (.int (0 : Int32)), (.int (0 : Int32)), (.int (0 : Int32)), (.int (0 : Int32)), (.int (0 : Int32)), (.int (0 : Int32)), (.int (0 : Int32)), (.int (0 : Int32))]) := by
  refine MeetsW.intro (plainFor_of_name pn_com_example_nestwire_nestwire_codec_EncodingWalker) (L0 := #[.val (.ref a)]) (fun m => by first | (simp [entryFrame, mkF, argsToLocals, Value.category]; done) | rfl) ?_
  intro m G K0
  have K : Cx l ({ frames := 4, cells := 0, slots := 0, locals := 60 } : Room) Z n0 _ "com/example/nestwire/nestwire/codec/EncodingWalker" "next" prog_9_method_9_code 1 (some (.object "com/example/nestwire/nestwire/codec/RlpWalker$Step")) m G := K0
  refine K.aloadN d5_0 (pc' := 1) rfl rfl rfl ?_
  refine K.callv (z := (⟨"com/example/nestwire/nestwire/codec/EncodingWalker", "atListEnd", "()Z"⟩ : MethodName)) (argsL := []) (rest := []) d5_1 (pc' := 4) rfl (c_ale0 l Z a0 hw n0 h (a := a) (en := en) (p := p) (e0 := e0) (e1 := e1) P1 P19 P18 P15 P26) P1 (hw _ (List.mem_of_getElem? (i := 41) rfl)) (hw _ (List.mem_of_getElem? (i := 30) rfl)) (nf_sel (hw _ (List.mem_of_getElem? (i := 32) rfl)) rfl) (hw _ (List.mem_of_getElem? (i := 32) rfl)) (hw _ (List.mem_of_getElem? (i := 31) rfl)) (hw _ (List.mem_of_getElem? (i := 4) rfl)) (hw _ (List.mem_of_getElem? (i := 33) rfl)) (by decide) pd_3 rfl rfl (W := 0) (by simp [Value.category]) (by decide) (by decide) (by decide) (by decide) (fun v_3 h_1 q_2 => ?_)
  obtain ⟨rfl, rfl⟩ := q_2
  show G h 0 0 (mkF m 4 #[.val (.ref a)] [(.int (b2 (False)))])
  refine K.ifeqB d5_4 (pc1 := 7) rfl (by decide) (pc2 := 21) (by decide) (fun c4 => ?_) (fun c4 => ?_)
  · refine K.aloadN d5_21 (pc' := 22) rfl rfl rfl ?_
    refine K.getf d5_22 (pc' := 25) rfl (host := "") (Or.inl (hw _ (List.mem_of_getElem? (i := 42) rfl))) Via.refl P21 ?_
    refine K.if_eq d5_25 (pc1 := 28) rfl (by decide) (pc2 := 36) (by decide) (a := 0) rfl (fun c25 => ?_) (fun c25 => ?_)
    · refine K.aloadN d5_36 (pc' := 37) rfl rfl rfl ?_
      refine K.callp (argsL := []) (rest := []) d5_37 (pc' := 40) rfl (c_rh02 l Z a0 hw n0 h (a := a) (hd := hd) (en := en) (eb := eb) (n := n) (p := p) (i0 := i0) (l0 := l0) (s0 := s0) (g0 := g0) (e0 := e0) (e1 := e1) (vs := vs) (b := b) P1 P2 P3 P4 P5 P6 P7 P8 P9 P10 P11 P14 P15 P16 P17 P18 P19 P20 P21 P22 P23 P24 P25 P26 P27 hv hp hb hlim) P1 (hw _ (List.mem_of_getElem? (i := 44) rfl)) (hw _ (List.mem_of_getElem? (i := 45) rfl)) (hw _ (List.mem_of_getElem? (i := 3) rfl)) (hw _ (List.mem_of_getElem? (i := 46) rfl)) (hw _ (List.mem_of_getElem? (i := 4) rfl)) (hw _ (List.mem_of_getElem? (i := 47) rfl)) (by decide) pd_4 rfl rfl (W := 0) (by simp [Value.category]) (by decide) (by decide) (by decide) (by decide) (fun v_7 h_5 q_6 => ?_)
      obtain ⟨ps, pl, rfl, K_8, hpl_rh, f_9, f_10, f_11, f_12, f_13, f_14, f_15, f_16, f_17, f_18, f_19, f_20⟩ := q_6
      have f_21 : Exa Z h_5 a "com/example/nestwire/nestwire/codec/EncodingWalker" := P1.keep K_8
      have f_22 : Exa Z h_5 hd "com/example/nestwire/nestwire/codec/Header" := P2.keep K_8
      have f_23 : Old Z n0 h_5 := P12.keep K_8 (allS P3 (allS P4 all0))
      have f_36 : Ary Z h_5 en .int [(.int e0), (.int e1), (.int (0 : Int32)), (.int (0 : Int32)), (.int (0 : Int32)), (.int (0 : Int32)), (.int (0 : Int32)), (.int (0 : Int32)), (.int (0 : Int32)), (.int (0 : Int32)), (.int (0 : Int32)), (.int (0 : Int32)), (.int (0 : Int32)), (.int (0 : Int32)), (.int (0 : Int32)), (.int (0 : Int32))] := P26.keep K_8 (ninS (Ne.symm P7) (ninS (Ne.symm P9) nin0))
      have f_37 : Ary Z h_5 eb .byte vs := P27.keep K_8 (ninS (Ne.symm P8) (ninS (Ne.symm P10) nin0))
      have kp_38 : Keep h h_5 [a, hd, en] := (Keep.refl h [a, hd, en]).trans K_8 (allS (Or.inl (by simp)) (allS (Or.inl (by simp)) all0))
      show G h_5 0 0 (mkF m 40 #[.val (.ref a)] [])
      refine K.aloadN d5_40 (pc' := 41) rfl rfl rfl ?_
      refine K.iconst d5_41 (pc' := 42) rfl (z := 1) rfl ?_
      refine K.putf d5_42 (pc' := 45) rfl (host := "") (Or.inl (hw _ (List.mem_of_getElem? (i := 48) rfl))) Via.refl f_15 f_21 (Or.inl (hw _ (List.mem_of_getElem? (i := 49) rfl))) (hw _ (List.mem_of_getElem? (i := 3) rfl)) (ty := .boolean) (by decide) rfl rfl P3 (fun h_39 W_40 => ?_)
      have f_41 : Exa Z h_39 a "com/example/nestwire/nestwire/codec/EncodingWalker" := f_21.wr W_40
      have f_42 : Exa Z h_39 hd "com/example/nestwire/nestwire/codec/Header" := f_22.wr W_40
      have f_43 : Old Z n0 h_39 := f_23.wr W_40 P3
      have f_44 : Ary Z h_39 en .int [(.int e0), (.int e1), (.int (0 : Int32)), (.int (0 : Int32)), (.int (0 : Int32)), (.int (0 : Int32)), (.int (0 : Int32)), (.int (0 : Int32)), (.int (0 : Int32)), (.int (0 : Int32)), (.int (0 : Int32)), (.int (0 : Int32)), (.int (0 : Int32)), (.int (0 : Int32)), (.int (0 : Int32)), (.int (0 : Int32))] := f_36.other W_40 (Ne.symm P7)
      have f_45 : Ary Z h_39 eb .byte vs := f_37.other W_40 (Ne.symm P8)
      have f_46 : Fld Z h_39 a "com/example/nestwire/nestwire/codec/EncodingWalker" "header" "Lcom/example/nestwire/nestwire/codec/Header;" (.ref hd) := f_9.other W_40 (Or.inr (slot_ne (Or.inr (hw _ (List.mem_of_getElem? (i := 19) rfl))) (Or.inl (hw _ (List.mem_of_getElem? (i := 49) rfl))) (by decide) (t := (.object "com/example/nestwire/nestwire/codec/Header")) (t' := .boolean) (by decide) (by decide)))
      have f_47 : Fld Z h_39 a "com/example/nestwire/nestwire/codec/EncodingWalker" "ends" "[I" (.ref en) := f_10.other W_40 (Or.inr (slot_ne (Or.inl (hw _ (List.mem_of_getElem? (i := 22) rfl))) (Or.inl (hw _ (List.mem_of_getElem? (i := 49) rfl))) (by decide) (t := (.array .int)) (t' := .boolean) (by decide) (by decide)))
      have f_48 : Fld Z h_39 a "com/example/nestwire/nestwire/codec/EncodingWalker" "encoding" "[B" (.ref eb) := f_11.other W_40 (Or.inr (slot_ne (Or.inr (hw _ (List.mem_of_getElem? (i := 24) rfl))) (Or.inl (hw _ (List.mem_of_getElem? (i := 49) rfl))) (by decide) (t := (.array .byte)) (t' := .boolean) (by decide) (by decide)))
      have f_49 : Fld Z h_39 a "com/example/nestwire/nestwire/codec/EncodingWalker" "end" "I" (.int n) := f_12.other W_40 (Or.inr (slot_ne (Or.inr (hw _ (List.mem_of_getElem? (i := 26) rfl))) (Or.inl (hw _ (List.mem_of_getElem? (i := 49) rfl))) (by decide) (t := .int) (t' := .boolean) (by decide) (by decide)))
      have f_50 : Fld Z h_39 a "com/example/nestwire/nestwire/codec/EncodingWalker" "position" "I" (.int p) := f_13.other W_40 (Or.inr (slot_ne (Or.inl (hw _ (List.mem_of_getElem? (i := 28) rfl))) (Or.inl (hw _ (List.mem_of_getElem? (i := 49) rfl))) (by decide) (t := .int) (t' := .boolean) (by decide) (by decide)))
      have f_51 : Fld Z h_39 a "com/example/nestwire/nestwire/codec/EncodingWalker" "depth" "I" (.int (0 : Int32)) := f_14.other W_40 (Or.inr (slot_ne (Or.inl (hw _ (List.mem_of_getElem? (i := 35) rfl))) (Or.inl (hw _ (List.mem_of_getElem? (i := 49) rfl))) (by decide) (t := .int) (t' := .boolean) (by decide) (by decide)))
      have f_52 : Fld Z h_39 a "com/example/nestwire/nestwire/codec/EncodingWalker" "started" "Z" (.int (1 : Int32)) := f_15.same W_40
      have f_53 : Fld Z h_39 a "com/example/nestwire/nestwire/codec/EncodingWalker" "peeked" "Z" (.int (0 : Int32)) := f_16.other W_40 (Or.inr (slot_ne (Or.inl (hw _ (List.mem_of_getElem? (i := 43) rfl))) (Or.inl (hw _ (List.mem_of_getElem? (i := 49) rfl))) (by decide) (t := .boolean) (t' := .boolean) (by decide) (by decide)))
      have f_54 : Fld Z h_39 a "com/example/nestwire/nestwire/codec/EncodingWalker" "itemStart" "I" (.int p) := f_17.other W_40 (Or.inr (slot_ne (Or.inl (hw _ (List.mem_of_getElem? (i := 75) rfl))) (Or.inl (hw _ (List.mem_of_getElem? (i := 49) rfl))) (by decide) (t := .int) (t' := .boolean) (by decide) (by decide)))
      have f_55 : Fld Z h_39 hd "com/example/nestwire/nestwire/codec/Header" "isList" "Z" (.int (1 : Int32)) := f_18.other W_40 (Or.inl (Ne.symm P6))
      have f_56 : Fld Z h_39 hd "com/example/nestwire/nestwire/codec/Header" "payloadStart" "I" (.int ps) := f_19.other W_40 (Or.inl (Ne.symm P6))
      have f_57 : Fld Z h_39 hd "com/example/nestwire/nestwire/codec/Header" "payloadLength" "I" (.int pl) := f_20.other W_40 (Or.inl (Ne.symm P6))
      have kp_58 : Keep h h_39 [a, hd, en] := kp_38.wr W_40 (Or.inl (by simp))
      refine K.aloadN d5_45 (pc' := 46) rfl rfl rfl ?_
      refine K.getf d5_46 (pc' := 49) rfl (host := "") (Or.inl (hw _ (List.mem_of_getElem? (i := 18) rfl))) Via.refl f_46 ?_
      refine K.callv (z := (⟨"com/example/nestwire/nestwire/codec/Header", "isList", "()Z"⟩ : MethodName)) (argsL := []) (rest := []) d5_49 (pc' := 52) rfl (c_isl l Z a0 hw n0 h_39 (a := hd) (l0 := (1 : Int32)) f_42 f_55 (Or.inr rfl)) f_42 (hw _ (List.mem_of_getElem? (i := 76) rfl)) (hw _ (List.mem_of_getElem? (i := 77) rfl)) (nf_sel (hw _ (List.mem_of_getElem? (i := 79) rfl)) rfl) (hw _ (List.mem_of_getElem? (i := 79) rfl)) (hw _ (List.mem_of_getElem? (i := 78) rfl)) (hw _ (List.mem_of_getElem? (i := 13) rfl)) (hw _ (List.mem_of_getElem? (i := 80) rfl)) (by decide) pd_3 rfl rfl (W := 0) (by simp [Value.category]) (by decide) (by decide) (by decide) (by decide) (fun v_61 h_59 q_60 => ?_)
      obtain ⟨rfl, rfl⟩ := q_60
      show G h_39 0 0 (mkF m 52 #[.val (.ref a)] [(.int (1 : Int32))])
      refine K.if_eq d5_52 (pc1 := 55) rfl (by decide) (pc2 := 122) (by decide) (a := 1) rfl (fun c52 => ?_) (fun c52 => ?_)
      · exfalso; omega
      · refine K.aloadN d5_55 (pc' := 56) rfl rfl rfl ?_
        refine K.getf d5_56 (pc' := 59) rfl (host := "") (Or.inl (hw _ (List.mem_of_getElem? (i := 34) rfl))) Via.refl f_51 ?_
        refine K.aloadN d5_59 (pc' := 60) rfl rfl rfl ?_
        refine K.getf d5_60 (pc' := 63) rfl (host := "") (Or.inl (hw _ (List.mem_of_getElem? (i := 21) rfl))) Via.refl f_47 ?_
        refine K.alen d5_63 (pc' := 64) rfl f_44 (fun zl e_zl => ?_)
        have t_zl : zl.toInt = 16 := e_zl
        refine K.icmp_ne d5_64 (pc1 := 67) rfl (by decide) (pc2 := 84) (by decide) (a := 0) (b := zl.toInt) rfl rfl (fun c64 => ?_) (fun c64 => ?_)
        · refine K.aloadN d5_84 (pc' := 85) rfl rfl rfl ?_
          refine K.getf d5_85 (pc' := 88) rfl (host := "") (Or.inl (hw _ (List.mem_of_getElem? (i := 21) rfl))) Via.refl f_47 ?_
          refine K.aloadN d5_88 (pc' := 89) rfl rfl rfl ?_
          refine K.dup d5_89 (pc' := 90) rfl rfl ?_
          refine K.getf d5_90 (pc' := 93) rfl (host := "") (Or.inl (hw _ (List.mem_of_getElem? (i := 34) rfl))) Via.refl f_51 ?_
          refine K.dupX1 d5_93 (pc' := 94) rfl rfl rfl ?_
          refine K.iconst d5_94 (pc' := 95) rfl (z := 1) rfl ?_
          refine K.iadd d5_95 (pc' := 96) rfl (z := (1 : Int32)) (by decide) ?_
          refine K.putf d5_96 (pc' := 99) rfl (host := "") (Or.inl (hw _ (List.mem_of_getElem? (i := 34) rfl))) Via.refl f_51 f_41 (Or.inl (hw _ (List.mem_of_getElem? (i := 35) rfl))) (hw _ (List.mem_of_getElem? (i := 3) rfl)) (ty := .int) (by decide) rfl rfl P3 (fun h_63 W_64 => ?_)
          have f_65 : Exa Z h_63 a "com/example/nestwire/nestwire/codec/EncodingWalker" := f_41.wr W_64
          have f_66 : Exa Z h_63 hd "com/example/nestwire/nestwire/codec/Header" := f_42.wr W_64
          have f_67 : Old Z n0 h_63 := f_43.wr W_64 P3
          have f_68 : Ary Z h_63 en .int [(.int e0), (.int e1), (.int (0 : Int32)), (.int (0 : Int32)), (.int (0 : Int32)), (.int (0 : Int32)), (.int (0 : Int32)), (.int (0 : Int32)), (.int (0 : Int32)), (.int (0 : Int32)), (.int (0 : Int32)), (.int (0 : Int32)), (.int (0 : Int32)), (.int (0 : Int32)), (.int (0 : Int32)), (.int (0 : Int32))] := f_44.other W_64 (Ne.symm P7)
          have f_69 : Ary Z h_63 eb .byte vs := f_45.other W_64 (Ne.symm P8)
          have f_70 : Fld Z h_63 a "com/example/nestwire/nestwire/codec/EncodingWalker" "header" "Lcom/example/nestwire/nestwire/codec/Header;" (.ref hd) := f_46.other W_64 (Or.inr (slot_ne (Or.inr (hw _ (List.mem_of_getElem? (i := 19) rfl))) (Or.inl (hw _ (List.mem_of_getElem? (i := 35) rfl))) (by decide) (t := (.object "com/example/nestwire/nestwire/codec/Header")) (t' := .int) (by decide) (by decide)))
          have f_71 : Fld Z h_63 a "com/example/nestwire/nestwire/codec/EncodingWalker" "ends" "[I" (.ref en) := f_47.other W_64 (Or.inr (slot_ne (Or.inl (hw _ (List.mem_of_getElem? (i := 22) rfl))) (Or.inl (hw _ (List.mem_of_getElem? (i := 35) rfl))) (by decide) (t := (.array .int)) (t' := .int) (by decide) (by decide)))
          have f_72 : Fld Z h_63 a "com/example/nestwire/nestwire/codec/EncodingWalker" "encoding" "[B" (.ref eb) := f_48.other W_64 (Or.inr (slot_ne (Or.inr (hw _ (List.mem_of_getElem? (i := 24) rfl))) (Or.inl (hw _ (List.mem_of_getElem? (i := 35) rfl))) (by decide) (t := (.array .byte)) (t' := .int) (by decide) (by decide)))
          have f_73 : Fld Z h_63 a "com/example/nestwire/nestwire/codec/EncodingWalker" "end" "I" (.int n) := f_49.other W_64 (Or.inr (slot_ne (Or.inr (hw _ (List.mem_of_getElem? (i := 26) rfl))) (Or.inl (hw _ (List.mem_of_getElem? (i := 35) rfl))) (by decide) (t := .int) (t' := .int) (by decide) (by decide)))
          have f_74 : Fld Z h_63 a "com/example/nestwire/nestwire/codec/EncodingWalker" "position" "I" (.int p) := f_50.other W_64 (Or.inr (slot_ne (Or.inl (hw _ (List.mem_of_getElem? (i := 28) rfl))) (Or.inl (hw _ (List.mem_of_getElem? (i := 35) rfl))) (by decide) (t := .int) (t' := .int) (by decide) (by decide)))
          have f_75 : Fld Z h_63 a "com/example/nestwire/nestwire/codec/EncodingWalker" "depth" "I" (.int (1 : Int32)) := f_51.same W_64
          have f_76 : Fld Z h_63 a "com/example/nestwire/nestwire/codec/EncodingWalker" "started" "Z" (.int (1 : Int32)) := f_52.other W_64 (Or.inr (slot_ne (Or.inl (hw _ (List.mem_of_getElem? (i := 49) rfl))) (Or.inl (hw _ (List.mem_of_getElem? (i := 35) rfl))) (by decide) (t := .boolean) (t' := .int) (by decide) (by decide)))
          have f_77 : Fld Z h_63 a "com/example/nestwire/nestwire/codec/EncodingWalker" "peeked" "Z" (.int (0 : Int32)) := f_53.other W_64 (Or.inr (slot_ne (Or.inl (hw _ (List.mem_of_getElem? (i := 43) rfl))) (Or.inl (hw _ (List.mem_of_getElem? (i := 35) rfl))) (by decide) (t := .boolean) (t' := .int) (by decide) (by decide)))
          have f_78 : Fld Z h_63 a "com/example/nestwire/nestwire/codec/EncodingWalker" "itemStart" "I" (.int p) := f_54.other W_64 (Or.inr (slot_ne (Or.inl (hw _ (List.mem_of_getElem? (i := 75) rfl))) (Or.inl (hw _ (List.mem_of_getElem? (i := 35) rfl))) (by decide) (t := .int) (t' := .int) (by decide) (by decide)))
          have f_79 : Fld Z h_63 hd "com/example/nestwire/nestwire/codec/Header" "isList" "Z" (.int (1 : Int32)) := f_55.other W_64 (Or.inl (Ne.symm P6))
          have f_80 : Fld Z h_63 hd "com/example/nestwire/nestwire/codec/Header" "payloadStart" "I" (.int ps) := f_56.other W_64 (Or.inl (Ne.symm P6))
          have f_81 : Fld Z h_63 hd "com/example/nestwire/nestwire/codec/Header" "payloadLength" "I" (.int pl) := f_57.other W_64 (Or.inl (Ne.symm P6))
          have kp_82 : Keep h h_63 [a, hd, en] := kp_58.wr W_64 (Or.inl (by simp))
          refine K.aloadN d5_99 (pc' := 100) rfl rfl rfl ?_
          refine K.getf d5_100 (pc' := 103) rfl (host := "") (Or.inl (hw _ (List.mem_of_getElem? (i := 18) rfl))) Via.refl f_70 ?_
          refine K.callv (z := (⟨"com/example/nestwire/nestwire/codec/Header", "payloadEnd", "()I"⟩ : MethodName)) (argsL := []) (rest := [(.int (0 : Int32)), (.ref en)]) d5_103 (pc' := 106) rfl (c_pen l Z a0 hw n0 h_63 (a := hd) (s0 := ps) (g0 := pl) f_66 f_80 f_81 (by omega)) f_66 (hw _ (List.mem_of_getElem? (i := 81) rfl)) (hw _ (List.mem_of_getElem? (i := 82) rfl)) (nf_sel (hw _ (List.mem_of_getElem? (i := 84) rfl)) rfl) (hw _ (List.mem_of_getElem? (i := 84) rfl)) (hw _ (List.mem_of_getElem? (i := 83) rfl)) (hw _ (List.mem_of_getElem? (i := 13) rfl)) (hw _ (List.mem_of_getElem? (i := 85) rfl)) (by decide) pd_5 rfl rfl (W := 2) (by simp [Value.category]) (by decide) (by decide) (by decide) (by decide) (fun v_85 h_83 q_84 => ?_)
          obtain ⟨w_86, rfl, t_w_86, rfl⟩ := q_84
          show G h_63 0 0 (mkF m 106 #[.val (.ref a)] [(.int w_86), (.int (0 : Int32)), (.ref en)])
          refine K.iast d5_106 (pc' := 107) rfl f_68 (i := 0) rfl (show 0 < 16 by decide) P5 (fun h_87 W_88 A_89 => ?_)
          have f_90 : Exa Z h_87 a "com/example/nestwire/nestwire/codec/EncodingWalker" := f_65.wr W_88
          have f_91 : Exa Z h_87 hd "com/example/nestwire/nestwire/codec/Header" := f_66.wr W_88
          have f_92 : Old Z n0 h_87 := f_67.wr W_88 P5
          have f_94 : Ary Z h_87 eb .byte vs := f_69.other W_88 (Ne.symm P11)
          have f_95 : Fld Z h_87 a "com/example/nestwire/nestwire/codec/EncodingWalker" "header" "Lcom/example/nestwire/nestwire/codec/Header;" (.ref hd) := f_70.other W_88 (Or.inl P7)
          have f_96 : Fld Z h_87 a "com/example/nestwire/nestwire/codec/EncodingWalker" "ends" "[I" (.ref en) := f_71.other W_88 (Or.inl P7)
          have f_97 : Fld Z h_87 a "com/example/nestwire/nestwire/codec/EncodingWalker" "encoding" "[B" (.ref eb) := f_72.other W_88 (Or.inl P7)
          have f_98 : Fld Z h_87 a "com/example/nestwire/nestwire/codec/EncodingWalker" "end" "I" (.int n) := f_73.other W_88 (Or.inl P7)
          have f_99 : Fld Z h_87 a "com/example/nestwire/nestwire/codec/EncodingWalker" "position" "I" (.int p) := f_74.other W_88 (Or.inl P7)
          have f_100 : Fld Z h_87 a "com/example/nestwire/nestwire/codec/EncodingWalker" "depth" "I" (.int (1 : Int32)) := f_75.other W_88 (Or.inl P7)
          have f_101 : Fld Z h_87 a "com/example/nestwire/nestwire/codec/EncodingWalker" "started" "Z" (.int (1 : Int32)) := f_76.other W_88 (Or.inl P7)
          have f_102 : Fld Z h_87 a "com/example/nestwire/nestwire/codec/EncodingWalker" "peeked" "Z" (.int (0 : Int32)) := f_77.other W_88 (Or.inl P7)
          have f_103 : Fld Z h_87 a "com/example/nestwire/nestwire/codec/EncodingWalker" "itemStart" "I" (.int p) := f_78.other W_88 (Or.inl P7)
          have f_104 : Fld Z h_87 hd "com/example/nestwire/nestwire/codec/Header" "isList" "Z" (.int (1 : Int32)) := f_79.other W_88 (Or.inl P9)
          have f_105 : Fld Z h_87 hd "com/example/nestwire/nestwire/codec/Header" "payloadStart" "I" (.int ps) := f_80.other W_88 (Or.inl P9)
          have f_106 : Fld Z h_87 hd "com/example/nestwire/nestwire/codec/Header" "payloadLength" "I" (.int pl) := f_81.other W_88 (Or.inl P9)
          have kp_107 : Keep h h_87 [a, hd, en] := kp_82.wr W_88 (Or.inl (by simp))
          have A_108 : Ary Z h_87 en .int [(.int w_86), (.int e1), (.int (0 : Int32)), (.int (0 : Int32)), (.int (0 : Int32)), (.int (0 : Int32)), (.int (0 : Int32)), (.int (0 : Int32)), (.int (0 : Int32)), (.int (0 : Int32)), (.int (0 : Int32)), (.int (0 : Int32)), (.int (0 : Int32)), (.int (0 : Int32)), (.int (0 : Int32)), (.int (0 : Int32))] := A_89
          refine K.aloadN d5_107 (pc' := 108) rfl rfl rfl ?_
          refine K.aloadN d5_108 (pc' := 109) rfl rfl rfl ?_
          refine K.getf d5_109 (pc' := 112) rfl (host := "") (Or.inl (hw _ (List.mem_of_getElem? (i := 18) rfl))) Via.refl f_95 ?_
          refine K.callv (z := (⟨"com/example/nestwire/nestwire/codec/Header", "payloadStart", "()I"⟩ : MethodName)) (argsL := []) (rest := [(.ref a)]) d5_112 (pc' := 115) rfl (c_pst l Z a0 hw n0 h_87 (a := hd) (s0 := ps) f_91 f_105) f_91 (hw _ (List.mem_of_getElem? (i := 86) rfl)) (hw _ (List.mem_of_getElem? (i := 87) rfl)) (nf_sel (hw _ (List.mem_of_getElem? (i := 89) rfl)) rfl) (hw _ (List.mem_of_getElem? (i := 89) rfl)) (hw _ (List.mem_of_getElem? (i := 88) rfl)) (hw _ (List.mem_of_getElem? (i := 13) rfl)) (hw _ (List.mem_of_getElem? (i := 90) rfl)) (by decide) pd_5 rfl rfl (W := 1) (by simp [Value.category]) (by decide) (by decide) (by decide) (by decide) (fun v_111 h_109 q_110 => ?_)
          obtain ⟨rfl, rfl⟩ := q_110
          show G h_87 0 0 (mkF m 115 #[.val (.ref a)] [(.int ps), (.ref a)])
          refine K.putf d5_115 (pc' := 118) rfl (host := "") (Or.inl (hw _ (List.mem_of_getElem? (i := 27) rfl))) Via.refl f_99 f_90 (Or.inl (hw _ (List.mem_of_getElem? (i := 28) rfl))) (hw _ (List.mem_of_getElem? (i := 3) rfl)) (ty := .int) (by decide) rfl rfl P3 (fun h_113 W_114 => ?_)
          have f_115 : Exa Z h_113 a "com/example/nestwire/nestwire/codec/EncodingWalker" := f_90.wr W_114
          have f_116 : Exa Z h_113 hd "com/example/nestwire/nestwire/codec/Header" := f_91.wr W_114
          have f_117 : Old Z n0 h_113 := f_92.wr W_114 P3
          have f_118 : Ary Z h_113 en .int [(.int w_86), (.int e1), (.int (0 : Int32)), (.int (0 : Int32)), (.int (0 : Int32)), (.int (0 : Int32)), (.int (0 : Int32)), (.int (0 : Int32)), (.int (0 : Int32)), (.int (0 : Int32)), (.int (0 : Int32)), (.int (0 : Int32)), (.int (0 : Int32)), (.int (0 : Int32)), (.int (0 : Int32)), (.int (0 : Int32))] := A_108.other W_114 (Ne.symm P7)
          have f_119 : Ary Z h_113 eb .byte vs := f_94.other W_114 (Ne.symm P8)
          have f_120 : Fld Z h_113 a "com/example/nestwire/nestwire/codec/EncodingWalker" "header" "Lcom/example/nestwire/nestwire/codec/Header;" (.ref hd) := f_95.other W_114 (Or.inr (slot_ne (Or.inr (hw _ (List.mem_of_getElem? (i := 19) rfl))) (Or.inl (hw _ (List.mem_of_getElem? (i := 28) rfl))) (by decide) (t := (.object "com/example/nestwire/nestwire/codec/Header")) (t' := .int) (by decide) (by decide)))
          have f_121 : Fld Z h_113 a "com/example/nestwire/nestwire/codec/EncodingWalker" "ends" "[I" (.ref en) := f_96.other W_114 (Or.inr (slot_ne (Or.inl (hw _ (List.mem_of_getElem? (i := 22) rfl))) (Or.inl (hw _ (List.mem_of_getElem? (i := 28) rfl))) (by decide) (t := (.array .int)) (t' := .int) (by decide) (by decide)))
          have f_122 : Fld Z h_113 a "com/example/nestwire/nestwire/codec/EncodingWalker" "encoding" "[B" (.ref eb) := f_97.other W_114 (Or.inr (slot_ne (Or.inr (hw _ (List.mem_of_getElem? (i := 24) rfl))) (Or.inl (hw _ (List.mem_of_getElem? (i := 28) rfl))) (by decide) (t := (.array .byte)) (t' := .int) (by decide) (by decide)))
          have f_123 : Fld Z h_113 a "com/example/nestwire/nestwire/codec/EncodingWalker" "end" "I" (.int n) := f_98.other W_114 (Or.inr (slot_ne (Or.inr (hw _ (List.mem_of_getElem? (i := 26) rfl))) (Or.inl (hw _ (List.mem_of_getElem? (i := 28) rfl))) (by decide) (t := .int) (t' := .int) (by decide) (by decide)))
          have f_124 : Fld Z h_113 a "com/example/nestwire/nestwire/codec/EncodingWalker" "position" "I" (.int ps) := f_99.same W_114
          have f_125 : Fld Z h_113 a "com/example/nestwire/nestwire/codec/EncodingWalker" "depth" "I" (.int (1 : Int32)) := f_100.other W_114 (Or.inr (slot_ne (Or.inl (hw _ (List.mem_of_getElem? (i := 35) rfl))) (Or.inl (hw _ (List.mem_of_getElem? (i := 28) rfl))) (by decide) (t := .int) (t' := .int) (by decide) (by decide)))
          have f_126 : Fld Z h_113 a "com/example/nestwire/nestwire/codec/EncodingWalker" "started" "Z" (.int (1 : Int32)) := f_101.other W_114 (Or.inr (slot_ne (Or.inl (hw _ (List.mem_of_getElem? (i := 49) rfl))) (Or.inl (hw _ (List.mem_of_getElem? (i := 28) rfl))) (by decide) (t := .boolean) (t' := .int) (by decide) (by decide)))
          have f_127 : Fld Z h_113 a "com/example/nestwire/nestwire/codec/EncodingWalker" "peeked" "Z" (.int (0 : Int32)) := f_102.other W_114 (Or.inr (slot_ne (Or.inl (hw _ (List.mem_of_getElem? (i := 43) rfl))) (Or.inl (hw _ (List.mem_of_getElem? (i := 28) rfl))) (by decide) (t := .boolean) (t' := .int) (by decide) (by decide)))
          have f_128 : Fld Z h_113 a "com/example/nestwire/nestwire/codec/EncodingWalker" "itemStart" "I" (.int p) := f_103.other W_114 (Or.inr (slot_ne (Or.inl (hw _ (List.mem_of_getElem? (i := 75) rfl))) (Or.inl (hw _ (List.mem_of_getElem? (i := 28) rfl))) (by decide) (t := .int) (t' := .int) (by decide) (by decide)))
          have f_129 : Fld Z h_113 hd "com/example/nestwire/nestwire/codec/Header" "isList" "Z" (.int (1 : Int32)) := f_104.other W_114 (Or.inl (Ne.symm P6))
          have f_130 : Fld Z h_113 hd "com/example/nestwire/nestwire/codec/Header" "payloadStart" "I" (.int ps) := f_105.other W_114 (Or.inl (Ne.symm P6))
          have f_131 : Fld Z h_113 hd "com/example/nestwire/nestwire/codec/Header" "payloadLength" "I" (.int pl) := f_106.other W_114 (Or.inl (Ne.symm P6))
          have kp_132 : Keep h h_113 [a, hd, en] := kp_107.wr W_114 (Or.inl (by simp))
          refine K.gets d5_118 (pc' := 121) rfl (host := "") (Or.inl (hw _ (List.mem_of_getElem? (i := 91) rfl))) Via.refl (P13.ext f_117.2) ?_
          exact K.reta d5_121 rfl rfl rfl (by decide) (by decide) ⟨ps, w_86, ps, pl, rfl, kp_132, by omega, f_120, f_121, f_122, f_123, f_124, f_125, f_126, f_127, f_128, f_129, f_130, f_131, f_118⟩
        · exfalso; omega
    · exfalso; omega
  · exfalso; omega
set_option maxRecDepth 65536 in
set_option maxHeartbeats 40000000 in
theorem c_nC1 (l : Launch) (Z : State) (a0 : Array Value) (hw : ∀ d ∈ tables_1, d.before a0 Z = true) (n0 : Nat) (h : Heap) (a : Addr) (hd : Addr) (en : Addr) (eb : Addr) (n : Int32) (p : Int32) (i0 : Int32) (st0 : Int32) (l0 : Int32) (s0 : Int32) (g0 : Int32) (e0 : Int32) (e1 : Int32) (vs : List Value) (b : Int32) (cS : Addr) (P1 : Exa Z h a "com/example/nestwire/nestwire/codec/EncodingWalker") (P2 : Exa Z h hd "com/example/nestwire/nestwire/codec/Header") (P3 : n0 ≤ a) (P4 : n0 ≤ hd) (P5 : n0 ≤ en) (P6 : a ≠ hd) (P7 : a ≠ en) (P8 : a ≠ eb) (P9 : hd ≠ en) (P10 : hd ≠ eb) (P11 : en ≠ eb) (P12 : Old Z n0 h) (P13 : Sta Z Z.heap "com/example/nestwire/nestwire/codec/RlpWalker$Step" "LIST_START" "Lcom/example/nestwire/nestwire/codec/RlpWalker$Step;" (.ref cS)) (P14 : Fld Z h a "com/example/nestwire/nestwire/codec/EncodingWalker" "header" "Lcom/example/nestwire/nestwire/codec/Header;" (.ref hd)) (P15 : Fld Z h a "com/example/nestwire/nestwire/codec/EncodingWalker" "ends" "[I" (.ref en)) (P16 : Fld Z h a "com/example/nestwire/nestwire/codec/EncodingWalker" "encoding" "[B" (.ref eb)) (P17 : Fld Z h a "com/example/nestwire/nestwire/codec/EncodingWalker" "end" "I" (.int n)) (P18 : Fld Z h a "com/example/nestwire/nestwire/codec/EncodingWalker" "position" "I" (.int p)) (P19 : Fld Z h a "com/example/nestwire/nestwire/codec/EncodingWalker" "depth" "I" (.int (1 : Int32))) (P20 : Fld Z h a "com/example/nestwire/nestwire/codec/EncodingWalker" "started" "Z" (.int st0)) (P21 : Fld Z h a "com/example/nestwire/nestwire/codec/EncodingWalker" "peeked" "Z" (.int (0 : Int32))) (P22 : Fld Z h a "com/example/nestwire/nestwire/codec/EncodingWalker" "itemStart" "I" (.int i0)) (P23 : Fld Z h hd "com/example/nestwire/nestwire/codec/Header" "isList" "Z" (.int l0)) (P24 : Fld Z h hd "com/example/nestwire/nestwire/codec/Header" "payloadStart" "I" (.int s0)) (P25 : Fld Z h hd "com/example/nestwire/nestwire/codec/Header" "payloadLength" "I" (.int g0)) (P26 : Ary Z h en .int [(.int e0), (.int e1), (.int (0 : Int32)), (.int (0 : Int32)), (.int (0 : Int32)), (.int (0 : Int32)), (.int (0 : Int32)), (.int (0 : Int32)), (.int (0 : Int32)), (.int (0 : Int32)), (.int (0 : Int32)), (.int (0 : Int32)), (.int (0 : Int32)), (.int (0 : Int32)), (.int (0 : Int32)), (.int (0 : Int32))]) (P27 : Ary Z h eb .byte vs) (hv : vs[p.toInt.toNat]? = some (.int b)) (hp : 0 ≤ p.toInt ∧ p.toInt < 100) (hb : -64 ≤ b.toInt ∧ b.toInt ≤ -9) (hlim : e0.toInt < 200 ∧ p.toInt + 1 + (b.toInt + 64) ≤ e0.toInt) : MeetsW l Z n0 (⟨"com/example/nestwire/nestwire/codec/EncodingWalker", "next", "()Lcom/example/nestwire/nestwire/codec/RlpWalker$Step;"⟩ : MethodName) prog_9_method_9_code 1 (some (.object "com/example/nestwire/nestwire/codec/RlpWalker$Step")) ({ frames := 4, cells := 0, slots := 0, locals := 60 } : Room) #[(.ref a)] h (fun v h' => ∃ (pe : Int32) (ee : Int32) (s1 : Int32) (g1 : Int32), v = some (.ref cS) ∧ Keep h h' [a, hd, en] ∧ (pe.toInt = p.toInt + 1 ∧ ee.toInt = p.toInt + 1 + (b.toInt + 64)) ∧ Fld Z h' a "com/example/nestwire/nestwire/codec/EncodingWalker" "header" "Lcom/example/nestwire/nestwire/codec/Header;" (.ref hd) ∧ Fld Z h' a "com/example/nestwire/nestwire/codec/EncodingWalker" "ends" "[I" (.ref en) ∧ Fld Z h' a "com/example/nestwire/nestwire/codec/EncodingWalker" "encoding" "[B" (.ref eb) ∧ Fld Z h' a "com/example/nestwire/nestwire/codec/EncodingWalker" "end" "I" (.int n) ∧ Fld Z h' a "com/example/nestwire/nestwire/codec/EncodingWalker" "position" "I" (.int pe) ∧ Fld Z h' a "com/example/nestwire/nestwire/codec/EncodingWalker" "depth" "I" (.int (2 : Int32)) ∧ Fld Z h' a "com/example/nestwire/nestwire/codec/EncodingWalker" "started" "Z" (.int (1 : Int32)) ∧ Fld Z h' a "com/example/nestwire/nestwire/codec/EncodingWalker" "peeked" "Z" (.int (0 : Int32)) ∧ Fld Z h' a "com/example/nestwire/nestwire/codec/EncodingWalker" "itemStart" "I" (.int p) ∧ Fld Z h' hd "com/example/nestwire/nestwire/codec/Header" "isList" "Z" (.int (1 : Int32)) ∧ Fld Z h' hd "com/example/nestwire/nestwire/codec/Header" "payloadStart" "I" (.int s1) ∧ Fld Z h' hd "com/example/nestwire/nestwire/codec/Header" "payloadLength" "I" (.int g1) ∧ Ary Z h' en .int [(.int e0), (.int ee), (.int (0 : Int32)), (.int (0 : Int32)), (.int (0 : Int32)), (.int (0 : Int32)), (.int (0 : Int32)), (.int (0 : Int32)), (.int (0 : Int32)), (.int (0 : Int32)), (.int (0 : Int32)), (.int (0 : Int32)), (.int (0 : Int32)), (.int (0 : Int32)), (.int (0 : Int32)), (.int (0 : Int32))]) := by
  refine MeetsW.intro (plainFor_of_name pn_com_example_nestwire_nestwire_codec_EncodingWalker) (L0 := #[.val (.ref a)]) (fun m => by first | (simp [entryFrame, mkF, argsToLocals, Value.category]; done) | rfl) ?_
  intro m G K0
  have K : Cx l ({ frames := 4, cells := 0, slots := 0, locals := 60 } : Room) Z n0 _ "com/example/nestwire/nestwire/codec/EncodingWalker" "next" prog_9_method_9_code 1 (some (.object "com/example/nestwire/nestwire/codec/RlpWalker$Step")) m G := K0
  refine K.aloadN d5_0 (pc' := 1) rfl rfl rfl ?_
  refine K.callv (z := (⟨"com/example/nestwire/nestwire/codec/EncodingWalker", "atListEnd", "()Z"⟩ : MethodName)) (argsL := []) (rest := []) d5_1 (pc' := 4) rfl (c_ale1 l Z a0 hw n0 h (a := a) (en := en) (p := p) (e0 := e0) (e1 := e1) P1 P19 P18 P15 P26) P1 (hw _ (List.mem_of_getElem? (i := 41) rfl)) (hw _ (List.mem_of_getElem? (i := 30) rfl)) (nf_sel (hw _ (List.mem_of_getElem? (i := 32) rfl)) rfl) (hw _ (List.mem_of_getElem? (i := 32) rfl)) (hw _ (List.mem_of_getElem? (i := 31) rfl)) (hw _ (List.mem_of_getElem? (i := 4) rfl)) (hw _ (List.mem_of_getElem? (i := 33) rfl)) (by decide) pd_3 rfl rfl (W := 0) (by simp [Value.category]) (by decide) (by decide) (by decide) (by decide) (fun v_3 h_1 q_2 => ?_)
  obtain ⟨rfl, rfl⟩ := q_2
  show G h 0 0 (mkF m 4 #[.val (.ref a)] [(.int (b2 (p.toInt = e0.toInt)))])
  refine K.ifeqB d5_4 (pc1 := 7) rfl (by decide) (pc2 := 21) (by decide) (fun c4 => ?_) (fun c4 => ?_)
  · refine K.aloadN d5_21 (pc' := 22) rfl rfl rfl ?_
    refine K.getf d5_22 (pc' := 25) rfl (host := "") (Or.inl (hw _ (List.mem_of_getElem? (i := 42) rfl))) Via.refl P21 ?_
    refine K.if_eq d5_25 (pc1 := 28) rfl (by decide) (pc2 := 36) (by decide) (a := 0) rfl (fun c25 => ?_) (fun c25 => ?_)
    · refine K.aloadN d5_36 (pc' := 37) rfl rfl rfl ?_
      refine K.callp (argsL := []) (rest := []) d5_37 (pc' := 40) rfl (c_rh12 l Z a0 hw n0 h (a := a) (hd := hd) (en := en) (eb := eb) (n := n) (p := p) (i0 := i0) (st0 := st0) (l0 := l0) (s0 := s0) (g0 := g0) (e0 := e0) (e1 := e1) (vs := vs) (b := b) P1 P2 P3 P4 P5 P6 P7 P8 P9 P10 P11 P14 P15 P16 P17 P18 P19 P20 P21 P22 P23 P24 P25 P26 P27 hv hp hb hlim) P1 (hw _ (List.mem_of_getElem? (i := 44) rfl)) (hw _ (List.mem_of_getElem? (i := 45) rfl)) (hw _ (List.mem_of_getElem? (i := 3) rfl)) (hw _ (List.mem_of_getElem? (i := 46) rfl)) (hw _ (List.mem_of_getElem? (i := 4) rfl)) (hw _ (List.mem_of_getElem? (i := 47) rfl)) (by decide) pd_4 rfl rfl (W := 0) (by simp [Value.category]) (by decide) (by decide) (by decide) (by decide) (fun v_7 h_5 q_6 => ?_)
      obtain ⟨ps, pl, rfl, K_8, hpl_rh, f_9, f_10, f_11, f_12, f_13, f_14, f_15, f_16, f_17, f_18, f_19, f_20⟩ := q_6
      have f_21 : Exa Z h_5 a "com/example/nestwire/nestwire/codec/EncodingWalker" := P1.keep K_8
      have f_22 : Exa Z h_5 hd "com/example/nestwire/nestwire/codec/Header" := P2.keep K_8
      have f_23 : Old Z n0 h_5 := P12.keep K_8 (allS P3 (allS P4 all0))
      have f_36 : Ary Z h_5 en .int [(.int e0), (.int e1), (.int (0 : Int32)), (.int (0 : Int32)), (.int (0 : Int32)), (.int (0 : Int32)), (.int (0 : Int32)), (.int (0 : Int32)), (.int (0 : Int32)), (.int (0 : Int32)), (.int (0 : Int32)), (.int (0 : Int32)), (.int (0 : Int32)), (.int (0 : Int32)), (.int (0 : Int32)), (.int (0 : Int32))] := P26.keep K_8 (ninS (Ne.symm P7) (ninS (Ne.symm P9) nin0))
      have f_37 : Ary Z h_5 eb .byte vs := P27.keep K_8 (ninS (Ne.symm P8) (ninS (Ne.symm P10) nin0))
      have kp_38 : Keep h h_5 [a, hd, en] := (Keep.refl h [a, hd, en]).trans K_8 (allS (Or.inl (by simp)) (allS (Or.inl (by simp)) all0))
      show G h_5 0 0 (mkF m 40 #[.val (.ref a)] [])
      refine K.aloadN d5_40 (pc' := 41) rfl rfl rfl ?_
      refine K.iconst d5_41 (pc' := 42) rfl (z := 1) rfl ?_
      refine K.putf d5_42 (pc' := 45) rfl (host := "") (Or.inl (hw _ (List.mem_of_getElem? (i := 48) rfl))) Via.refl f_15 f_21 (Or.inl (hw _ (List.mem_of_getElem? (i := 49) rfl))) (hw _ (List.mem_of_getElem? (i := 3) rfl)) (ty := .boolean) (by decide) rfl rfl P3 (fun h_39 W_40 => ?_)
      have f_41 : Exa Z h_39 a "com/example/nestwire/nestwire/codec/EncodingWalker" := f_21.wr W_40
      have f_42 : Exa Z h_39 hd "com/example/nestwire/nestwire/codec/Header" := f_22.wr W_40
      have f_43 : Old Z n0 h_39 := f_23.wr W_40 P3
      have f_44 : Ary Z h_39 en .int [(.int e0), (.int e1), (.int (0 : Int32)), (.int (0 : Int32)), (.int (0 : Int32)), (.int (0 : Int32)), (.int (0 : Int32)), (.int (0 : Int32)), (.int (0 : Int32)), (.int (0 : Int32)), (.int (0 : Int32)), (.int (0 : Int32)), (.int (0 : Int32)), (.int (0 : Int32)), (.int (0 : Int32)), (.int (0 : Int32))] := f_36.other W_40 (Ne.symm P7)
      have f_45 : Ary Z h_39 eb .byte vs := f_37.other W_40 (Ne.symm P8)
      have f_46 : Fld Z h_39 a "com/example/nestwire/nestwire/codec/EncodingWalker" "header" "Lcom/example/nestwire/nestwire/codec/Header;" (.ref hd) := f_9.other W_40 (Or.inr (slot_ne (Or.inr (hw _ (List.mem_of_getElem? (i := 19) rfl))) (Or.inl (hw _ (List.mem_of_getElem? (i := 49) rfl))) (by decide) (t := (.object "com/example/nestwire/nestwire/codec/Header")) (t' := .boolean) (by decide) (by decide)))
      have f_47 : Fld Z h_39 a "com/example/nestwire/nestwire/codec/EncodingWalker" "ends" "[I" (.ref en) := f_10.other W_40 (Or.inr (slot_ne (Or.inl (hw _ (List.mem_of_getElem? (i := 22) rfl))) (Or.inl (hw _ (List.mem_of_getElem? (i := 49) rfl))) (by decide) (t := (.array .int)) (t' := .boolean) (by decide) (by decide)))
      have f_48 : Fld Z h_39 a "com/example/nestwire/nestwire/codec/EncodingWalker" "encoding" "[B" (.ref eb) := f_11.other W_40 (Or.inr (slot_ne (Or.inr (hw _ (List.mem_of_getElem? (i := 24) rfl))) (Or.inl (hw _ (List.mem_of_getElem? (i := 49) rfl))) (by decide) (t := (.array .byte)) (t' := .boolean) (by decide) (by decide)))
      have f_49 : Fld Z h_39 a "com/example/nestwire/nestwire/codec/EncodingWalker" "end" "I" (.int n) := f_12.other W_40 (Or.inr (slot_ne (Or.inr (hw _ (List.mem_of_getElem? (i := 26) rfl))) (Or.inl (hw _ (List.mem_of_getElem? (i := 49) rfl))) (by decide) (t := .int) (t' := .boolean) (by decide) (by decide)))
      have f_50 : Fld Z h_39 a "com/example/nestwire/nestwire/codec/EncodingWalker" "position" "I" (.int p) := f_13.other W_40 (Or.inr (slot_ne (Or.inl (hw _ (List.mem_of_getElem? (i := 28) rfl))) (Or.inl (hw _ (List.mem_of_getElem? (i := 49) rfl))) (by decide) (t := .int) (t' := .boolean) (by decide) (by decide)))
      have f_51 : Fld Z h_39 a "com/example/nestwire/nestwire/codec/EncodingWalker" "depth" "I" (.int (1 : Int32)) := f_14.other W_40 (Or.inr (slot_ne (Or.inl (hw _ (List.mem_of_getElem? (i := 35) rfl))) (Or.inl (hw _ (List.mem_of_getElem? (i := 49) rfl))) (by decide) (t := .int) (t' := .boolean) (by decide) (by decide)))
      have f_52 : Fld Z h_39 a "com/example/nestwire/nestwire/codec/EncodingWalker" "started" "Z" (.int (1 : Int32)) := f_15.same W_40
      have f_53 : Fld Z h_39 a "com/example/nestwire/nestwire/codec/EncodingWalker" "peeked" "Z" (.int (0 : Int32)) := f_16.other W_40 (Or.inr (slot_ne (Or.inl (hw _ (List.mem_of_getElem? (i := 43) rfl))) (Or.inl (hw _ (List.mem_of_getElem? (i := 49) rfl))) (by decide) (t := .boolean) (t' := .boolean) (by decide) (by decide)))
      have f_54 : Fld Z h_39 a "com/example/nestwire/nestwire/codec/EncodingWalker" "itemStart" "I" (.int p) := f_17.other W_40 (Or.inr (slot_ne (Or.inl (hw _ (List.mem_of_getElem? (i := 75) rfl))) (Or.inl (hw _ (List.mem_of_getElem? (i := 49) rfl))) (by decide) (t := .int) (t' := .boolean) (by decide) (by decide)))
      have f_55 : Fld Z h_39 hd "com/example/nestwire/nestwire/codec/Header" "isList" "Z" (.int (1 : Int32)) := f_18.other W_40 (Or.inl (Ne.symm P6))
      have f_56 : Fld Z h_39 hd "com/example/nestwire/nestwire/codec/Header" "payloadStart" "I" (.int ps) := f_19.other W_40 (Or.inl (Ne.symm P6))
      have f_57 : Fld Z h_39 hd "com/example/nestwire/nestwire/codec/Header" "payloadLength" "I" (.int pl) := f_20.other W_40 (Or.inl (Ne.symm P6))
      have kp_58 : Keep h h_39 [a, hd, en] := kp_38.wr W_40 (Or.inl (by simp))
      refine K.aloadN d5_45 (pc' := 46) rfl rfl rfl ?_
      refine K.getf d5_46 (pc' := 49) rfl (host := "") (Or.inl (hw _ (List.mem_of_getElem? (i := 18) rfl))) Via.refl f_46 ?_
      refine K.callv (z := (⟨"com/example/nestwire/nestwire/codec/Header", "isList", "()Z"⟩ : MethodName)) (argsL := []) (rest := []) d5_49 (pc' := 52) rfl (c_isl l Z a0 hw n0 h_39 (a := hd) (l0 := (1 : Int32)) f_42 f_55 (Or.inr rfl)) f_42 (hw _ (List.mem_of_getElem? (i := 76) rfl)) (hw _ (List.mem_of_getElem? (i := 77) rfl)) (nf_sel (hw _ (List.mem_of_getElem? (i := 79) rfl)) rfl) (hw _ (List.mem_of_getElem? (i := 79) rfl)) (hw _ (List.mem_of_getElem? (i := 78) rfl)) (hw _ (List.mem_of_getElem? (i := 13) rfl)) (hw _ (List.mem_of_getElem? (i := 80) rfl)) (by decide) pd_3 rfl rfl (W := 0) (by simp [Value.category]) (by decide) (by decide) (by decide) (by decide) (fun v_61 h_59 q_60 => ?_)
      obtain ⟨rfl, rfl⟩ := q_60
      show G h_39 0 0 (mkF m 52 #[.val (.ref a)] [(.int (1 : Int32))])
      refine K.if_eq d5_52 (pc1 := 55) rfl (by decide) (pc2 := 122) (by decide) (a := 1) rfl (fun c52 => ?_) (fun c52 => ?_)
      · exfalso; omega
      · refine K.aloadN d5_55 (pc' := 56) rfl rfl rfl ?_
        refine K.getf d5_56 (pc' := 59) rfl (host := "") (Or.inl (hw _ (List.mem_of_getElem? (i := 34) rfl))) Via.refl f_51 ?_
        refine K.aloadN d5_59 (pc' := 60) rfl rfl rfl ?_
        refine K.getf d5_60 (pc' := 63) rfl (host := "") (Or.inl (hw _ (List.mem_of_getElem? (i := 21) rfl))) Via.refl f_47 ?_
        refine K.alen d5_63 (pc' := 64) rfl f_44 (fun zl e_zl => ?_)
        have t_zl : zl.toInt = 16 := e_zl
        refine K.icmp_ne d5_64 (pc1 := 67) rfl (by decide) (pc2 := 84) (by decide) (a := 1) (b := zl.toInt) rfl rfl (fun c64 => ?_) (fun c64 => ?_)
        · refine K.aloadN d5_84 (pc' := 85) rfl rfl rfl ?_
          refine K.getf d5_85 (pc' := 88) rfl (host := "") (Or.inl (hw _ (List.mem_of_getElem? (i := 21) rfl))) Via.refl f_47 ?_
          refine K.aloadN d5_88 (pc' := 89) rfl rfl rfl ?_
          refine K.dup d5_89 (pc' := 90) rfl rfl ?_
          refine K.getf d5_90 (pc' := 93) rfl (host := "") (Or.inl (hw _ (List.mem_of_getElem? (i := 34) rfl))) Via.refl f_51 ?_
          refine K.dupX1 d5_93 (pc' := 94) rfl rfl rfl ?_
          refine K.iconst d5_94 (pc' := 95) rfl (z := 1) rfl ?_
          refine K.iadd d5_95 (pc' := 96) rfl (z := (2 : Int32)) (by decide) ?_
          refine K.putf d5_96 (pc' := 99) rfl (host := "") (Or.inl (hw _ (List.mem_of_getElem? (i := 34) rfl))) Via.refl f_51 f_41 (Or.inl (hw _ (List.mem_of_getElem? (i := 35) rfl))) (hw _ (List.mem_of_getElem? (i := 3) rfl)) (ty := .int) (by decide) rfl rfl P3 (fun h_63 W_64 => ?_)
          have f_65 : Exa Z h_63 a "com/example/nestwire/nestwire/codec/EncodingWalker" := f_41.wr W_64
          have f_66 : Exa Z h_63 hd "com/example/nestwire/nestwire/codec/Header" := f_42.wr W_64
          have f_67 : Old Z n0 h_63 := f_43.wr W_64 P3
          have f_68 : Ary Z h_63 en .int [(.int e0), (.int e1), (.int (0 : Int32)), (.int (0 : Int32)), (.int (0 : Int32)), (.int (0 : Int32)), (.int (0 : Int32)), (.int (0 : Int32)), (.int (0 : Int32)), (.int (0 : Int32)), (.int (0 : Int32)), (.int (0 : Int32)), (.int (0 : Int32)), (.int (0 : Int32)), (.int (0 : Int32)), (.int (0 : Int32))] := f_44.other W_64 (Ne.symm P7)
          have f_69 : Ary Z h_63 eb .byte vs := f_45.other W_64 (Ne.symm P8)
          have f_70 : Fld Z h_63 a "com/example/nestwire/nestwire/codec/EncodingWalker" "header" "Lcom/example/nestwire/nestwire/codec/Header;" (.ref hd) := f_46.other W_64 (Or.inr (slot_ne (Or.inr (hw _ (List.mem_of_getElem? (i := 19) rfl))) (Or.inl (hw _ (List.mem_of_getElem? (i := 35) rfl))) (by decide) (t := (.object "com/example/nestwire/nestwire/codec/Header")) (t' := .int) (by decide) (by decide)))
          have f_71 : Fld Z h_63 a "com/example/nestwire/nestwire/codec/EncodingWalker" "ends" "[I" (.ref en) := f_47.other W_64 (Or.inr (slot_ne (Or.inl (hw _ (List.mem_of_getElem? (i := 22) rfl))) (Or.inl (hw _ (List.mem_of_getElem? (i := 35) rfl))) (by decide) (t := (.array .int)) (t' := .int) (by decide) (by decide)))
          have f_72 : Fld Z h_63 a "com/example/nestwire/nestwire/codec/EncodingWalker" "encoding" "[B" (.ref eb) := f_48.other W_64 (Or.inr (slot_ne (Or.inr (hw _ (List.mem_of_getElem? (i := 24) rfl))) (Or.inl (hw _ (List.mem_of_getElem? (i := 35) rfl))) (by decide) (t := (.array .byte)) (t' := .int) (by decide) (by decide)))
          have f_73 : Fld Z h_63 a "com/example/nestwire/nestwire/codec/EncodingWalker" "end" "I" (.int n) := f_49.other W_64 (Or.inr (slot_ne (Or.inr (hw _ (List.mem_of_getElem? (i := 26) rfl))) (Or.inl (hw _ (List.mem_of_getElem? (i := 35) rfl))) (by decide) (t := .int) (t' := .int) (by decide) (by decide)))
          have f_74 : Fld Z h_63 a "com/example/nestwire/nestwire/codec/EncodingWalker" "position" "I" (.int p) := f_50.other W_64 (Or.inr (slot_ne (Or.inl (hw _ (List.mem_of_getElem? (i := 28) rfl))) (Or.inl (hw _ (List.mem_of_getElem? (i := 35) rfl))) (by decide) (t := .int) (t' := .int) (by decide) (by decide)))
          have f_75 : Fld Z h_63 a "com/example/nestwire/nestwire/codec/EncodingWalker" "depth" "I" (.int (2 : Int32)) := f_51.same W_64
          have f_76 : Fld Z h_63 a "com/example/nestwire/nestwire/codec/EncodingWalker" "started" "Z" (.int (1 : Int32)) := f_52.other W_64 (Or.inr (slot_ne (Or.inl (hw _ (List.mem_of_getElem? (i := 49) rfl))) (Or.inl (hw _ (List.mem_of_getElem? (i := 35) rfl))) (by decide) (t := .boolean) (t' := .int) (by decide) (by decide)))
          have f_77 : Fld Z h_63 a "com/example/nestwire/nestwire/codec/EncodingWalker" "peeked" "Z" (.int (0 : Int32)) := f_53.other W_64 (Or.inr (slot_ne (Or.inl (hw _ (List.mem_of_getElem? (i := 43) rfl))) (Or.inl (hw _ (List.mem_of_getElem? (i := 35) rfl))) (by decide) (t := .boolean) (t' := .int) (by decide) (by decide)))
          have f_78 : Fld Z h_63 a "com/example/nestwire/nestwire/codec/EncodingWalker" "itemStart" "I" (.int p) := f_54.other W_64 (Or.inr (slot_ne (Or.inl (hw _ (List.mem_of_getElem? (i := 75) rfl))) (Or.inl (hw _ (List.mem_of_getElem? (i := 35) rfl))) (by decide) (t := .int) (t' := .int) (by decide) (by decide)))
          have f_79 : Fld Z h_63 hd "com/example/nestwire/nestwire/codec/Header" "isList" "Z" (.int (1 : Int32)) := f_55.other W_64 (Or.inl (Ne.symm P6))
          have f_80 : Fld Z h_63 hd "com/example/nestwire/nestwire/codec/Header" "payloadStart" "I" (.int ps) := f_56.other W_64 (Or.inl (Ne.symm P6))
          have f_81 : Fld Z h_63 hd "com/example/nestwire/nestwire/codec/Header" "payloadLength" "I" (.int pl) := f_57.other W_64 (Or.inl (Ne.symm P6))
          have kp_82 : Keep h h_63 [a, hd, en] := kp_58.wr W_64 (Or.inl (by simp))
          refine K.aloadN d5_99 (pc' := 100) rfl rfl rfl ?_
          refine K.getf d5_100 (pc' := 103) rfl (host := "") (Or.inl (hw _ (List.mem_of_getElem? (i := 18) rfl))) Via.refl f_70 ?_
          refine K.callv (z := (⟨"com/example/nestwire/nestwire/codec/Header", "payloadEnd", "()I"⟩ : MethodName)) (argsL := []) (rest := [(.int (1 : Int32)), (.ref en)]) d5_103 (pc' := 106) rfl (c_pen l Z a0 hw n0 h_63 (a := hd) (s0 := ps) (g0 := pl) f_66 f_80 f_81 (by omega)) f_66 (hw _ (List.mem_of_getElem? (i := 81) rfl)) (hw _ (List.mem_of_getElem? (i := 82) rfl)) (nf_sel (hw _ (List.mem_of_getElem? (i := 84) rfl)) rfl) (hw _ (List.mem_of_getElem? (i := 84) rfl)) (hw _ (List.mem_of_getElem? (i := 83) rfl)) (hw _ (List.mem_of_getElem? (i := 13) rfl)) (hw _ (List.mem_of_getElem? (i := 85) rfl)) (by decide) pd_5 rfl rfl (W := 2) (by simp [Value.category]) (by decide) (by decide) (by decide) (by decide) (fun v_85 h_83 q_84 => ?_)
          obtain ⟨w_86, rfl, t_w_86, rfl⟩ := q_84
          show G h_63 0 0 (mkF m 106 #[.val (.ref a)] [(.int w_86), (.int (1 : Int32)), (.ref en)])
          refine K.iast d5_106 (pc' := 107) rfl f_68 (i := 1) rfl (show 1 < 16 by decide) P5 (fun h_87 W_88 A_89 => ?_)
          have f_90 : Exa Z h_87 a "com/example/nestwire/nestwire/codec/EncodingWalker" := f_65.wr W_88
          have f_91 : Exa Z h_87 hd "com/example/nestwire/nestwire/codec/Header" := f_66.wr W_88
          have f_92 : Old Z n0 h_87 := f_67.wr W_88 P5
          have f_94 : Ary Z h_87 eb .byte vs := f_69.other W_88 (Ne.symm P11)
          have f_95 : Fld Z h_87 a "com/example/nestwire/nestwire/codec/EncodingWalker" "header" "Lcom/example/nestwire/nestwire/codec/Header;" (.ref hd) := f_70.other W_88 (Or.inl P7)
          have f_96 : Fld Z h_87 a "com/example/nestwire/nestwire/codec/EncodingWalker" "ends" "[I" (.ref en) := f_71.other W_88 (Or.inl P7)
          have f_97 : Fld Z h_87 a "com/example/nestwire/nestwire/codec/EncodingWalker" "encoding" "[B" (.ref eb) := f_72.other W_88 (Or.inl P7)
          have f_98 : Fld Z h_87 a "com/example/nestwire/nestwire/codec/EncodingWalker" "end" "I" (.int n) := f_73.other W_88 (Or.inl P7)
          have f_99 : Fld Z h_87 a "com/example/nestwire/nestwire/codec/EncodingWalker" "position" "I" (.int p) := f_74.other W_88 (Or.inl P7)
          have f_100 : Fld Z h_87 a "com/example/nestwire/nestwire/codec/EncodingWalker" "depth" "I" (.int (2 : Int32)) := f_75.other W_88 (Or.inl P7)
          have f_101 : Fld Z h_87 a "com/example/nestwire/nestwire/codec/EncodingWalker" "started" "Z" (.int (1 : Int32)) := f_76.other W_88 (Or.inl P7)
          have f_102 : Fld Z h_87 a "com/example/nestwire/nestwire/codec/EncodingWalker" "peeked" "Z" (.int (0 : Int32)) := f_77.other W_88 (Or.inl P7)
          have f_103 : Fld Z h_87 a "com/example/nestwire/nestwire/codec/EncodingWalker" "itemStart" "I" (.int p) := f_78.other W_88 (Or.inl P7)
          have f_104 : Fld Z h_87 hd "com/example/nestwire/nestwire/codec/Header" "isList" "Z" (.int (1 : Int32)) := f_79.other W_88 (Or.inl P9)
          have f_105 : Fld Z h_87 hd "com/example/nestwire/nestwire/codec/Header" "payloadStart" "I" (.int ps) := f_80.other W_88 (Or.inl P9)
          have f_106 : Fld Z h_87 hd "com/example/nestwire/nestwire/codec/Header" "payloadLength" "I" (.int pl) := f_81.other W_88 (Or.inl P9)
          have kp_107 : Keep h h_87 [a, hd, en] := kp_82.wr W_88 (Or.inl (by simp))
          have A_108 : Ary Z h_87 en .int [(.int e0), (.int w_86), (.int (0 : Int32)), (.int (0 : Int32)), (.int (0 : Int32)), (.int (0 : Int32)), (.int (0 : Int32)), (.int (0 : Int32)), (.int (0 : Int32)), (.int (0 : Int32)), (.int (0 : Int32)), (.int (0 : Int32)), (.int (0 : Int32)), (.int (0 : Int32)), (.int (0 : Int32)), (.int (0 : Int32))] := A_89
          refine K.aloadN d5_107 (pc' := 108) rfl rfl rfl ?_
          refine K.aloadN d5_108 (pc' := 109) rfl rfl rfl ?_
          refine K.getf d5_109 (pc' := 112) rfl (host := "") (Or.inl (hw _ (List.mem_of_getElem? (i := 18) rfl))) Via.refl f_95 ?_
          refine K.callv (z := (⟨"com/example/nestwire/nestwire/codec/Header", "payloadStart", "()I"⟩ : MethodName)) (argsL := []) (rest := [(.ref a)]) d5_112 (pc' := 115) rfl (c_pst l Z a0 hw n0 h_87 (a := hd) (s0 := ps) f_91 f_105) f_91 (hw _ (List.mem_of_getElem? (i := 86) rfl)) (hw _ (List.mem_of_getElem? (i := 87) rfl)) (nf_sel (hw _ (List.mem_of_getElem? (i := 89) rfl)) rfl) (hw _ (List.mem_of_getElem? (i := 89) rfl)) (hw _ (List.mem_of_getElem? (i := 88) rfl)) (hw _ (List.mem_of_getElem? (i := 13) rfl)) (hw _ (List.mem_of_getElem? (i := 90) rfl)) (by decide) pd_5 rfl rfl (W := 1) (by simp [Value.category]) (by decide) (by decide) (by decide) (by decide) (fun v_111 h_109 q_110 => ?_)
          obtain ⟨rfl, rfl⟩ := q_110
          show G h_87 0 0 (mkF m 115 #[.val (.ref a)] [(.int ps), (.ref a)])
          refine K.putf d5_115 (pc' := 118) rfl (host := "") (Or.inl (hw _ (List.mem_of_getElem? (i := 27) rfl))) Via.refl f_99 f_90 (Or.inl (hw _ (List.mem_of_getElem? (i := 28) rfl))) (hw _ (List.mem_of_getElem? (i := 3) rfl)) (ty := .int) (by decide) rfl rfl P3 (fun h_113 W_114 => ?_)
          have f_115 : Exa Z h_113 a "com/example/nestwire/nestwire/codec/EncodingWalker" := f_90.wr W_114
          have f_116 : Exa Z h_113 hd "com/example/nestwire/nestwire/codec/Header" := f_91.wr W_114
          have f_117 : Old Z n0 h_113 := f_92.wr W_114 P3
          have f_118 : Ary Z h_113 en .int [(.int e0), (.int w_86), (.int (0 : Int32)), (.int (0 : Int32)), (.int (0 : Int32)), (.int (0 : Int32)), (.int (0 : Int32)), (.int (0 : Int32)), (.int (0 : Int32)), (.int (0 : Int32)), (.int (0 : Int32)), (.int (0 : Int32)), (.int (0 : Int32)), (.int (0 : Int32)), (.int (0 : Int32)), (.int (0 : Int32))] := A_108.other W_114 (Ne.symm P7)
          have f_119 : Ary Z h_113 eb .byte vs := f_94.other W_114 (Ne.symm P8)
          have f_120 : Fld Z h_113 a "com/example/nestwire/nestwire/codec/EncodingWalker" "header" "Lcom/example/nestwire/nestwire/codec/Header;" (.ref hd) := f_95.other W_114 (Or.inr (slot_ne (Or.inr (hw _ (List.mem_of_getElem? (i := 19) rfl))) (Or.inl (hw _ (List.mem_of_getElem? (i := 28) rfl))) (by decide) (t := (.object "com/example/nestwire/nestwire/codec/Header")) (t' := .int) (by decide) (by decide)))
          have f_121 : Fld Z h_113 a "com/example/nestwire/nestwire/codec/EncodingWalker" "ends" "[I" (.ref en) := f_96.other W_114 (Or.inr (slot_ne (Or.inl (hw _ (List.mem_of_getElem? (i := 22) rfl))) (Or.inl (hw _ (List.mem_of_getElem? (i := 28) rfl))) (by decide) (t := (.array .int)) (t' := .int) (by decide) (by decide)))
          have f_122 : Fld Z h_113 a "com/example/nestwire/nestwire/codec/EncodingWalker" "encoding" "[B" (.ref eb) := f_97.other W_114 (Or.inr (slot_ne (Or.inr (hw _ (List.mem_of_getElem? (i := 24) rfl))) (Or.inl (hw _ (List.mem_of_getElem? (i := 28) rfl))) (by decide) (t := (.array .byte)) (t' := .int) (by decide) (by decide)))
          have f_123 : Fld Z h_113 a "com/example/nestwire/nestwire/codec/EncodingWalker" "end" "I" (.int n) := f_98.other W_114 (Or.inr (slot_ne (Or.inr (hw _ (List.mem_of_getElem? (i := 26) rfl))) (Or.inl (hw _ (List.mem_of_getElem? (i := 28) rfl))) (by decide) (t := .int) (t' := .int) (by decide) (by decide)))
          have f_124 : Fld Z h_113 a "com/example/nestwire/nestwire/codec/EncodingWalker" "position" "I" (.int ps) := f_99.same W_114
          have f_125 : Fld Z h_113 a "com/example/nestwire/nestwire/codec/EncodingWalker" "depth" "I" (.int (2 : Int32)) := f_100.other W_114 (Or.inr (slot_ne (Or.inl (hw _ (List.mem_of_getElem? (i := 35) rfl))) (Or.inl (hw _ (List.mem_of_getElem? (i := 28) rfl))) (by decide) (t := .int) (t' := .int) (by decide) (by decide)))
          have f_126 : Fld Z h_113 a "com/example/nestwire/nestwire/codec/EncodingWalker" "started" "Z" (.int (1 : Int32)) := f_101.other W_114 (Or.inr (slot_ne (Or.inl (hw _ (List.mem_of_getElem? (i := 49) rfl))) (Or.inl (hw _ (List.mem_of_getElem? (i := 28) rfl))) (by decide) (t := .boolean) (t' := .int) (by decide) (by decide)))
          have f_127 : Fld Z h_113 a "com/example/nestwire/nestwire/codec/EncodingWalker" "peeked" "Z" (.int (0 : Int32)) := f_102.other W_114 (Or.inr (slot_ne (Or.inl (hw _ (List.mem_of_getElem? (i := 43) rfl))) (Or.inl (hw _ (List.mem_of_getElem? (i := 28) rfl))) (by decide) (t := .boolean) (t' := .int) (by decide) (by decide)))
          have f_128 : Fld Z h_113 a "com/example/nestwire/nestwire/codec/EncodingWalker" "itemStart" "I" (.int p) := f_103.other W_114 (Or.inr (slot_ne (Or.inl (hw _ (List.mem_of_getElem? (i := 75) rfl))) (Or.inl (hw _ (List.mem_of_getElem? (i := 28) rfl))) (by decide) (t := .int) (t' := .int) (by decide) (by decide)))
          have f_129 : Fld Z h_113 hd "com/example/nestwire/nestwire/codec/Header" "isList" "Z" (.int (1 : Int32)) := f_104.other W_114 (Or.inl (Ne.symm P6))
          have f_130 : Fld Z h_113 hd "com/example/nestwire/nestwire/codec/Header" "payloadStart" "I" (.int ps) := f_105.other W_114 (Or.inl (Ne.symm P6))
          have f_131 : Fld Z h_113 hd "com/example/nestwire/nestwire/codec/Header" "payloadLength" "I" (.int pl) := f_106.other W_114 (Or.inl (Ne.symm P6))
          have kp_132 : Keep h h_113 [a, hd, en] := kp_107.wr W_114 (Or.inl (by simp))
          refine K.gets d5_118 (pc' := 121) rfl (host := "") (Or.inl (hw _ (List.mem_of_getElem? (i := 91) rfl))) Via.refl (P13.ext f_117.2) ?_
          exact K.reta d5_121 rfl rfl rfl (by decide) (by decide) ⟨ps, w_86, ps, pl, rfl, kp_132, by omega, f_120, f_121, f_122, f_123, f_124, f_125, f_126, f_127, f_128, f_129, f_130, f_131, f_118⟩
        · exfalso; omega
    · exfalso; omega
  · exfalso; omega
theorem or128 (v : Int32) : 128 ≤ (v ||| 128).toInt % 256 := by
  have h1 : (v ||| 128).toInt % 256 = (((v ||| 128).toBitVec.toNat % 256 : Nat) : Int) := by
    show (v ||| 128).toBitVec.toInt % 256 = _
    rw [BitVec.toInt_eq_toNat_cond]; split <;> omega
  have h2 : ((v ||| 128).toBitVec.toNat % 2 ^ 8).testBit 7 = true := by
    rw [Nat.testBit_mod_two_pow, show (v ||| 128).toBitVec = v.toBitVec ||| (128 : Int32).toBitVec from rfl, BitVec.toNat_or, Nat.testBit_or]
    have : ((128 : Int32).toBitVec.toNat).testBit 7 = true := by decide
    rw [this]; simp
  have h3 := Nat.ge_two_pow_of_testBit h2
  omega
theorem d14_0 : decode method_3_code 0 = .ok (.iload_n 2, 1) := by decide +kernel
theorem d14_1 : decode method_3_code 1 = .ok (.ifCond .ne 15, 3) := by decide +kernel
theorem d14_16 : decode method_3_code 16 = .ok (.iload_n 2, 1) := by decide +kernel
theorem d14_17 : decode method_3_code 17 = .ok (.iconst 2, 1) := by decide +kernel
theorem d14_18 : decode method_3_code 18 = .ok (.if_icmp .ne 12, 3) := by decide +kernel
theorem d14_30 : decode method_3_code 30 = .ok (.aload_n 0, 1) := by decide +kernel
theorem d14_31 : decode method_3_code 31 = .ok (.iload_n 1, 1) := by decide +kernel
theorem d14_32 : decode method_3_code 32 = .ok (.iload_n 2, 1) := by decide +kernel
theorem d14_33 : decode method_3_code 33 = .ok (.iconst 1, 1) := by decide +kernel
theorem d14_34 : decode method_3_code 34 = .ok (.if_icmp .ne 9, 3) := by decide +kernel
theorem d14_43 : decode method_3_code 43 = .ok (.sipush 193, 3) := by decide +kernel
theorem d14_46 : decode method_3_code 46 = .ok (.i2b, 1) := by decide +kernel
theorem d14_47 : decode method_3_code 47 = .ok (.bastore, 1) := by decide +kernel
theorem d14_48 : decode method_3_code 48 = .ok (.aload_n 0, 1) := by decide +kernel
theorem d14_49 : decode method_3_code 49 = .ok (.iload_n 1, 1) := by decide +kernel
theorem d14_50 : decode method_3_code 50 = .ok (.iconst 1, 1) := by decide +kernel
theorem d14_51 : decode method_3_code 51 = .ok (.iadd, 1) := by decide +kernel
theorem d14_52 : decode method_3_code 52 = .ok (.iload_n 2, 1) := by decide +kernel
theorem d14_53 : decode method_3_code 53 = .ok (.iconst 1, 1) := by decide +kernel
theorem d14_54 : decode method_3_code 54 = .ok (.if_icmp .ne 11, 3) := by decide +kernel
theorem d14_65 : decode method_3_code 65 = .ok (.iload_n 3, 1) := by decide +kernel
theorem d14_66 : decode method_3_code 66 = .ok (.bipush 127, 2) := by decide +kernel
theorem d14_68 : decode method_3_code 68 = .ok (.iand, 1) := by decide +kernel
theorem d14_69 : decode method_3_code 69 = .ok (.i2b, 1) := by decide +kernel
theorem d14_70 : decode method_3_code 70 = .ok (.bastore, 1) := by decide +kernel
theorem d14_71 : decode method_3_code 71 = .ok (.iload_n 1, 1) := by decide +kernel
theorem d14_72 : decode method_3_code 72 = .ok (.iconst 2, 1) := by decide +kernel
theorem d14_73 : decode method_3_code 73 = .ok (.iadd, 1) := by decide +kernel
theorem d14_74 : decode method_3_code 74 = .ok (.ireturn, 1) := by decide +kernel
theorem d14_37 : decode method_3_code 37 = .ok (.sipush 129, 3) := by decide +kernel
theorem d14_40 : decode method_3_code 40 = .ok (.goto 6, 3) := by decide +kernel
theorem d14_57 : decode method_3_code 57 = .ok (.iload_n 3, 1) := by decide +kernel
theorem d14_58 : decode method_3_code 58 = .ok (.sipush 128, 3) := by decide +kernel
theorem d14_61 : decode method_3_code 61 = .ok (.ior, 1) := by decide +kernel
theorem d14_62 : decode method_3_code 62 = .ok (.goto 7, 3) := by decide +kernel
theorem d14_21 : decode method_3_code 21 = .ok (.aload_n 0, 1) := by decide +kernel
theorem d14_22 : decode method_3_code 22 = .ok (.iload_n 1, 1) := by decide +kernel
theorem d14_23 : decode method_3_code 23 = .ok (.bipush (-64), 2) := by decide +kernel
theorem d14_25 : decode method_3_code 25 = .ok (.bastore, 1) := by decide +kernel
theorem d14_26 : decode method_3_code 26 = .ok (.iload_n 1, 1) := by decide +kernel
theorem d14_27 : decode method_3_code 27 = .ok (.iconst 1, 1) := by decide +kernel
theorem d14_28 : decode method_3_code 28 = .ok (.iadd, 1) := by decide +kernel
theorem d14_29 : decode method_3_code 29 = .ok (.ireturn, 1) := by decide +kernel
theorem d14_4 : decode method_3_code 4 = .ok (.aload_n 0, 1) := by decide +kernel
theorem d14_5 : decode method_3_code 5 = .ok (.iload_n 1, 1) := by decide +kernel
theorem d14_6 : decode method_3_code 6 = .ok (.iload_n 3, 1) := by decide +kernel
theorem d14_7 : decode method_3_code 7 = .ok (.bipush 127, 2) := by decide +kernel
theorem d14_9 : decode method_3_code 9 = .ok (.iand, 1) := by decide +kernel
theorem d14_10 : decode method_3_code 10 = .ok (.i2b, 1) := by decide +kernel
theorem d14_11 : decode method_3_code 11 = .ok (.bastore, 1) := by decide +kernel
theorem d14_12 : decode method_3_code 12 = .ok (.iload_n 1, 1) := by decide +kernel
theorem d14_13 : decode method_3_code 13 = .ok (.iconst 1, 1) := by decide +kernel
theorem d14_14 : decode method_3_code 14 = .ok (.iadd, 1) := by decide +kernel
theorem d14_15 : decode method_3_code 15 = .ok (.ireturn, 1) := by decide +kernel
theorem pn_com_example_nestwire_nestwire_codec_EncodingWalkerAtListEndPinLaw : plainName "com/example/nestwire/nestwire/codec/EncodingWalkerAtListEndPinLaw" = true := by first | (simp [plainName, overriddenIn]; done) | decide +kernel
set_option maxRecDepth 65536 in
set_option maxHeartbeats 40000000 in
theorem c_put (l : Launch) (Z : State) (a0 : Array Value) (hw : ∀ d ∈ tables_1, d.before a0 Z = true) (n0 : Nat) (h : Heap) (eb : Addr) (p : Int32) (kd : Int32) (v0 : Int32) (vs : List Value) (P1 : Ary Z h eb .byte vs) (P2 : n0 ≤ eb) (hl : vs.length = 16) (hp : 0 ≤ p.toInt ∧ p.toInt ≤ 13) (hk : 0 ≤ kd.toInt ∧ kd.toInt ≤ 3) : MeetsW l Z n0 (⟨"com/example/nestwire/nestwire/codec/EncodingWalkerAtListEndPinLaw", "put", "([BIII)I"⟩ : MethodName) method_3_code 4 (some .int) ({ frames := 0, cells := 0, slots := 0, locals := 0 } : Room) #[(.ref eb), (.int p), (.int kd), (.int v0)] h (fun v h' => ∃ (z : Int32) (vt : List Value) (sz : Int), v = some (.int z) ∧ (z.toInt = p.toInt + sz ∧ Itm vt p.toInt.toNat kd.toInt sz ∧ vt.length = 16 ∧ ∀ j : Nat, j < p.toInt.toNat → vt[j]? = vs[j]?) ∧ Keep h h' [eb] ∧ Ary Z h' eb .byte vt) := by
  refine MeetsW.intro (plainFor_of_name pn_com_example_nestwire_nestwire_codec_EncodingWalkerAtListEndPinLaw) (L0 := #[.val (.ref eb), .val (.int p), .val (.int kd), .val (.int v0)]) (fun m => by first | (simp [entryFrame, mkF, argsToLocals, Value.category]; done) | rfl) ?_
  intro m G K0
  have K : Cx l ({ frames := 0, cells := 0, slots := 0, locals := 0 } : Room) Z n0 _ "com/example/nestwire/nestwire/codec/EncodingWalkerAtListEndPinLaw" "put" method_3_code 4 (some .int) m G := K0
  refine K.iloadN d14_0 (pc' := 1) rfl rfl ?_
  refine K.if_ne d14_1 (pc1 := 4) rfl (by decide) (pc2 := 16) (by decide) (a := kd.toInt) rfl (fun c1 => ?_) (fun c1 => ?_)
  · refine K.iloadN d14_16 (pc' := 17) rfl rfl ?_
    refine K.iconst d14_17 (pc' := 18) rfl (z := 2) rfl ?_
    refine K.icmp_ne d14_18 (pc1 := 21) rfl (by decide) (pc2 := 30) (by decide) (a := kd.toInt) (b := 2) rfl rfl (fun c18 => ?_) (fun c18 => ?_)
    · refine K.aloadN d14_30 (pc' := 31) rfl rfl rfl ?_
      refine K.iloadN d14_31 (pc' := 32) rfl rfl ?_
      refine K.iloadN d14_32 (pc' := 33) rfl rfl ?_
      refine K.iconst d14_33 (pc' := 34) rfl (z := 1) rfl ?_
      refine K.icmp_ne d14_34 (pc1 := 37) rfl (by decide) (pc2 := 43) (by decide) (a := kd.toInt) (b := 1) rfl rfl (fun c34 => ?_) (fun c34 => ?_)
      · refine K.sipush d14_43 (pc' := 46) rfl (z := 193) rfl ?_
        refine K.i2b d14_46 (pc' := 47) rfl (z := (-63 : Int32)) (by decide) ?_
        refine K.bast d14_47 (pc' := 48) rfl P1 (i := p.toInt.toNat) (by omega) (by omega) P2 (fun h_1 W_2 A_3 => ?_)
        rw [show nar .byte (-63 : Int32) = (-63 : Int32) from (by decide)] at W_2 A_3
        have kp_5 : Keep h h_1 [eb] := (Keep.refl h [eb]).wr W_2 (Or.inl (by simp))
        have A_6 : Ary Z h_1 eb .byte ((vs).set (p.toInt.toNat) (.int (-63 : Int32))) := A_3
        refine K.aloadN d14_48 (pc' := 49) rfl rfl rfl ?_
        refine K.iloadN d14_49 (pc' := 50) rfl rfl ?_
        refine K.iconst d14_50 (pc' := 51) rfl (z := 1) rfl ?_
        obtain ⟨z51, e_z51⟩ : ∃ z, p + (1 : Int32) = z := ⟨_, rfl⟩
        have r_z51 : (z51.toInt - (p.toInt + 1)) % 4294967296 = 0 := by have q := c_iadd p (1 : Int32); rw [e_z51] at q; exact q
        have g_z51 := rng32 z51
        have t_z51 : z51.toInt = p.toInt + 1 := by omega
        clear r_z51
        clear g_z51
        refine K.iadd d14_51 (pc' := 52) rfl e_z51 ?_
        refine K.iloadN d14_52 (pc' := 53) rfl rfl ?_
        refine K.iconst d14_53 (pc' := 54) rfl (z := 1) rfl ?_
        refine K.icmp_ne d14_54 (pc1 := 57) rfl (by decide) (pc2 := 65) (by decide) (a := kd.toInt) (b := 1) rfl rfl (fun c54 => ?_) (fun c54 => ?_)
        · refine K.iloadN d14_65 (pc' := 66) rfl rfl ?_
          refine K.bipush d14_66 (pc' := 68) rfl (z := 127) rfl ?_
          obtain ⟨z68, e_z68⟩ : ∃ z, v0 &&& (127 : Int32) = z := ⟨_, rfl⟩
          have r_z68 : z68.toInt = v0.toInt % 128 := by have q := c_mask v0 (127 : Int32) 7 (by decide) (by decide); rw [e_z68] at q; exact q
          refine K.iand d14_68 (pc' := 69) rfl e_z68 ?_
          obtain ⟨bb, e_bb⟩ : ∃ z, z68.toInt8.toInt32 = z := ⟨_, rfl⟩
          have r_bb : (bb.toInt - z68.toInt) % 256 = 0 ∧ -128 ≤ bb.toInt ∧ bb.toInt < 128 := by have q := c_i2b z68; rw [e_bb] at q; exact q
          refine K.i2b d14_69 (pc' := 70) rfl e_bb ?_
          refine K.bast d14_70 (pc' := 71) rfl A_6 (i := p.toInt.toNat + 1) (by omega) (by rw [List.length_set]; omega) P2 (fun h_7 W_8 A_9 => ?_)
          rw [show nar .byte bb = bb from nar_byte_of (by omega)] at W_8 A_9
          have kp_11 : Keep h h_7 [eb] := kp_5.wr W_8 (Or.inl (by simp))
          have A_12 : Ary Z h_7 eb .byte (((vs).set (p.toInt.toNat) (.int (-63 : Int32))).set (p.toInt.toNat + 1) (.int bb)) := A_9
          refine K.iloadN d14_71 (pc' := 72) rfl rfl ?_
          refine K.iconst d14_72 (pc' := 73) rfl (z := 2) rfl ?_
          obtain ⟨z73, e_z73⟩ : ∃ z, p + (2 : Int32) = z := ⟨_, rfl⟩
          have r_z73 : (z73.toInt - (p.toInt + 2)) % 4294967296 = 0 := by have q := c_iadd p (2 : Int32); rw [e_z73] at q; exact q
          have g_z73 := rng32 z73
          have t_z73 : z73.toInt = p.toInt + 2 := by omega
          clear r_z73
          clear g_z73
          refine K.iadd d14_73 (pc' := 74) rfl e_z73 ?_
          exact K.reti d14_74 (by decide) (by decide) ⟨z73, (((vs).set (p.toInt.toNat) (.int (-63 : Int32))).set (p.toInt.toNat + 1) (.int bb)), 2, rfl, by refine ⟨by omega, Or.inr (Or.inr (Or.inr ⟨by omega, rfl, (by rw [List.getElem?_set_ne (by omega)]; exact List.getElem?_set_self (by omega)), bb, List.getElem?_set_self (by rw [List.length_set]; omega), by omega, by omega⟩)), by rw [List.length_set, List.length_set]; exact hl, fun j hj => by rw [List.getElem?_set_ne (by omega), List.getElem?_set_ne (by omega)]⟩, kp_11, A_12⟩
        · exfalso; omega
      · refine K.sipush d14_37 (pc' := 40) rfl (z := 129) rfl ?_
        refine K.goto d14_40 (by decide) (pc' := 46) (by decide) ?_
        refine K.i2b d14_46 (pc' := 47) rfl (z := (-127 : Int32)) (by decide) ?_
        refine K.bast d14_47 (pc' := 48) rfl P1 (i := p.toInt.toNat) (by omega) (by omega) P2 (fun h_13 W_14 A_15 => ?_)
        rw [show nar .byte (-127 : Int32) = (-127 : Int32) from (by decide)] at W_14 A_15
        have kp_17 : Keep h h_13 [eb] := (Keep.refl h [eb]).wr W_14 (Or.inl (by simp))
        have A_18 : Ary Z h_13 eb .byte ((vs).set (p.toInt.toNat) (.int (-127 : Int32))) := A_15
        refine K.aloadN d14_48 (pc' := 49) rfl rfl rfl ?_
        refine K.iloadN d14_49 (pc' := 50) rfl rfl ?_
        refine K.iconst d14_50 (pc' := 51) rfl (z := 1) rfl ?_
        obtain ⟨z51, e_z51⟩ : ∃ z, p + (1 : Int32) = z := ⟨_, rfl⟩
        have r_z51 : (z51.toInt - (p.toInt + 1)) % 4294967296 = 0 := by have q := c_iadd p (1 : Int32); rw [e_z51] at q; exact q
        have g_z51 := rng32 z51
        have t_z51 : z51.toInt = p.toInt + 1 := by omega
        clear r_z51
        clear g_z51
        refine K.iadd d14_51 (pc' := 52) rfl e_z51 ?_
        refine K.iloadN d14_52 (pc' := 53) rfl rfl ?_
        refine K.iconst d14_53 (pc' := 54) rfl (z := 1) rfl ?_
        refine K.icmp_ne d14_54 (pc1 := 57) rfl (by decide) (pc2 := 65) (by decide) (a := kd.toInt) (b := 1) rfl rfl (fun c54 => ?_) (fun c54 => ?_)
        · exfalso; omega
        · refine K.iloadN d14_57 (pc' := 58) rfl rfl ?_
          refine K.sipush d14_58 (pc' := 61) rfl (z := 128) rfl ?_
          obtain ⟨z61, e_z61⟩ : ∃ z, v0 ||| (128 : Int32) = z := ⟨_, rfl⟩
          have r_z61 := or128 v0
          rw [e_z61] at r_z61
          refine K.ior d14_61 (pc' := 62) rfl e_z61 ?_
          refine K.goto d14_62 (by decide) (pc' := 69) (by decide) ?_
          obtain ⟨bb, e_bb⟩ : ∃ z, z61.toInt8.toInt32 = z := ⟨_, rfl⟩
          have r_bb : (bb.toInt - z61.toInt) % 256 = 0 ∧ -128 ≤ bb.toInt ∧ bb.toInt < 128 := by have q := c_i2b z61; rw [e_bb] at q; exact q
          refine K.i2b d14_69 (pc' := 70) rfl e_bb ?_
          refine K.bast d14_70 (pc' := 71) rfl A_18 (i := p.toInt.toNat + 1) (by omega) (by rw [List.length_set]; omega) P2 (fun h_19 W_20 A_21 => ?_)
          rw [show nar .byte bb = bb from nar_byte_of (by omega)] at W_20 A_21
          have kp_23 : Keep h h_19 [eb] := kp_17.wr W_20 (Or.inl (by simp))
          have A_24 : Ary Z h_19 eb .byte (((vs).set (p.toInt.toNat) (.int (-127 : Int32))).set (p.toInt.toNat + 1) (.int bb)) := A_21
          refine K.iloadN d14_71 (pc' := 72) rfl rfl ?_
          refine K.iconst d14_72 (pc' := 73) rfl (z := 2) rfl ?_
          obtain ⟨z73, e_z73⟩ : ∃ z, p + (2 : Int32) = z := ⟨_, rfl⟩
          have r_z73 : (z73.toInt - (p.toInt + 2)) % 4294967296 = 0 := by have q := c_iadd p (2 : Int32); rw [e_z73] at q; exact q
          have g_z73 := rng32 z73
          have t_z73 : z73.toInt = p.toInt + 2 := by omega
          clear r_z73
          clear g_z73
          refine K.iadd d14_73 (pc' := 74) rfl e_z73 ?_
          exact K.reti d14_74 (by decide) (by decide) ⟨z73, (((vs).set (p.toInt.toNat) (.int (-127 : Int32))).set (p.toInt.toNat + 1) (.int bb)), 2, rfl, by refine ⟨by omega, Or.inr (Or.inl ⟨by omega, rfl, (by rw [List.getElem?_set_ne (by omega)]; exact List.getElem?_set_self (by omega)), bb, List.getElem?_set_self (by rw [List.length_set]; omega), by omega, by omega⟩), by rw [List.length_set, List.length_set]; exact hl, fun j hj => by rw [List.getElem?_set_ne (by omega), List.getElem?_set_ne (by omega)]⟩, kp_23, A_24⟩
    · refine K.aloadN d14_21 (pc' := 22) rfl rfl rfl ?_
      refine K.iloadN d14_22 (pc' := 23) rfl rfl ?_
      refine K.bipush d14_23 (pc' := 25) rfl (z := -64) rfl ?_
      refine K.bast d14_25 (pc' := 26) rfl P1 (i := p.toInt.toNat) (by omega) (by omega) P2 (fun h_25 W_26 A_27 => ?_)
      rw [show nar .byte (-64 : Int32) = (-64 : Int32) from (by decide)] at W_26 A_27
      have kp_29 : Keep h h_25 [eb] := (Keep.refl h [eb]).wr W_26 (Or.inl (by simp))
      have A_30 : Ary Z h_25 eb .byte ((vs).set (p.toInt.toNat) (.int (-64 : Int32))) := A_27
      refine K.iloadN d14_26 (pc' := 27) rfl rfl ?_
      refine K.iconst d14_27 (pc' := 28) rfl (z := 1) rfl ?_
      obtain ⟨z28, e_z28⟩ : ∃ z, p + (1 : Int32) = z := ⟨_, rfl⟩
      have r_z28 : (z28.toInt - (p.toInt + 1)) % 4294967296 = 0 := by have q := c_iadd p (1 : Int32); rw [e_z28] at q; exact q
      have g_z28 := rng32 z28
      have t_z28 : z28.toInt = p.toInt + 1 := by omega
      clear r_z28
      clear g_z28
      refine K.iadd d14_28 (pc' := 29) rfl e_z28 ?_
      exact K.reti d14_29 (by decide) (by decide) ⟨z28, ((vs).set (p.toInt.toNat) (.int (-64 : Int32))), 1, rfl, by refine ⟨by omega, Or.inr (Or.inr (Or.inl ⟨by omega, rfl, List.getElem?_set_self (by omega)⟩)), by rw [List.length_set]; exact hl, fun j hj => List.getElem?_set_ne (by omega)⟩, kp_29, A_30⟩
  · refine K.aloadN d14_4 (pc' := 5) rfl rfl rfl ?_
    refine K.iloadN d14_5 (pc' := 6) rfl rfl ?_
    refine K.iloadN d14_6 (pc' := 7) rfl rfl ?_
    refine K.bipush d14_7 (pc' := 9) rfl (z := 127) rfl ?_
    obtain ⟨z9, e_z9⟩ : ∃ z, v0 &&& (127 : Int32) = z := ⟨_, rfl⟩
    have r_z9 : z9.toInt = v0.toInt % 128 := by have q := c_mask v0 (127 : Int32) 7 (by decide) (by decide); rw [e_z9] at q; exact q
    refine K.iand d14_9 (pc' := 10) rfl e_z9 ?_
    obtain ⟨z10, e_z10⟩ : ∃ z, z9.toInt8.toInt32 = z := ⟨_, rfl⟩
    have r_z10 : (z10.toInt - z9.toInt) % 256 = 0 ∧ -128 ≤ z10.toInt ∧ z10.toInt < 128 := by have q := c_i2b z9; rw [e_z10] at q; exact q
    refine K.i2b d14_10 (pc' := 11) rfl e_z10 ?_
    refine K.bast d14_11 (pc' := 12) rfl P1 (i := p.toInt.toNat) (by omega) (by omega) P2 (fun h_31 W_32 A_33 => ?_)
    rw [show nar .byte z10 = z10 from nar_byte_of (by omega)] at W_32 A_33
    have kp_35 : Keep h h_31 [eb] := (Keep.refl h [eb]).wr W_32 (Or.inl (by simp))
    have A_36 : Ary Z h_31 eb .byte ((vs).set (p.toInt.toNat) (.int z10)) := A_33
    refine K.iloadN d14_12 (pc' := 13) rfl rfl ?_
    refine K.iconst d14_13 (pc' := 14) rfl (z := 1) rfl ?_
    obtain ⟨z14, e_z14⟩ : ∃ z, p + (1 : Int32) = z := ⟨_, rfl⟩
    have r_z14 : (z14.toInt - (p.toInt + 1)) % 4294967296 = 0 := by have q := c_iadd p (1 : Int32); rw [e_z14] at q; exact q
    have g_z14 := rng32 z14
    have t_z14 : z14.toInt = p.toInt + 1 := by omega
    clear r_z14
    clear g_z14
    refine K.iadd d14_14 (pc' := 15) rfl e_z14 ?_
    exact K.reti d14_15 (by decide) (by decide) ⟨z14, ((vs).set (p.toInt.toNat) (.int z10)), 1, rfl, by refine ⟨by omega, Or.inl ⟨by omega, rfl, z10, List.getElem?_set_self (by omega), by omega, by omega⟩, by rw [List.length_set]; exact hl, fun j hj => List.getElem?_set_ne (by omega)⟩, kp_35, A_36⟩
theorem d15_0 : decode method_4_code 0 = .ok (.iload_n 1, 1) := by decide +kernel
theorem d15_1 : decode method_4_code 1 = .ok (.iconst 2, 1) := by decide +kernel
theorem d15_2 : decode method_4_code 2 = .ok (.if_icmp .ne 17, 3) := by decide +kernel
theorem d15_19 : decode method_4_code 19 = .ok (.iload_n 1, 1) := by decide +kernel
theorem d15_20 : decode method_4_code 20 = .ok (.iconst 3, 1) := by decide +kernel
theorem d15_21 : decode method_4_code 21 = .ok (.if_icmp .ne 31, 3) := by decide +kernel
theorem d15_52 : decode method_4_code 52 = .ok (.aload_n 0, 1) := by decide +kernel
theorem d15_53 : decode method_4_code 53 = .ok (.invokevirtual 23, 3) := by decide +kernel
theorem pd_6 : parseMethodDescriptor "()Lcom/example/nestwire/nestwire/codec/RlpWalker$Step;" = some ⟨[], some (.object "com/example/nestwire/nestwire/codec/RlpWalker$Step")⟩ := by decide +kernel
theorem d15_56 : decode method_4_code 56 = .ok (.pop, 1) := by decide +kernel
theorem d15_57 : decode method_4_code 57 = .ok (.aload_n 0, 1) := by decide +kernel
theorem d15_58 : decode method_4_code 58 = .ok (.invokevirtual 19, 3) := by decide +kernel
theorem d15_61 : decode method_4_code 61 = .ok (.iload_n 2, 1) := by decide +kernel
theorem d15_62 : decode method_4_code 62 = .ok (.if_icmp .ne 7, 3) := by decide +kernel
theorem d15_69 : decode method_4_code 69 = .ok (.iconst 0, 1) := by decide +kernel
theorem d15_70 : decode method_4_code 70 = .ok (.ireturn, 1) := by decide +kernel
theorem d15_65 : decode method_4_code 65 = .ok (.iconst 1, 1) := by decide +kernel
theorem d15_66 : decode method_4_code 66 = .ok (.goto 4, 3) := by decide +kernel
theorem d15_5 : decode method_4_code 5 = .ok (.aload_n 0, 1) := by decide +kernel
theorem d15_6 : decode method_4_code 6 = .ok (.invokevirtual 23, 3) := by decide +kernel
theorem d15_9 : decode method_4_code 9 = .ok (.pop, 1) := by decide +kernel
theorem d15_10 : decode method_4_code 10 = .ok (.aload_n 0, 1) := by decide +kernel
theorem d15_11 : decode method_4_code 11 = .ok (.invokevirtual 19, 3) := by decide +kernel
theorem d15_14 : decode method_4_code 14 = .ok (.ifCond .ne 38, 3) := by decide +kernel
theorem d15_24 : decode method_4_code 24 = .ok (.aload_n 0, 1) := by decide +kernel
theorem d15_25 : decode method_4_code 25 = .ok (.invokevirtual 23, 3) := by decide +kernel
theorem d15_28 : decode method_4_code 28 = .ok (.pop, 1) := by decide +kernel
theorem d15_29 : decode method_4_code 29 = .ok (.aload_n 0, 1) := by decide +kernel
theorem d15_30 : decode method_4_code 30 = .ok (.invokevirtual 19, 3) := by decide +kernel
theorem d15_33 : decode method_4_code 33 = .ok (.ifCond .eq 5, 3) := by decide +kernel
theorem d15_38 : decode method_4_code 38 = .ok (.aload_n 0, 1) := by decide +kernel
theorem d15_39 : decode method_4_code 39 = .ok (.invokevirtual 23, 3) := by decide +kernel
theorem d15_42 : decode method_4_code 42 = .ok (.pop, 1) := by decide +kernel
theorem d15_43 : decode method_4_code 43 = .ok (.aload_n 0, 1) := by decide +kernel
theorem d15_44 : decode method_4_code 44 = .ok (.invokevirtual 19, 3) := by decide +kernel
theorem d15_47 : decode method_4_code 47 = .ok (.ifCond .ne 5, 3) := by decide +kernel
set_option maxRecDepth 65536 in
set_option maxHeartbeats 40000000 in
theorem c_item (l : Launch) (Z : State) (a0 : Array Value) (hw : ∀ d ∈ tables_1, d.before a0 Z = true) (n0 : Nat) (h : Heap) (a : Addr) (hd : Addr) (en : Addr) (eb : Addr) (n : Int32) (p : Int32) (i0 : Int32) (st0 : Int32) (l0 : Int32) (s0 : Int32) (g0 : Int32) (e0 : Int32) (e1 : Int32) (vs : List Value) (kd : Int32) (lt : Int32) (sz : Int) (cE : Addr) (cB : Addr) (cS : Addr) (P1 : Exa Z h a "com/example/nestwire/nestwire/codec/EncodingWalker") (P2 : Exa Z h hd "com/example/nestwire/nestwire/codec/Header") (P3 : n0 ≤ a) (P4 : n0 ≤ hd) (P5 : n0 ≤ en) (P6 : a ≠ hd) (P7 : a ≠ en) (P8 : a ≠ eb) (P9 : hd ≠ en) (P10 : hd ≠ eb) (P11 : en ≠ eb) (P12 : Old Z n0 h) (P13 : Sta Z Z.heap "com/example/nestwire/nestwire/codec/RlpWalker$Step" "LIST_END" "Lcom/example/nestwire/nestwire/codec/RlpWalker$Step;" (.ref cE)) (P14 : Sta Z Z.heap "com/example/nestwire/nestwire/codec/RlpWalker$Step" "BYTES" "Lcom/example/nestwire/nestwire/codec/RlpWalker$Step;" (.ref cB)) (P15 : Sta Z Z.heap "com/example/nestwire/nestwire/codec/RlpWalker$Step" "LIST_START" "Lcom/example/nestwire/nestwire/codec/RlpWalker$Step;" (.ref cS)) (P16 : Fld Z h a "com/example/nestwire/nestwire/codec/EncodingWalker" "header" "Lcom/example/nestwire/nestwire/codec/Header;" (.ref hd)) (P17 : Fld Z h a "com/example/nestwire/nestwire/codec/EncodingWalker" "ends" "[I" (.ref en)) (P18 : Fld Z h a "com/example/nestwire/nestwire/codec/EncodingWalker" "encoding" "[B" (.ref eb)) (P19 : Fld Z h a "com/example/nestwire/nestwire/codec/EncodingWalker" "end" "I" (.int n)) (P20 : Fld Z h a "com/example/nestwire/nestwire/codec/EncodingWalker" "position" "I" (.int p)) (P21 : Fld Z h a "com/example/nestwire/nestwire/codec/EncodingWalker" "depth" "I" (.int (1 : Int32))) (P22 : Fld Z h a "com/example/nestwire/nestwire/codec/EncodingWalker" "started" "Z" (.int st0)) (P23 : Fld Z h a "com/example/nestwire/nestwire/codec/EncodingWalker" "peeked" "Z" (.int (0 : Int32))) (P24 : Fld Z h a "com/example/nestwire/nestwire/codec/EncodingWalker" "itemStart" "I" (.int i0)) (P25 : Fld Z h hd "com/example/nestwire/nestwire/codec/Header" "isList" "Z" (.int l0)) (P26 : Fld Z h hd "com/example/nestwire/nestwire/codec/Header" "payloadStart" "I" (.int s0)) (P27 : Fld Z h hd "com/example/nestwire/nestwire/codec/Header" "payloadLength" "I" (.int g0)) (P28 : Ary Z h en .int [(.int e0), (.int e1), (.int (0 : Int32)), (.int (0 : Int32)), (.int (0 : Int32)), (.int (0 : Int32)), (.int (0 : Int32)), (.int (0 : Int32)), (.int (0 : Int32)), (.int (0 : Int32)), (.int (0 : Int32)), (.int (0 : Int32)), (.int (0 : Int32)), (.int (0 : Int32)), (.int (0 : Int32)), (.int (0 : Int32))]) (P29 : Ary Z h eb .byte vs) (hI : Itm vs p.toInt.toNat kd.toInt sz) (hp : 0 ≤ p.toInt ∧ p.toInt < 90) (hlim : e0.toInt < 200 ∧ p.toInt + sz ≤ e0.toInt) (hlt : lt.toInt = 0 ∨ lt.toInt = 1) : MeetsW l Z n0 (⟨"com/example/nestwire/nestwire/codec/EncodingWalkerAtListEndPinLaw", "item", "(Lcom/example/nestwire/nestwire/codec/EncodingWalker;IZ)Z"⟩ : MethodName) method_4_code 3 (some .boolean) ({ frames := 5, cells := 0, slots := 0, locals := 72 } : Room) #[(.ref a), (.int kd), (.int lt)] h (fun v h' => ∃ (pe : Int32) (i1 : Int32) (l1 : Int32) (s1 : Int32) (g1 : Int32) (f1 : Int32), v = some (.int (b2 (p.toInt + sz = e0.toInt ↔ lt.toInt ≠ 0))) ∧ Keep h h' [a, hd, en] ∧ (pe.toInt = p.toInt + sz) ∧ Fld Z h' a "com/example/nestwire/nestwire/codec/EncodingWalker" "header" "Lcom/example/nestwire/nestwire/codec/Header;" (.ref hd) ∧ Fld Z h' a "com/example/nestwire/nestwire/codec/EncodingWalker" "ends" "[I" (.ref en) ∧ Fld Z h' a "com/example/nestwire/nestwire/codec/EncodingWalker" "encoding" "[B" (.ref eb) ∧ Fld Z h' a "com/example/nestwire/nestwire/codec/EncodingWalker" "end" "I" (.int n) ∧ Fld Z h' a "com/example/nestwire/nestwire/codec/EncodingWalker" "position" "I" (.int pe) ∧ Fld Z h' a "com/example/nestwire/nestwire/codec/EncodingWalker" "depth" "I" (.int (1 : Int32)) ∧ Fld Z h' a "com/example/nestwire/nestwire/codec/EncodingWalker" "started" "Z" (.int (1 : Int32)) ∧ Fld Z h' a "com/example/nestwire/nestwire/codec/EncodingWalker" "peeked" "Z" (.int (0 : Int32)) ∧ Fld Z h' a "com/example/nestwire/nestwire/codec/EncodingWalker" "itemStart" "I" (.int i1) ∧ Fld Z h' hd "com/example/nestwire/nestwire/codec/Header" "isList" "Z" (.int l1) ∧ Fld Z h' hd "com/example/nestwire/nestwire/codec/Header" "payloadStart" "I" (.int s1) ∧ Fld Z h' hd "com/example/nestwire/nestwire/codec/Header" "payloadLength" "I" (.int g1) ∧ Ary Z h' en .int [(.int e0), (.int f1), (.int (0 : Int32)), (.int (0 : Int32)), (.int (0 : Int32)), (.int (0 : Int32)), (.int (0 : Int32)), (.int (0 : Int32)), (.int (0 : Int32)), (.int (0 : Int32)), (.int (0 : Int32)), (.int (0 : Int32)), (.int (0 : Int32)), (.int (0 : Int32)), (.int (0 : Int32)), (.int (0 : Int32))]) := by
  refine MeetsW.intro (plainFor_of_name pn_com_example_nestwire_nestwire_codec_EncodingWalkerAtListEndPinLaw) (L0 := #[.val (.ref a), .val (.int kd), .val (.int lt)]) (fun m => by first | (simp [entryFrame, mkF, argsToLocals, Value.category]; done) | rfl) ?_
  intro m G K0
  have K : Cx l ({ frames := 5, cells := 0, slots := 0, locals := 72 } : Room) Z n0 _ "com/example/nestwire/nestwire/codec/EncodingWalkerAtListEndPinLaw" "item" method_4_code 3 (some .boolean) m G := K0
  rcases hI with ⟨hk, hz, b, hv, hb⟩ | ⟨hk, hz, hv, b1, hv1, hb1⟩ | ⟨hk, hz, hv⟩ | ⟨hk, hz, hv, b1, hv1, hb1⟩
  · obtain rfl : kd = 0 := eqI hk
    refine K.iloadN d15_0 (pc' := 1) rfl rfl ?_
    refine K.iconst d15_1 (pc' := 2) rfl (z := 2) rfl ?_
    refine K.icmp_ne d15_2 (pc1 := 5) rfl (by decide) (pc2 := 19) (by decide) (a := 0) (b := 2) rfl rfl (fun c2 => ?_) (fun c2 => ?_)
    · refine K.iloadN d15_19 (pc' := 20) rfl rfl ?_
      refine K.iconst d15_20 (pc' := 21) rfl (z := 3) rfl ?_
      refine K.icmp_ne d15_21 (pc1 := 24) rfl (by decide) (pc2 := 52) (by decide) (a := 0) (b := 3) rfl rfl (fun c21 => ?_) (fun c21 => ?_)
      · refine K.aloadN d15_52 (pc' := 53) rfl rfl rfl ?_
        refine K.callv (z := (⟨"com/example/nestwire/nestwire/codec/EncodingWalker", "next", "()Lcom/example/nestwire/nestwire/codec/RlpWalker$Step;"⟩ : MethodName)) (argsL := []) (rest := []) d15_53 (pc' := 56) rfl (c_nB10 l Z a0 hw n0 h (a := a) (hd := hd) (en := en) (eb := eb) (n := n) (p := p) (i0 := i0) (st0 := st0) (l0 := l0) (s0 := s0) (g0 := g0) (e0 := e0) (e1 := e1) (vs := vs) (b := b) (cB := cB) P1 P2 P3 P4 P5 P6 P7 P8 P9 P10 P11 P12 P14 P16 P17 P18 P19 P20 P21 P22 P23 P24 P25 P26 P27 P28 P29 hv (by omega) hb (by omega)) P1 (hw _ (List.mem_of_getElem? (i := 36) rfl)) (hw _ (List.mem_of_getElem? (i := 37) rfl)) (nf_sel (hw _ (List.mem_of_getElem? (i := 39) rfl)) rfl) (hw _ (List.mem_of_getElem? (i := 39) rfl)) (hw _ (List.mem_of_getElem? (i := 38) rfl)) (hw _ (List.mem_of_getElem? (i := 4) rfl)) (hw _ (List.mem_of_getElem? (i := 40) rfl)) (by decide) pd_6 rfl rfl (W := 0) (by simp [Value.category]) (by decide) (by decide) (by decide) (by decide) (fun v_3 h_1 q_2 => ?_)
        obtain ⟨pew, l1w, s1w, g1w, rfl, K_4, hpe_w, f_5, f_6, f_7, f_8, f_9, f_10, f_11, f_12, f_13, f_14, f_15, f_16⟩ := q_2
        have f_17 : Exa Z h_1 a "com/example/nestwire/nestwire/codec/EncodingWalker" := P1.keep K_4
        have f_18 : Exa Z h_1 hd "com/example/nestwire/nestwire/codec/Header" := P2.keep K_4
        have f_19 : Old Z n0 h_1 := P12.keep K_4 (allS P3 (allS P4 all0))
        have f_32 : Ary Z h_1 en .int [(.int e0), (.int e1), (.int (0 : Int32)), (.int (0 : Int32)), (.int (0 : Int32)), (.int (0 : Int32)), (.int (0 : Int32)), (.int (0 : Int32)), (.int (0 : Int32)), (.int (0 : Int32)), (.int (0 : Int32)), (.int (0 : Int32)), (.int (0 : Int32)), (.int (0 : Int32)), (.int (0 : Int32)), (.int (0 : Int32))] := P28.keep K_4 (ninS (Ne.symm P7) (ninS (Ne.symm P9) nin0))
        have f_33 : Ary Z h_1 eb .byte vs := P29.keep K_4 (ninS (Ne.symm P8) (ninS (Ne.symm P10) nin0))
        have kp_34 : Keep h h_1 [a, hd, en] := (Keep.refl h [a, hd, en]).trans K_4 (allS (Or.inl (by simp)) (allS (Or.inl (by simp)) all0))
        show G h_1 0 0 (mkF m 56 #[.val (.ref a), .val (.int (0 : Int32)), .val (.int lt)] [(.ref cB)])
        refine K.pop d15_56 (pc' := 57) rfl rfl ?_
        refine K.aloadN d15_57 (pc' := 58) rfl rfl rfl ?_
        refine K.callv (z := (⟨"com/example/nestwire/nestwire/codec/EncodingWalker", "atListEnd", "()Z"⟩ : MethodName)) (argsL := []) (rest := []) d15_58 (pc' := 61) rfl (c_ale1 l Z a0 hw n0 h_1 (a := a) (en := en) (p := pew) (e0 := e0) (e1 := e1) f_17 f_10 f_9 f_6 f_32) f_17 (hw _ (List.mem_of_getElem? (i := 29) rfl)) (hw _ (List.mem_of_getElem? (i := 30) rfl)) (nf_sel (hw _ (List.mem_of_getElem? (i := 32) rfl)) rfl) (hw _ (List.mem_of_getElem? (i := 32) rfl)) (hw _ (List.mem_of_getElem? (i := 31) rfl)) (hw _ (List.mem_of_getElem? (i := 4) rfl)) (hw _ (List.mem_of_getElem? (i := 33) rfl)) (by decide) pd_3 rfl rfl (W := 0) (by simp [Value.category]) (by decide) (by decide) (by decide) (by decide) (fun v_37 h_35 q_36 => ?_)
        obtain ⟨rfl, rfl⟩ := q_36
        show G h_1 0 0 (mkF m 61 #[.val (.ref a), .val (.int (0 : Int32)), .val (.int lt)] [(.int (b2 (pew.toInt = e0.toInt)))])
        refine K.iloadN d15_61 (pc' := 62) rfl rfl ?_
        refine K.icmp_ne d15_62 (pc1 := 65) rfl (by decide) (pc2 := 69) (by decide) (a := (b2 (pew.toInt = e0.toInt)).toInt) (b := lt.toInt) rfl rfl (fun c62 => ?_) (fun c62 => ?_)
        · refine K.iconst d15_69 (pc' := 70) rfl (z := 0) rfl ?_
          exact K.retz d15_70 (Or.inl rfl) (by decide) (by decide) ⟨pew, p, l1w, s1w, g1w, e1, by rw [b2_f (by have q0 : (-64 : Int32).toInt = -64 := rfl; have q1 : (-63 : Int32).toInt = -63 := rfl; rw [b2_int] at c62; split at c62 <;> omega)], kp_34, by have q0 : (-64 : Int32).toInt = -64 := rfl; have q1 : (-63 : Int32).toInt = -63 := rfl; have q2 : (-127 : Int32).toInt = -127 := rfl; omega, f_5, f_6, f_7, f_8, f_9, f_10, f_11, f_12, f_13, f_14, f_15, f_16, f_32⟩
        · refine K.iconst d15_65 (pc' := 66) rfl (z := 1) rfl ?_
          refine K.goto d15_66 (by decide) (pc' := 70) (by decide) ?_
          exact K.retz d15_70 (Or.inr rfl) (by decide) (by decide) ⟨pew, p, l1w, s1w, g1w, e1, by rw [b2_t (by have q0 : (-64 : Int32).toInt = -64 := rfl; have q1 : (-63 : Int32).toInt = -63 := rfl; rw [b2_int] at c62; split at c62 <;> omega)], kp_34, by have q0 : (-64 : Int32).toInt = -64 := rfl; have q1 : (-63 : Int32).toInt = -63 := rfl; have q2 : (-127 : Int32).toInt = -127 := rfl; omega, f_5, f_6, f_7, f_8, f_9, f_10, f_11, f_12, f_13, f_14, f_15, f_16, f_32⟩
      · exfalso; omega
    · exfalso; omega
  · obtain rfl : kd = 1 := eqI hk
    refine K.iloadN d15_0 (pc' := 1) rfl rfl ?_
    refine K.iconst d15_1 (pc' := 2) rfl (z := 2) rfl ?_
    refine K.icmp_ne d15_2 (pc1 := 5) rfl (by decide) (pc2 := 19) (by decide) (a := 1) (b := 2) rfl rfl (fun c2 => ?_) (fun c2 => ?_)
    · refine K.iloadN d15_19 (pc' := 20) rfl rfl ?_
      refine K.iconst d15_20 (pc' := 21) rfl (z := 3) rfl ?_
      refine K.icmp_ne d15_21 (pc1 := 24) rfl (by decide) (pc2 := 52) (by decide) (a := 1) (b := 3) rfl rfl (fun c21 => ?_) (fun c21 => ?_)
      · refine K.aloadN d15_52 (pc' := 53) rfl rfl rfl ?_
        refine K.callv (z := (⟨"com/example/nestwire/nestwire/codec/EncodingWalker", "next", "()Lcom/example/nestwire/nestwire/codec/RlpWalker$Step;"⟩ : MethodName)) (argsL := []) (rest := []) d15_53 (pc' := 56) rfl (c_nB11 l Z a0 hw n0 h (a := a) (hd := hd) (en := en) (eb := eb) (n := n) (p := p) (i0 := i0) (st0 := st0) (l0 := l0) (s0 := s0) (g0 := g0) (e0 := e0) (e1 := e1) (vs := vs) (b := (-127 : Int32)) (b1 := b1) (cB := cB) P1 P2 P3 P4 P5 P6 P7 P8 P9 P10 P11 P12 P14 P16 P17 P18 P19 P20 P21 P22 P23 P24 P25 P26 P27 P28 P29 hv (by omega) (by decide) (by omega) hv1 hb1) P1 (hw _ (List.mem_of_getElem? (i := 36) rfl)) (hw _ (List.mem_of_getElem? (i := 37) rfl)) (nf_sel (hw _ (List.mem_of_getElem? (i := 39) rfl)) rfl) (hw _ (List.mem_of_getElem? (i := 39) rfl)) (hw _ (List.mem_of_getElem? (i := 38) rfl)) (hw _ (List.mem_of_getElem? (i := 4) rfl)) (hw _ (List.mem_of_getElem? (i := 40) rfl)) (by decide) pd_6 rfl rfl (W := 0) (by simp [Value.category]) (by decide) (by decide) (by decide) (by decide) (fun v_41 h_39 q_40 => ?_)
        obtain ⟨pew, l1w, s1w, g1w, rfl, K_42, hpe_w, f_43, f_44, f_45, f_46, f_47, f_48, f_49, f_50, f_51, f_52, f_53, f_54⟩ := q_40
        have f_55 : Exa Z h_39 a "com/example/nestwire/nestwire/codec/EncodingWalker" := P1.keep K_42
        have f_56 : Exa Z h_39 hd "com/example/nestwire/nestwire/codec/Header" := P2.keep K_42
        have f_57 : Old Z n0 h_39 := P12.keep K_42 (allS P3 (allS P4 all0))
        have f_70 : Ary Z h_39 en .int [(.int e0), (.int e1), (.int (0 : Int32)), (.int (0 : Int32)), (.int (0 : Int32)), (.int (0 : Int32)), (.int (0 : Int32)), (.int (0 : Int32)), (.int (0 : Int32)), (.int (0 : Int32)), (.int (0 : Int32)), (.int (0 : Int32)), (.int (0 : Int32)), (.int (0 : Int32)), (.int (0 : Int32)), (.int (0 : Int32))] := P28.keep K_42 (ninS (Ne.symm P7) (ninS (Ne.symm P9) nin0))
        have f_71 : Ary Z h_39 eb .byte vs := P29.keep K_42 (ninS (Ne.symm P8) (ninS (Ne.symm P10) nin0))
        have kp_72 : Keep h h_39 [a, hd, en] := (Keep.refl h [a, hd, en]).trans K_42 (allS (Or.inl (by simp)) (allS (Or.inl (by simp)) all0))
        show G h_39 0 0 (mkF m 56 #[.val (.ref a), .val (.int (1 : Int32)), .val (.int lt)] [(.ref cB)])
        refine K.pop d15_56 (pc' := 57) rfl rfl ?_
        refine K.aloadN d15_57 (pc' := 58) rfl rfl rfl ?_
        refine K.callv (z := (⟨"com/example/nestwire/nestwire/codec/EncodingWalker", "atListEnd", "()Z"⟩ : MethodName)) (argsL := []) (rest := []) d15_58 (pc' := 61) rfl (c_ale1 l Z a0 hw n0 h_39 (a := a) (en := en) (p := pew) (e0 := e0) (e1 := e1) f_55 f_48 f_47 f_44 f_70) f_55 (hw _ (List.mem_of_getElem? (i := 29) rfl)) (hw _ (List.mem_of_getElem? (i := 30) rfl)) (nf_sel (hw _ (List.mem_of_getElem? (i := 32) rfl)) rfl) (hw _ (List.mem_of_getElem? (i := 32) rfl)) (hw _ (List.mem_of_getElem? (i := 31) rfl)) (hw _ (List.mem_of_getElem? (i := 4) rfl)) (hw _ (List.mem_of_getElem? (i := 33) rfl)) (by decide) pd_3 rfl rfl (W := 0) (by simp [Value.category]) (by decide) (by decide) (by decide) (by decide) (fun v_75 h_73 q_74 => ?_)
        obtain ⟨rfl, rfl⟩ := q_74
        show G h_39 0 0 (mkF m 61 #[.val (.ref a), .val (.int (1 : Int32)), .val (.int lt)] [(.int (b2 (pew.toInt = e0.toInt)))])
        refine K.iloadN d15_61 (pc' := 62) rfl rfl ?_
        refine K.icmp_ne d15_62 (pc1 := 65) rfl (by decide) (pc2 := 69) (by decide) (a := (b2 (pew.toInt = e0.toInt)).toInt) (b := lt.toInt) rfl rfl (fun c62 => ?_) (fun c62 => ?_)
        · refine K.iconst d15_69 (pc' := 70) rfl (z := 0) rfl ?_
          exact K.retz d15_70 (Or.inl rfl) (by decide) (by decide) ⟨pew, p, l1w, s1w, g1w, e1, by rw [b2_f (by have q0 : (-64 : Int32).toInt = -64 := rfl; have q1 : (-63 : Int32).toInt = -63 := rfl; rw [b2_int] at c62; split at c62 <;> omega)], kp_72, by have q0 : (-64 : Int32).toInt = -64 := rfl; have q1 : (-63 : Int32).toInt = -63 := rfl; have q2 : (-127 : Int32).toInt = -127 := rfl; omega, f_43, f_44, f_45, f_46, f_47, f_48, f_49, f_50, f_51, f_52, f_53, f_54, f_70⟩
        · refine K.iconst d15_65 (pc' := 66) rfl (z := 1) rfl ?_
          refine K.goto d15_66 (by decide) (pc' := 70) (by decide) ?_
          exact K.retz d15_70 (Or.inr rfl) (by decide) (by decide) ⟨pew, p, l1w, s1w, g1w, e1, by rw [b2_t (by have q0 : (-64 : Int32).toInt = -64 := rfl; have q1 : (-63 : Int32).toInt = -63 := rfl; rw [b2_int] at c62; split at c62 <;> omega)], kp_72, by have q0 : (-64 : Int32).toInt = -64 := rfl; have q1 : (-63 : Int32).toInt = -63 := rfl; have q2 : (-127 : Int32).toInt = -127 := rfl; omega, f_43, f_44, f_45, f_46, f_47, f_48, f_49, f_50, f_51, f_52, f_53, f_54, f_70⟩
      · exfalso; omega
    · exfalso; omega
  · obtain rfl : kd = 2 := eqI hk
    refine K.iloadN d15_0 (pc' := 1) rfl rfl ?_
    refine K.iconst d15_1 (pc' := 2) rfl (z := 2) rfl ?_
    refine K.icmp_ne d15_2 (pc1 := 5) rfl (by decide) (pc2 := 19) (by decide) (a := 2) (b := 2) rfl rfl (fun c2 => ?_) (fun c2 => ?_)
    · exfalso; omega
    · refine K.aloadN d15_5 (pc' := 6) rfl rfl rfl ?_
      refine K.callv (z := (⟨"com/example/nestwire/nestwire/codec/EncodingWalker", "next", "()Lcom/example/nestwire/nestwire/codec/RlpWalker$Step;"⟩ : MethodName)) (argsL := []) (rest := []) d15_6 (pc' := 9) rfl (c_nC1 l Z a0 hw n0 h (a := a) (hd := hd) (en := en) (eb := eb) (n := n) (p := p) (i0 := i0) (st0 := st0) (l0 := l0) (s0 := s0) (g0 := g0) (e0 := e0) (e1 := e1) (vs := vs) (b := (-64 : Int32)) (cS := cS) P1 P2 P3 P4 P5 P6 P7 P8 P9 P10 P11 P12 P15 P16 P17 P18 P19 P20 P21 P22 P23 P24 P25 P26 P27 P28 P29 hv (by omega) (by decide) (by have q0 : (-64 : Int32).toInt = -64 := rfl; have q1 : (-63 : Int32).toInt = -63 := rfl; have q2 : (-127 : Int32).toInt = -127 := rfl; omega)) P1 (hw _ (List.mem_of_getElem? (i := 36) rfl)) (hw _ (List.mem_of_getElem? (i := 37) rfl)) (nf_sel (hw _ (List.mem_of_getElem? (i := 39) rfl)) rfl) (hw _ (List.mem_of_getElem? (i := 39) rfl)) (hw _ (List.mem_of_getElem? (i := 38) rfl)) (hw _ (List.mem_of_getElem? (i := 4) rfl)) (hw _ (List.mem_of_getElem? (i := 40) rfl)) (by decide) pd_6 rfl rfl (W := 0) (by simp [Value.category]) (by decide) (by decide) (by decide) (by decide) (fun v_79 h_77 q_78 => ?_)
      obtain ⟨pex, eex, s1x, g1x, rfl, K_80, hpe_x, f_81, f_82, f_83, f_84, f_85, f_86, f_87, f_88, f_89, f_90, f_91, f_92, f_93⟩ := q_78
      have f_94 : Exa Z h_77 a "com/example/nestwire/nestwire/codec/EncodingWalker" := P1.keep K_80
      have f_95 : Exa Z h_77 hd "com/example/nestwire/nestwire/codec/Header" := P2.keep K_80
      have f_96 : Old Z n0 h_77 := P12.keep K_80 (allS P3 (allS P4 (allS P5 all0)))
      have f_110 : Ary Z h_77 eb .byte vs := P29.keep K_80 (ninS (Ne.symm P8) (ninS (Ne.symm P10) (ninS (Ne.symm P11) nin0)))
      have kp_111 : Keep h h_77 [a, hd, en] := (Keep.refl h [a, hd, en]).trans K_80 (allS (Or.inl (by simp)) (allS (Or.inl (by simp)) (allS (Or.inl (by simp)) all0)))
      show G h_77 0 0 (mkF m 9 #[.val (.ref a), .val (.int (2 : Int32)), .val (.int lt)] [(.ref cS)])
      refine K.pop d15_9 (pc' := 10) rfl rfl ?_
      refine K.aloadN d15_10 (pc' := 11) rfl rfl rfl ?_
      refine K.callv (z := (⟨"com/example/nestwire/nestwire/codec/EncodingWalker", "atListEnd", "()Z"⟩ : MethodName)) (argsL := []) (rest := []) d15_11 (pc' := 14) rfl (c_ale2 l Z a0 hw n0 h_77 (a := a) (en := en) (p := pex) (e0 := e0) (e1 := eex) f_94 f_86 f_85 f_82 f_93) f_94 (hw _ (List.mem_of_getElem? (i := 29) rfl)) (hw _ (List.mem_of_getElem? (i := 30) rfl)) (nf_sel (hw _ (List.mem_of_getElem? (i := 32) rfl)) rfl) (hw _ (List.mem_of_getElem? (i := 32) rfl)) (hw _ (List.mem_of_getElem? (i := 31) rfl)) (hw _ (List.mem_of_getElem? (i := 4) rfl)) (hw _ (List.mem_of_getElem? (i := 33) rfl)) (by decide) pd_3 rfl rfl (W := 0) (by simp [Value.category]) (by decide) (by decide) (by decide) (by decide) (fun v_114 h_112 q_113 => ?_)
      obtain ⟨rfl, rfl⟩ := q_113
      show G h_77 0 0 (mkF m 14 #[.val (.ref a), .val (.int (2 : Int32)), .val (.int lt)] [(.int (b2 (pex.toInt = eex.toInt)))])
      refine K.ifneB d15_14 (pc1 := 17) rfl (by decide) (pc2 := 52) (by decide) (fun c14 => ?_) (fun c14 => ?_)
      · refine K.aloadN d15_52 (pc' := 53) rfl rfl rfl ?_
        refine K.callv (z := (⟨"com/example/nestwire/nestwire/codec/EncodingWalker", "next", "()Lcom/example/nestwire/nestwire/codec/RlpWalker$Step;"⟩ : MethodName)) (argsL := []) (rest := []) d15_53 (pc' := 56) rfl (c_nA2 l Z a0 hw n0 h_77 (a := a) (hd := hd) (en := en) (eb := eb) (n := n) (p := pex) (i0 := p) (st0 := (1 : Int32)) (e0 := e0) (e1 := eex) (vs := vs) (cE := cE) f_94 f_95 P3 P4 P5 P6 P7 P8 P9 P10 P11 f_96 P13 f_81 f_82 f_83 f_84 f_85 f_86 f_87 f_88 f_89 f_93 f_110 (by have q0 : (-64 : Int32).toInt = -64 := rfl; have q1 : (-63 : Int32).toInt = -63 := rfl; have q2 : (-127 : Int32).toInt = -127 := rfl; omega)) f_94 (hw _ (List.mem_of_getElem? (i := 36) rfl)) (hw _ (List.mem_of_getElem? (i := 37) rfl)) (nf_sel (hw _ (List.mem_of_getElem? (i := 39) rfl)) rfl) (hw _ (List.mem_of_getElem? (i := 39) rfl)) (hw _ (List.mem_of_getElem? (i := 38) rfl)) (hw _ (List.mem_of_getElem? (i := 4) rfl)) (hw _ (List.mem_of_getElem? (i := 40) rfl)) (by decide) pd_6 rfl rfl (W := 0) (by simp [Value.category]) (by decide) (by decide) (by decide) (by decide) (fun v_118 h_116 q_117 => ?_)
        obtain ⟨rfl, K_119, f_120, f_121, f_122, f_123, f_124, f_125, f_126, f_127, f_128⟩ := q_117
        have f_129 : Exa Z h_116 a "com/example/nestwire/nestwire/codec/EncodingWalker" := f_94.keep K_119
        have f_130 : Exa Z h_116 hd "com/example/nestwire/nestwire/codec/Header" := f_95.keep K_119
        have f_131 : Old Z n0 h_116 := f_96.keep K_119 (allS P3 all0)
        have f_132 : Ary Z h_116 eb .byte vs := f_110.keep K_119 (ninS (Ne.symm P8) nin0)
        have f_142 : Fld Z h_116 hd "com/example/nestwire/nestwire/codec/Header" "isList" "Z" (.int (1 : Int32)) := f_90.keep K_119 (ninS (Ne.symm P6) nin0)
        have f_143 : Fld Z h_116 hd "com/example/nestwire/nestwire/codec/Header" "payloadStart" "I" (.int s1x) := f_91.keep K_119 (ninS (Ne.symm P6) nin0)
        have f_144 : Fld Z h_116 hd "com/example/nestwire/nestwire/codec/Header" "payloadLength" "I" (.int g1x) := f_92.keep K_119 (ninS (Ne.symm P6) nin0)
        have f_145 : Ary Z h_116 en .int [(.int e0), (.int eex), (.int (0 : Int32)), (.int (0 : Int32)), (.int (0 : Int32)), (.int (0 : Int32)), (.int (0 : Int32)), (.int (0 : Int32)), (.int (0 : Int32)), (.int (0 : Int32)), (.int (0 : Int32)), (.int (0 : Int32)), (.int (0 : Int32)), (.int (0 : Int32)), (.int (0 : Int32)), (.int (0 : Int32))] := f_93.keep K_119 (ninS (Ne.symm P7) nin0)
        have kp_146 : Keep h h_116 [a, hd, en] := kp_111.trans K_119 (allS (Or.inl (by simp)) all0)
        show G h_116 0 0 (mkF m 56 #[.val (.ref a), .val (.int (2 : Int32)), .val (.int lt)] [(.ref cE)])
        refine K.pop d15_56 (pc' := 57) rfl rfl ?_
        refine K.aloadN d15_57 (pc' := 58) rfl rfl rfl ?_
        refine K.callv (z := (⟨"com/example/nestwire/nestwire/codec/EncodingWalker", "atListEnd", "()Z"⟩ : MethodName)) (argsL := []) (rest := []) d15_58 (pc' := 61) rfl (c_ale1 l Z a0 hw n0 h_116 (a := a) (en := en) (p := pex) (e0 := e0) (e1 := eex) f_129 f_125 f_124 f_121 f_145) f_129 (hw _ (List.mem_of_getElem? (i := 29) rfl)) (hw _ (List.mem_of_getElem? (i := 30) rfl)) (nf_sel (hw _ (List.mem_of_getElem? (i := 32) rfl)) rfl) (hw _ (List.mem_of_getElem? (i := 32) rfl)) (hw _ (List.mem_of_getElem? (i := 31) rfl)) (hw _ (List.mem_of_getElem? (i := 4) rfl)) (hw _ (List.mem_of_getElem? (i := 33) rfl)) (by decide) pd_3 rfl rfl (W := 0) (by simp [Value.category]) (by decide) (by decide) (by decide) (by decide) (fun v_149 h_147 q_148 => ?_)
        obtain ⟨rfl, rfl⟩ := q_148
        show G h_116 0 0 (mkF m 61 #[.val (.ref a), .val (.int (2 : Int32)), .val (.int lt)] [(.int (b2 (pex.toInt = e0.toInt)))])
        refine K.iloadN d15_61 (pc' := 62) rfl rfl ?_
        refine K.icmp_ne d15_62 (pc1 := 65) rfl (by decide) (pc2 := 69) (by decide) (a := (b2 (pex.toInt = e0.toInt)).toInt) (b := lt.toInt) rfl rfl (fun c62 => ?_) (fun c62 => ?_)
        · refine K.iconst d15_69 (pc' := 70) rfl (z := 0) rfl ?_
          exact K.retz d15_70 (Or.inl rfl) (by decide) (by decide) ⟨pex, p, (1 : Int32), s1x, g1x, eex, by rw [b2_f (by have q0 : (-64 : Int32).toInt = -64 := rfl; have q1 : (-63 : Int32).toInt = -63 := rfl; rw [b2_int] at c62; split at c62 <;> omega)], kp_146, by have q0 : (-64 : Int32).toInt = -64 := rfl; have q1 : (-63 : Int32).toInt = -63 := rfl; have q2 : (-127 : Int32).toInt = -127 := rfl; omega, f_120, f_121, f_122, f_123, f_124, f_125, f_126, f_127, f_128, f_142, f_143, f_144, f_145⟩
        · refine K.iconst d15_65 (pc' := 66) rfl (z := 1) rfl ?_
          refine K.goto d15_66 (by decide) (pc' := 70) (by decide) ?_
          exact K.retz d15_70 (Or.inr rfl) (by decide) (by decide) ⟨pex, p, (1 : Int32), s1x, g1x, eex, by rw [b2_t (by have q0 : (-64 : Int32).toInt = -64 := rfl; have q1 : (-63 : Int32).toInt = -63 := rfl; rw [b2_int] at c62; split at c62 <;> omega)], kp_146, by have q0 : (-64 : Int32).toInt = -64 := rfl; have q1 : (-63 : Int32).toInt = -63 := rfl; have q2 : (-127 : Int32).toInt = -127 := rfl; omega, f_120, f_121, f_122, f_123, f_124, f_125, f_126, f_127, f_128, f_142, f_143, f_144, f_145⟩
      · exfalso; have q0 : (-64 : Int32).toInt = -64 := rfl; have q1 : (-63 : Int32).toInt = -63 := rfl; have q2 : (-127 : Int32).toInt = -127 := rfl; omega
  · obtain rfl : kd = 3 := eqI hk
    refine K.iloadN d15_0 (pc' := 1) rfl rfl ?_
    refine K.iconst d15_1 (pc' := 2) rfl (z := 2) rfl ?_
    refine K.icmp_ne d15_2 (pc1 := 5) rfl (by decide) (pc2 := 19) (by decide) (a := 3) (b := 2) rfl rfl (fun c2 => ?_) (fun c2 => ?_)
    · refine K.iloadN d15_19 (pc' := 20) rfl rfl ?_
      refine K.iconst d15_20 (pc' := 21) rfl (z := 3) rfl ?_
      refine K.icmp_ne d15_21 (pc1 := 24) rfl (by decide) (pc2 := 52) (by decide) (a := 3) (b := 3) rfl rfl (fun c21 => ?_) (fun c21 => ?_)
      · exfalso; omega
      · refine K.aloadN d15_24 (pc' := 25) rfl rfl rfl ?_
        refine K.callv (z := (⟨"com/example/nestwire/nestwire/codec/EncodingWalker", "next", "()Lcom/example/nestwire/nestwire/codec/RlpWalker$Step;"⟩ : MethodName)) (argsL := []) (rest := []) d15_25 (pc' := 28) rfl (c_nC1 l Z a0 hw n0 h (a := a) (hd := hd) (en := en) (eb := eb) (n := n) (p := p) (i0 := i0) (st0 := st0) (l0 := l0) (s0 := s0) (g0 := g0) (e0 := e0) (e1 := e1) (vs := vs) (b := (-63 : Int32)) (cS := cS) P1 P2 P3 P4 P5 P6 P7 P8 P9 P10 P11 P12 P15 P16 P17 P18 P19 P20 P21 P22 P23 P24 P25 P26 P27 P28 P29 hv (by omega) (by decide) (by have q0 : (-64 : Int32).toInt = -64 := rfl; have q1 : (-63 : Int32).toInt = -63 := rfl; have q2 : (-127 : Int32).toInt = -127 := rfl; omega)) P1 (hw _ (List.mem_of_getElem? (i := 36) rfl)) (hw _ (List.mem_of_getElem? (i := 37) rfl)) (nf_sel (hw _ (List.mem_of_getElem? (i := 39) rfl)) rfl) (hw _ (List.mem_of_getElem? (i := 39) rfl)) (hw _ (List.mem_of_getElem? (i := 38) rfl)) (hw _ (List.mem_of_getElem? (i := 4) rfl)) (hw _ (List.mem_of_getElem? (i := 40) rfl)) (by decide) pd_6 rfl rfl (W := 0) (by simp [Value.category]) (by decide) (by decide) (by decide) (by decide) (fun v_153 h_151 q_152 => ?_)
        obtain ⟨pex, eex, s1x, g1x, rfl, K_154, hpe_x, f_155, f_156, f_157, f_158, f_159, f_160, f_161, f_162, f_163, f_164, f_165, f_166, f_167⟩ := q_152
        have f_168 : Exa Z h_151 a "com/example/nestwire/nestwire/codec/EncodingWalker" := P1.keep K_154
        have f_169 : Exa Z h_151 hd "com/example/nestwire/nestwire/codec/Header" := P2.keep K_154
        have f_170 : Old Z n0 h_151 := P12.keep K_154 (allS P3 (allS P4 (allS P5 all0)))
        have f_184 : Ary Z h_151 eb .byte vs := P29.keep K_154 (ninS (Ne.symm P8) (ninS (Ne.symm P10) (ninS (Ne.symm P11) nin0)))
        have kp_185 : Keep h h_151 [a, hd, en] := (Keep.refl h [a, hd, en]).trans K_154 (allS (Or.inl (by simp)) (allS (Or.inl (by simp)) (allS (Or.inl (by simp)) all0)))
        show G h_151 0 0 (mkF m 28 #[.val (.ref a), .val (.int (3 : Int32)), .val (.int lt)] [(.ref cS)])
        refine K.pop d15_28 (pc' := 29) rfl rfl ?_
        refine K.aloadN d15_29 (pc' := 30) rfl rfl rfl ?_
        refine K.callv (z := (⟨"com/example/nestwire/nestwire/codec/EncodingWalker", "atListEnd", "()Z"⟩ : MethodName)) (argsL := []) (rest := []) d15_30 (pc' := 33) rfl (c_ale2 l Z a0 hw n0 h_151 (a := a) (en := en) (p := pex) (e0 := e0) (e1 := eex) f_168 f_160 f_159 f_156 f_167) f_168 (hw _ (List.mem_of_getElem? (i := 29) rfl)) (hw _ (List.mem_of_getElem? (i := 30) rfl)) (nf_sel (hw _ (List.mem_of_getElem? (i := 32) rfl)) rfl) (hw _ (List.mem_of_getElem? (i := 32) rfl)) (hw _ (List.mem_of_getElem? (i := 31) rfl)) (hw _ (List.mem_of_getElem? (i := 4) rfl)) (hw _ (List.mem_of_getElem? (i := 33) rfl)) (by decide) pd_3 rfl rfl (W := 0) (by simp [Value.category]) (by decide) (by decide) (by decide) (by decide) (fun v_188 h_186 q_187 => ?_)
        obtain ⟨rfl, rfl⟩ := q_187
        show G h_151 0 0 (mkF m 33 #[.val (.ref a), .val (.int (3 : Int32)), .val (.int lt)] [(.int (b2 (pex.toInt = eex.toInt)))])
        refine K.ifeqB d15_33 (pc1 := 36) rfl (by decide) (pc2 := 38) (by decide) (fun c33 => ?_) (fun c33 => ?_)
        · refine K.aloadN d15_38 (pc' := 39) rfl rfl rfl ?_
          refine K.callv (z := (⟨"com/example/nestwire/nestwire/codec/EncodingWalker", "next", "()Lcom/example/nestwire/nestwire/codec/RlpWalker$Step;"⟩ : MethodName)) (argsL := []) (rest := []) d15_39 (pc' := 42) rfl (c_nB20 l Z a0 hw n0 h_151 (a := a) (hd := hd) (en := en) (eb := eb) (n := n) (p := pex) (i0 := p) (st0 := (1 : Int32)) (l0 := (1 : Int32)) (s0 := s1x) (g0 := g1x) (e0 := e0) (e1 := eex) (vs := vs) (b := b1) (cB := cB) f_168 f_169 P3 P4 P5 P6 P7 P8 P9 P10 P11 f_170 P14 f_155 f_156 f_157 f_158 f_159 f_160 f_161 f_162 f_163 f_164 f_165 f_166 f_167 f_184 (by rw [show pex.toInt.toNat = p.toInt.toNat + 1 from by omega]; exact hv1) (by have q0 : (-64 : Int32).toInt = -64 := rfl; have q1 : (-63 : Int32).toInt = -63 := rfl; have q2 : (-127 : Int32).toInt = -127 := rfl; omega) hb1 (by have q0 : (-64 : Int32).toInt = -64 := rfl; have q1 : (-63 : Int32).toInt = -63 := rfl; have q2 : (-127 : Int32).toInt = -127 := rfl; omega)) f_168 (hw _ (List.mem_of_getElem? (i := 36) rfl)) (hw _ (List.mem_of_getElem? (i := 37) rfl)) (nf_sel (hw _ (List.mem_of_getElem? (i := 39) rfl)) rfl) (hw _ (List.mem_of_getElem? (i := 39) rfl)) (hw _ (List.mem_of_getElem? (i := 38) rfl)) (hw _ (List.mem_of_getElem? (i := 4) rfl)) (hw _ (List.mem_of_getElem? (i := 40) rfl)) (by decide) pd_6 rfl rfl (W := 0) (by simp [Value.category]) (by decide) (by decide) (by decide) (by decide) (fun v_192 h_190 q_191 => ?_)
          obtain ⟨pey, l1y, s1y, g1y, rfl, K_193, hpe_y, f_194, f_195, f_196, f_197, f_198, f_199, f_200, f_201, f_202, f_203, f_204, f_205⟩ := q_191
          have f_206 : Exa Z h_190 a "com/example/nestwire/nestwire/codec/EncodingWalker" := f_168.keep K_193
          have f_207 : Exa Z h_190 hd "com/example/nestwire/nestwire/codec/Header" := f_169.keep K_193
          have f_208 : Old Z n0 h_190 := f_170.keep K_193 (allS P3 (allS P4 all0))
          have f_209 : Ary Z h_190 eb .byte vs := f_184.keep K_193 (ninS (Ne.symm P8) (ninS (Ne.symm P10) nin0))
          have f_222 : Ary Z h_190 en .int [(.int e0), (.int eex), (.int (0 : Int32)), (.int (0 : Int32)), (.int (0 : Int32)), (.int (0 : Int32)), (.int (0 : Int32)), (.int (0 : Int32)), (.int (0 : Int32)), (.int (0 : Int32)), (.int (0 : Int32)), (.int (0 : Int32)), (.int (0 : Int32)), (.int (0 : Int32)), (.int (0 : Int32)), (.int (0 : Int32))] := f_167.keep K_193 (ninS (Ne.symm P7) (ninS (Ne.symm P9) nin0))
          have kp_223 : Keep h h_190 [a, hd, en] := kp_185.trans K_193 (allS (Or.inl (by simp)) (allS (Or.inl (by simp)) all0))
          show G h_190 0 0 (mkF m 42 #[.val (.ref a), .val (.int (3 : Int32)), .val (.int lt)] [(.ref cB)])
          refine K.pop d15_42 (pc' := 43) rfl rfl ?_
          refine K.aloadN d15_43 (pc' := 44) rfl rfl rfl ?_
          refine K.callv (z := (⟨"com/example/nestwire/nestwire/codec/EncodingWalker", "atListEnd", "()Z"⟩ : MethodName)) (argsL := []) (rest := []) d15_44 (pc' := 47) rfl (c_ale2 l Z a0 hw n0 h_190 (a := a) (en := en) (p := pey) (e0 := e0) (e1 := eex) f_206 f_199 f_198 f_195 f_222) f_206 (hw _ (List.mem_of_getElem? (i := 29) rfl)) (hw _ (List.mem_of_getElem? (i := 30) rfl)) (nf_sel (hw _ (List.mem_of_getElem? (i := 32) rfl)) rfl) (hw _ (List.mem_of_getElem? (i := 32) rfl)) (hw _ (List.mem_of_getElem? (i := 31) rfl)) (hw _ (List.mem_of_getElem? (i := 4) rfl)) (hw _ (List.mem_of_getElem? (i := 33) rfl)) (by decide) pd_3 rfl rfl (W := 0) (by simp [Value.category]) (by decide) (by decide) (by decide) (by decide) (fun v_226 h_224 q_225 => ?_)
          obtain ⟨rfl, rfl⟩ := q_225
          show G h_190 0 0 (mkF m 47 #[.val (.ref a), .val (.int (3 : Int32)), .val (.int lt)] [(.int (b2 (pey.toInt = eex.toInt)))])
          refine K.ifneB d15_47 (pc1 := 50) rfl (by decide) (pc2 := 52) (by decide) (fun c47 => ?_) (fun c47 => ?_)
          · refine K.aloadN d15_52 (pc' := 53) rfl rfl rfl ?_
            refine K.callv (z := (⟨"com/example/nestwire/nestwire/codec/EncodingWalker", "next", "()Lcom/example/nestwire/nestwire/codec/RlpWalker$Step;"⟩ : MethodName)) (argsL := []) (rest := []) d15_53 (pc' := 56) rfl (c_nA2 l Z a0 hw n0 h_190 (a := a) (hd := hd) (en := en) (eb := eb) (n := n) (p := pey) (i0 := pex) (st0 := (1 : Int32)) (e0 := e0) (e1 := eex) (vs := vs) (cE := cE) f_206 f_207 P3 P4 P5 P6 P7 P8 P9 P10 P11 f_208 P13 f_194 f_195 f_196 f_197 f_198 f_199 f_200 f_201 f_202 f_222 f_209 (by have q0 : (-64 : Int32).toInt = -64 := rfl; have q1 : (-63 : Int32).toInt = -63 := rfl; have q2 : (-127 : Int32).toInt = -127 := rfl; omega)) f_206 (hw _ (List.mem_of_getElem? (i := 36) rfl)) (hw _ (List.mem_of_getElem? (i := 37) rfl)) (nf_sel (hw _ (List.mem_of_getElem? (i := 39) rfl)) rfl) (hw _ (List.mem_of_getElem? (i := 39) rfl)) (hw _ (List.mem_of_getElem? (i := 38) rfl)) (hw _ (List.mem_of_getElem? (i := 4) rfl)) (hw _ (List.mem_of_getElem? (i := 40) rfl)) (by decide) pd_6 rfl rfl (W := 0) (by simp [Value.category]) (by decide) (by decide) (by decide) (by decide) (fun v_230 h_228 q_229 => ?_)
            obtain ⟨rfl, K_231, f_232, f_233, f_234, f_235, f_236, f_237, f_238, f_239, f_240⟩ := q_229
            have f_241 : Exa Z h_228 a "com/example/nestwire/nestwire/codec/EncodingWalker" := f_206.keep K_231
            have f_242 : Exa Z h_228 hd "com/example/nestwire/nestwire/codec/Header" := f_207.keep K_231
            have f_243 : Old Z n0 h_228 := f_208.keep K_231 (allS P3 all0)
            have f_244 : Ary Z h_228 eb .byte vs := f_209.keep K_231 (ninS (Ne.symm P8) nin0)
            have f_245 : Ary Z h_228 en .int [(.int e0), (.int eex), (.int (0 : Int32)), (.int (0 : Int32)), (.int (0 : Int32)), (.int (0 : Int32)), (.int (0 : Int32)), (.int (0 : Int32)), (.int (0 : Int32)), (.int (0 : Int32)), (.int (0 : Int32)), (.int (0 : Int32)), (.int (0 : Int32)), (.int (0 : Int32)), (.int (0 : Int32)), (.int (0 : Int32))] := f_222.keep K_231 (ninS (Ne.symm P7) nin0)
            have f_255 : Fld Z h_228 hd "com/example/nestwire/nestwire/codec/Header" "isList" "Z" (.int l1y) := f_203.keep K_231 (ninS (Ne.symm P6) nin0)
            have f_256 : Fld Z h_228 hd "com/example/nestwire/nestwire/codec/Header" "payloadStart" "I" (.int s1y) := f_204.keep K_231 (ninS (Ne.symm P6) nin0)
            have f_257 : Fld Z h_228 hd "com/example/nestwire/nestwire/codec/Header" "payloadLength" "I" (.int g1y) := f_205.keep K_231 (ninS (Ne.symm P6) nin0)
            have kp_258 : Keep h h_228 [a, hd, en] := kp_223.trans K_231 (allS (Or.inl (by simp)) all0)
            show G h_228 0 0 (mkF m 56 #[.val (.ref a), .val (.int (3 : Int32)), .val (.int lt)] [(.ref cE)])
            refine K.pop d15_56 (pc' := 57) rfl rfl ?_
            refine K.aloadN d15_57 (pc' := 58) rfl rfl rfl ?_
            refine K.callv (z := (⟨"com/example/nestwire/nestwire/codec/EncodingWalker", "atListEnd", "()Z"⟩ : MethodName)) (argsL := []) (rest := []) d15_58 (pc' := 61) rfl (c_ale1 l Z a0 hw n0 h_228 (a := a) (en := en) (p := pey) (e0 := e0) (e1 := eex) f_241 f_237 f_236 f_233 f_245) f_241 (hw _ (List.mem_of_getElem? (i := 29) rfl)) (hw _ (List.mem_of_getElem? (i := 30) rfl)) (nf_sel (hw _ (List.mem_of_getElem? (i := 32) rfl)) rfl) (hw _ (List.mem_of_getElem? (i := 32) rfl)) (hw _ (List.mem_of_getElem? (i := 31) rfl)) (hw _ (List.mem_of_getElem? (i := 4) rfl)) (hw _ (List.mem_of_getElem? (i := 33) rfl)) (by decide) pd_3 rfl rfl (W := 0) (by simp [Value.category]) (by decide) (by decide) (by decide) (by decide) (fun v_261 h_259 q_260 => ?_)
            obtain ⟨rfl, rfl⟩ := q_260
            show G h_228 0 0 (mkF m 61 #[.val (.ref a), .val (.int (3 : Int32)), .val (.int lt)] [(.int (b2 (pey.toInt = e0.toInt)))])
            refine K.iloadN d15_61 (pc' := 62) rfl rfl ?_
            refine K.icmp_ne d15_62 (pc1 := 65) rfl (by decide) (pc2 := 69) (by decide) (a := (b2 (pey.toInt = e0.toInt)).toInt) (b := lt.toInt) rfl rfl (fun c62 => ?_) (fun c62 => ?_)
            · refine K.iconst d15_69 (pc' := 70) rfl (z := 0) rfl ?_
              exact K.retz d15_70 (Or.inl rfl) (by decide) (by decide) ⟨pey, pex, l1y, s1y, g1y, eex, by rw [b2_f (by have q0 : (-64 : Int32).toInt = -64 := rfl; have q1 : (-63 : Int32).toInt = -63 := rfl; rw [b2_int] at c62; split at c62 <;> omega)], kp_258, by have q0 : (-64 : Int32).toInt = -64 := rfl; have q1 : (-63 : Int32).toInt = -63 := rfl; have q2 : (-127 : Int32).toInt = -127 := rfl; omega, f_232, f_233, f_234, f_235, f_236, f_237, f_238, f_239, f_240, f_255, f_256, f_257, f_245⟩
            · refine K.iconst d15_65 (pc' := 66) rfl (z := 1) rfl ?_
              refine K.goto d15_66 (by decide) (pc' := 70) (by decide) ?_
              exact K.retz d15_70 (Or.inr rfl) (by decide) (by decide) ⟨pey, pex, l1y, s1y, g1y, eex, by rw [b2_t (by have q0 : (-64 : Int32).toInt = -64 := rfl; have q1 : (-63 : Int32).toInt = -63 := rfl; rw [b2_int] at c62; split at c62 <;> omega)], kp_258, by have q0 : (-64 : Int32).toInt = -64 := rfl; have q1 : (-63 : Int32).toInt = -63 := rfl; have q2 : (-127 : Int32).toInt = -127 := rfl; omega, f_232, f_233, f_234, f_235, f_236, f_237, f_238, f_239, f_240, f_255, f_256, f_257, f_245⟩
          · exfalso; have q0 : (-64 : Int32).toInt = -64 := rfl; have q1 : (-63 : Int32).toInt = -63 := rfl; have q2 : (-127 : Int32).toInt = -127 := rfl; omega
        · exfalso; have q0 : (-64 : Int32).toInt = -64 := rfl; have q1 : (-63 : Int32).toInt = -63 := rfl; have q2 : (-127 : Int32).toInt = -127 := rfl; omega
    · exfalso; omega
theorem d1_0 : decode prog_9_method_2_code 0 = .ok (.aload_n 0, 1) := by decide +kernel
theorem d1_1 : decode prog_9_method_2_code 1 = .ok (.invokespecial 7, 3) := by decide +kernel
theorem d1_4 : decode prog_9_method_2_code 4 = .ok (.aload_n 0, 1) := by decide +kernel
theorem d1_5 : decode prog_9_method_2_code 5 = .ok (.new 12, 3) := by decide +kernel
theorem d1_8 : decode prog_9_method_2_code 8 = .ok (.dup, 1) := by decide +kernel
theorem d1_9 : decode prog_9_method_2_code 9 = .ok (.invokespecial 14, 3) := by decide +kernel
theorem d1_12 : decode prog_9_method_2_code 12 = .ok (.putfield 15, 3) := by decide +kernel
theorem d1_15 : decode prog_9_method_2_code 15 = .ok (.aload_n 0, 1) := by decide +kernel
theorem d1_16 : decode prog_9_method_2_code 16 = .ok (.bipush 16, 2) := by decide +kernel
theorem d1_18 : decode prog_9_method_2_code 18 = .ok (.newarray .int, 2) := by decide +kernel
theorem d1_20 : decode prog_9_method_2_code 20 = .ok (.putfield 19, 3) := by decide +kernel
theorem d1_23 : decode prog_9_method_2_code 23 = .ok (.aload_n 0, 1) := by decide +kernel
theorem d1_24 : decode prog_9_method_2_code 24 = .ok (.aload_n 1, 1) := by decide +kernel
theorem d1_25 : decode prog_9_method_2_code 25 = .ok (.putfield 23, 3) := by decide +kernel
theorem d1_28 : decode prog_9_method_2_code 28 = .ok (.aload_n 0, 1) := by decide +kernel
theorem d1_29 : decode prog_9_method_2_code 29 = .ok (.iload_n 3, 1) := by decide +kernel
theorem d1_30 : decode prog_9_method_2_code 30 = .ok (.putfield 27, 3) := by decide +kernel
theorem d1_33 : decode prog_9_method_2_code 33 = .ok (.aload_n 0, 1) := by decide +kernel
theorem d1_34 : decode prog_9_method_2_code 34 = .ok (.iload_n 2, 1) := by decide +kernel
theorem d1_35 : decode prog_9_method_2_code 35 = .ok (.putfield 31, 3) := by decide +kernel
theorem d1_38 : decode prog_9_method_2_code 38 = .ok (.return_, 1) := by decide +kernel
set_option maxRecDepth 65536 in
set_option maxHeartbeats 40000000 in
theorem c_new (l : Launch) (Z : State) (a0 : Array Value) (hw : ∀ d ∈ tables_1, d.before a0 Z = true) (n0 : Nat) (h : Heap) (a : Addr) (eb : Addr) (p : Int32) (n : Int32) (vs : List Value) (P1 : Exa Z h a "com/example/nestwire/nestwire/codec/EncodingWalker") (Z0 : n0 ≤ h.size) (P3 : n0 ≤ a) (P4 : a ≠ eb) (P5 : Ary Z h eb .byte vs) (P6 : Fld Z h a "com/example/nestwire/nestwire/codec/EncodingWalker" "header" "Lcom/example/nestwire/nestwire/codec/Header;" .null) (P7 : Fld Z h a "com/example/nestwire/nestwire/codec/EncodingWalker" "ends" "[I" .null) (P8 : Fld Z h a "com/example/nestwire/nestwire/codec/EncodingWalker" "encoding" "[B" .null) (P9 : Fld Z h a "com/example/nestwire/nestwire/codec/EncodingWalker" "end" "I" (.int (0 : Int32))) (P10 : Fld Z h a "com/example/nestwire/nestwire/codec/EncodingWalker" "position" "I" (.int (0 : Int32))) (P11 : Fld Z h a "com/example/nestwire/nestwire/codec/EncodingWalker" "depth" "I" (.int (0 : Int32))) (P12 : Fld Z h a "com/example/nestwire/nestwire/codec/EncodingWalker" "started" "Z" (.int (0 : Int32))) (P13 : Fld Z h a "com/example/nestwire/nestwire/codec/EncodingWalker" "peeked" "Z" (.int (0 : Int32))) (P14 : Fld Z h a "com/example/nestwire/nestwire/codec/EncodingWalker" "itemStart" "I" (.int (0 : Int32))) : MeetsW l Z n0 (⟨"com/example/nestwire/nestwire/codec/EncodingWalker", "<init>", "([BII)V"⟩ : MethodName) prog_9_method_2_code 4 none ({ frames := 2, cells := 2, slots := 19, locals := 26 } : Room) #[(.ref a), (.ref eb), (.int p), (.int n)] h (fun v h' => ∃ (hd : Addr) (en : Addr), v = none ∧ Keep h h' [a] ∧ h.size ≤ hd ∧ h.size ≤ en ∧ Exa Z h' hd "com/example/nestwire/nestwire/codec/Header" ∧ n0 ≤ hd ∧ n0 ≤ en ∧ hd ≠ en ∧ Fld Z h' a "com/example/nestwire/nestwire/codec/EncodingWalker" "header" "Lcom/example/nestwire/nestwire/codec/Header;" (.ref hd) ∧ Fld Z h' a "com/example/nestwire/nestwire/codec/EncodingWalker" "ends" "[I" (.ref en) ∧ Fld Z h' a "com/example/nestwire/nestwire/codec/EncodingWalker" "encoding" "[B" (.ref eb) ∧ Fld Z h' a "com/example/nestwire/nestwire/codec/EncodingWalker" "end" "I" (.int n) ∧ Fld Z h' a "com/example/nestwire/nestwire/codec/EncodingWalker" "position" "I" (.int p) ∧ Fld Z h' a "com/example/nestwire/nestwire/codec/EncodingWalker" "depth" "I" (.int (0 : Int32)) ∧ Fld Z h' a "com/example/nestwire/nestwire/codec/EncodingWalker" "started" "Z" (.int (0 : Int32)) ∧ Fld Z h' a "com/example/nestwire/nestwire/codec/EncodingWalker" "peeked" "Z" (.int (0 : Int32)) ∧ Fld Z h' a "com/example/nestwire/nestwire/codec/EncodingWalker" "itemStart" "I" (.int (0 : Int32)) ∧ Fld Z h' hd "com/example/nestwire/nestwire/codec/Header" "isList" "Z" (.int (0 : Int32)) ∧ Fld Z h' hd "com/example/nestwire/nestwire/codec/Header" "payloadStart" "I" (.int (0 : Int32)) ∧ Fld Z h' hd "com/example/nestwire/nestwire/codec/Header" "payloadLength" "I" (.int (0 : Int32)) ∧ Ary Z h' en .int [(.int (0 : Int32)), (.int (0 : Int32)), (.int (0 : Int32)), (.int (0 : Int32)), (.int (0 : Int32)), (.int (0 : Int32)), (.int (0 : Int32)), (.int (0 : Int32)), (.int (0 : Int32)), (.int (0 : Int32)), (.int (0 : Int32)), (.int (0 : Int32)), (.int (0 : Int32)), (.int (0 : Int32)), (.int (0 : Int32)), (.int (0 : Int32))]) := by
  refine MeetsW.intro (plainFor_of_name pn_com_example_nestwire_nestwire_codec_EncodingWalker) (L0 := #[.val (.ref a), .val (.ref eb), .val (.int p), .val (.int n)]) (fun m => by first | (simp [entryFrame, mkF, argsToLocals, Value.category]; done) | rfl) ?_
  intro m G K0
  have K : Cx l ({ frames := 2, cells := 2, slots := 19, locals := 26 } : Room) Z n0 _ "com/example/nestwire/nestwire/codec/EncodingWalker" "<init>" prog_9_method_2_code 4 none m G := K0
  refine K.aloadN d1_0 (pc' := 1) rfl rfl rfl ?_
  refine K.init0 d1_1 (pc' := 4) rfl (hw _ (List.mem_of_getElem? (i := 8) rfl)) (hw _ (List.mem_of_getElem? (i := 9) rfl)) (hw _ (List.mem_of_getElem? (i := 10) rfl)) rfl (by decide) (W := 0) (by simp [Value.category]) (by decide) ?_
  refine K.aloadN d1_4 (pc' := 5) rfl rfl rfl ?_
  refine K.newo d1_5 (pc' := 8) rfl (hw _ (List.mem_of_getElem? (i := 11) rfl)) (hw _ (List.mem_of_getElem? (i := 12) rfl)) (hw _ (List.mem_of_getElem? (i := 13) rfl)) (by decide) (by decide) (fun h_2 o_1 g_o_1 E_3 x_o_1 D_o_1 => ?_)
  have ne_a_o_1 : a ≠ o_1 := Nat.ne_of_lt (g_o_1 ▸ P1.lt)
  have ne_eb_o_1 : eb ≠ o_1 := Nat.ne_of_lt (g_o_1 ▸ P5.lt)
  have ge_o_1 : n0 ≤ o_1 := g_o_1 ▸ Z0
  have sb_o_1 : h.size ≤ o_1 := g_o_1 ▸ (Keep.refl h [a]).1
  have f_4 : Exa Z h_2 a "com/example/nestwire/nestwire/codec/EncodingWalker" := P1.ext E_3
  have f_5 : Ary Z h_2 eb .byte vs := P5.ext E_3
  have f_6 : Fld Z h_2 a "com/example/nestwire/nestwire/codec/EncodingWalker" "header" "Lcom/example/nestwire/nestwire/codec/Header;" .null := P6.ext E_3
  have f_7 : Fld Z h_2 a "com/example/nestwire/nestwire/codec/EncodingWalker" "ends" "[I" .null := P7.ext E_3
  have f_8 : Fld Z h_2 a "com/example/nestwire/nestwire/codec/EncodingWalker" "encoding" "[B" .null := P8.ext E_3
  have f_9 : Fld Z h_2 a "com/example/nestwire/nestwire/codec/EncodingWalker" "end" "I" (.int (0 : Int32)) := P9.ext E_3
  have f_10 : Fld Z h_2 a "com/example/nestwire/nestwire/codec/EncodingWalker" "position" "I" (.int (0 : Int32)) := P10.ext E_3
  have f_11 : Fld Z h_2 a "com/example/nestwire/nestwire/codec/EncodingWalker" "depth" "I" (.int (0 : Int32)) := P11.ext E_3
  have f_12 : Fld Z h_2 a "com/example/nestwire/nestwire/codec/EncodingWalker" "started" "Z" (.int (0 : Int32)) := P12.ext E_3
  have f_13 : Fld Z h_2 a "com/example/nestwire/nestwire/codec/EncodingWalker" "peeked" "Z" (.int (0 : Int32)) := P13.ext E_3
  have f_14 : Fld Z h_2 a "com/example/nestwire/nestwire/codec/EncodingWalker" "itemStart" "I" (.int (0 : Int32)) := P14.ext E_3
  have kp_15 : Keep h h_2 [a] := (Keep.refl h [a]).ext E_3
  have sz_16 : n0 ≤ h_2.size := Nat.le_trans Z0 E_3.1
  have f_17 : Fld Z h_2 o_1 "com/example/nestwire/nestwire/codec/Header" "isList" "Z" (.int (0 : Int32)) := D_o_1 (Or.inl (hw _ (List.mem_of_getElem? (i := 61) rfl))) (ty := .boolean) (by decide)
  have f_18 : Fld Z h_2 o_1 "com/example/nestwire/nestwire/codec/Header" "payloadStart" "I" (.int (0 : Int32)) := D_o_1 (Or.inl (hw _ (List.mem_of_getElem? (i := 63) rfl))) (ty := .int) (by decide)
  have f_19 : Fld Z h_2 o_1 "com/example/nestwire/nestwire/codec/Header" "payloadLength" "I" (.int (0 : Int32)) := D_o_1 (Or.inl (hw _ (List.mem_of_getElem? (i := 73) rfl))) (ty := .int) (by decide)
  refine K.dup d1_8 (pc' := 9) rfl rfl ?_
  refine K.callc (argsL := []) (rest := [(.ref o_1), (.ref a)]) d1_9 (pc' := 12) rfl rfl (c_hd l Z a0 hw n0 h_2 (a := o_1) ) (hw _ (List.mem_of_getElem? (i := 14) rfl)) (hw _ (List.mem_of_getElem? (i := 15) rfl)) (hw _ (List.mem_of_getElem? (i := 13) rfl)) (hw _ (List.mem_of_getElem? (i := 16) rfl)) (by decide) pd_4 rfl rfl (W := 2) (by simp [Value.category]) (by decide) (by decide) (by decide) (by decide) (fun v_22 h_20 q_21 => ?_)
  obtain ⟨rfl, rfl⟩ := q_21
  show G h_2 1 3 (mkF m 12 #[.val (.ref a), .val (.ref eb), .val (.int p), .val (.int n)] [(.ref o_1), (.ref a)])
  refine K.putf d1_12 (pc' := 15) rfl (host := "") (Or.inl (hw _ (List.mem_of_getElem? (i := 18) rfl))) Via.refl f_6 f_4 (Or.inr ⟨(hw _ (List.mem_of_getElem? (i := 19) rfl)), rfl, rfl⟩) (hw _ (List.mem_of_getElem? (i := 3) rfl)) (ty := (.object "com/example/nestwire/nestwire/codec/Header")) (by decide) rfl rfl P3 (fun h_24 W_25 => ?_)
  have f_26 : Exa Z h_24 a "com/example/nestwire/nestwire/codec/EncodingWalker" := f_4.wr W_25
  have f_27 : Ary Z h_24 eb .byte vs := f_5.other W_25 (Ne.symm P4)
  have f_28 : Fld Z h_24 a "com/example/nestwire/nestwire/codec/EncodingWalker" "header" "Lcom/example/nestwire/nestwire/codec/Header;" (.ref o_1) := f_6.same W_25
  have f_29 : Fld Z h_24 a "com/example/nestwire/nestwire/codec/EncodingWalker" "ends" "[I" .null := f_7.other W_25 (Or.inr (slot_ne (Or.inl (hw _ (List.mem_of_getElem? (i := 22) rfl))) (Or.inr (hw _ (List.mem_of_getElem? (i := 19) rfl))) (by decide) (t := (.array .int)) (t' := (.object "com/example/nestwire/nestwire/codec/Header")) (by decide) (by decide)))
  have f_30 : Fld Z h_24 a "com/example/nestwire/nestwire/codec/EncodingWalker" "encoding" "[B" .null := f_8.other W_25 (Or.inr (slot_ne (Or.inr (hw _ (List.mem_of_getElem? (i := 24) rfl))) (Or.inr (hw _ (List.mem_of_getElem? (i := 19) rfl))) (by decide) (t := (.array .byte)) (t' := (.object "com/example/nestwire/nestwire/codec/Header")) (by decide) (by decide)))
  have f_31 : Fld Z h_24 a "com/example/nestwire/nestwire/codec/EncodingWalker" "end" "I" (.int (0 : Int32)) := f_9.other W_25 (Or.inr (slot_ne (Or.inr (hw _ (List.mem_of_getElem? (i := 26) rfl))) (Or.inr (hw _ (List.mem_of_getElem? (i := 19) rfl))) (by decide) (t := .int) (t' := (.object "com/example/nestwire/nestwire/codec/Header")) (by decide) (by decide)))
  have f_32 : Fld Z h_24 a "com/example/nestwire/nestwire/codec/EncodingWalker" "position" "I" (.int (0 : Int32)) := f_10.other W_25 (Or.inr (slot_ne (Or.inl (hw _ (List.mem_of_getElem? (i := 28) rfl))) (Or.inr (hw _ (List.mem_of_getElem? (i := 19) rfl))) (by decide) (t := .int) (t' := (.object "com/example/nestwire/nestwire/codec/Header")) (by decide) (by decide)))
  have f_33 : Fld Z h_24 a "com/example/nestwire/nestwire/codec/EncodingWalker" "depth" "I" (.int (0 : Int32)) := f_11.other W_25 (Or.inr (slot_ne (Or.inl (hw _ (List.mem_of_getElem? (i := 35) rfl))) (Or.inr (hw _ (List.mem_of_getElem? (i := 19) rfl))) (by decide) (t := .int) (t' := (.object "com/example/nestwire/nestwire/codec/Header")) (by decide) (by decide)))
  have f_34 : Fld Z h_24 a "com/example/nestwire/nestwire/codec/EncodingWalker" "started" "Z" (.int (0 : Int32)) := f_12.other W_25 (Or.inr (slot_ne (Or.inl (hw _ (List.mem_of_getElem? (i := 49) rfl))) (Or.inr (hw _ (List.mem_of_getElem? (i := 19) rfl))) (by decide) (t := .boolean) (t' := (.object "com/example/nestwire/nestwire/codec/Header")) (by decide) (by decide)))
  have f_35 : Fld Z h_24 a "com/example/nestwire/nestwire/codec/EncodingWalker" "peeked" "Z" (.int (0 : Int32)) := f_13.other W_25 (Or.inr (slot_ne (Or.inl (hw _ (List.mem_of_getElem? (i := 43) rfl))) (Or.inr (hw _ (List.mem_of_getElem? (i := 19) rfl))) (by decide) (t := .boolean) (t' := (.object "com/example/nestwire/nestwire/codec/Header")) (by decide) (by decide)))
  have f_36 : Fld Z h_24 a "com/example/nestwire/nestwire/codec/EncodingWalker" "itemStart" "I" (.int (0 : Int32)) := f_14.other W_25 (Or.inr (slot_ne (Or.inl (hw _ (List.mem_of_getElem? (i := 75) rfl))) (Or.inr (hw _ (List.mem_of_getElem? (i := 19) rfl))) (by decide) (t := .int) (t' := (.object "com/example/nestwire/nestwire/codec/Header")) (by decide) (by decide)))
  have f_37 : Exa Z h_24 o_1 "com/example/nestwire/nestwire/codec/Header" := x_o_1.wr W_25
  have f_38 : Fld Z h_24 o_1 "com/example/nestwire/nestwire/codec/Header" "isList" "Z" (.int (0 : Int32)) := f_17.other W_25 (Or.inl (Ne.symm ne_a_o_1))
  have f_39 : Fld Z h_24 o_1 "com/example/nestwire/nestwire/codec/Header" "payloadStart" "I" (.int (0 : Int32)) := f_18.other W_25 (Or.inl (Ne.symm ne_a_o_1))
  have f_40 : Fld Z h_24 o_1 "com/example/nestwire/nestwire/codec/Header" "payloadLength" "I" (.int (0 : Int32)) := f_19.other W_25 (Or.inl (Ne.symm ne_a_o_1))
  have kp_41 : Keep h h_24 [a] := kp_15.wr W_25 (Or.inl (by simp))
  have sz_42 : n0 ≤ h_24.size := Nat.le_trans sz_16 (Keep.of_wr W_25).1
  refine K.aloadN d1_15 (pc' := 16) rfl rfl rfl ?_
  refine K.bipush d1_16 (pc' := 18) rfl (z := 16) rfl ?_
  refine K.newa d1_18 (pc' := 20) rfl (hw _ (List.mem_of_getElem? (i := 20) rfl)) (k := 16) (cap := 16) rfl (by decide) (by decide) (by decide) (by decide) (ad := "[I") (by decide) (fun h_44 a_43 g_a_43 E_45 A_46 x_a_43 => ?_)
  have ne_a_a_43 : a ≠ a_43 := Nat.ne_of_lt (g_a_43 ▸ f_26.lt)
  have ne_eb_a_43 : eb ≠ a_43 := Nat.ne_of_lt (g_a_43 ▸ f_27.lt)
  have ne_o_1_a_43 : o_1 ≠ a_43 := Nat.ne_of_lt (g_a_43 ▸ f_37.lt)
  have ge_a_43 : n0 ≤ a_43 := g_a_43 ▸ sz_42
  have sb_a_43 : h.size ≤ a_43 := g_a_43 ▸ kp_41.1
  have f_47 : Exa Z h_44 a "com/example/nestwire/nestwire/codec/EncodingWalker" := f_26.ext E_45
  have f_48 : Ary Z h_44 eb .byte vs := f_27.ext E_45
  have f_49 : Fld Z h_44 a "com/example/nestwire/nestwire/codec/EncodingWalker" "header" "Lcom/example/nestwire/nestwire/codec/Header;" (.ref o_1) := f_28.ext E_45
  have f_50 : Fld Z h_44 a "com/example/nestwire/nestwire/codec/EncodingWalker" "ends" "[I" .null := f_29.ext E_45
  have f_51 : Fld Z h_44 a "com/example/nestwire/nestwire/codec/EncodingWalker" "encoding" "[B" .null := f_30.ext E_45
  have f_52 : Fld Z h_44 a "com/example/nestwire/nestwire/codec/EncodingWalker" "end" "I" (.int (0 : Int32)) := f_31.ext E_45
  have f_53 : Fld Z h_44 a "com/example/nestwire/nestwire/codec/EncodingWalker" "position" "I" (.int (0 : Int32)) := f_32.ext E_45
  have f_54 : Fld Z h_44 a "com/example/nestwire/nestwire/codec/EncodingWalker" "depth" "I" (.int (0 : Int32)) := f_33.ext E_45
  have f_55 : Fld Z h_44 a "com/example/nestwire/nestwire/codec/EncodingWalker" "started" "Z" (.int (0 : Int32)) := f_34.ext E_45
  have f_56 : Fld Z h_44 a "com/example/nestwire/nestwire/codec/EncodingWalker" "peeked" "Z" (.int (0 : Int32)) := f_35.ext E_45
  have f_57 : Fld Z h_44 a "com/example/nestwire/nestwire/codec/EncodingWalker" "itemStart" "I" (.int (0 : Int32)) := f_36.ext E_45
  have f_58 : Exa Z h_44 o_1 "com/example/nestwire/nestwire/codec/Header" := f_37.ext E_45
  have f_59 : Fld Z h_44 o_1 "com/example/nestwire/nestwire/codec/Header" "isList" "Z" (.int (0 : Int32)) := f_38.ext E_45
  have f_60 : Fld Z h_44 o_1 "com/example/nestwire/nestwire/codec/Header" "payloadStart" "I" (.int (0 : Int32)) := f_39.ext E_45
  have f_61 : Fld Z h_44 o_1 "com/example/nestwire/nestwire/codec/Header" "payloadLength" "I" (.int (0 : Int32)) := f_40.ext E_45
  have kp_62 : Keep h h_44 [a] := kp_41.ext E_45
  have sz_63 : n0 ≤ h_44.size := Nat.le_trans sz_42 E_45.1
  have A_64 : Ary Z h_44 a_43 .int [(.int (0 : Int32)), (.int (0 : Int32)), (.int (0 : Int32)), (.int (0 : Int32)), (.int (0 : Int32)), (.int (0 : Int32)), (.int (0 : Int32)), (.int (0 : Int32)), (.int (0 : Int32)), (.int (0 : Int32)), (.int (0 : Int32)), (.int (0 : Int32)), (.int (0 : Int32)), (.int (0 : Int32)), (.int (0 : Int32)), (.int (0 : Int32))] := A_46
  refine K.putf d1_20 (pc' := 23) rfl (host := "") (Or.inl (hw _ (List.mem_of_getElem? (i := 21) rfl))) Via.refl f_50 f_47 (Or.inl (hw _ (List.mem_of_getElem? (i := 22) rfl))) (hw _ (List.mem_of_getElem? (i := 3) rfl)) (ty := (.array .int)) (by decide) rfl rfl P3 (fun h_65 W_66 => ?_)
  have f_67 : Exa Z h_65 a "com/example/nestwire/nestwire/codec/EncodingWalker" := f_47.wr W_66
  have f_68 : Ary Z h_65 eb .byte vs := f_48.other W_66 (Ne.symm P4)
  have f_69 : Fld Z h_65 a "com/example/nestwire/nestwire/codec/EncodingWalker" "header" "Lcom/example/nestwire/nestwire/codec/Header;" (.ref o_1) := f_49.other W_66 (Or.inr (slot_ne (Or.inr (hw _ (List.mem_of_getElem? (i := 19) rfl))) (Or.inl (hw _ (List.mem_of_getElem? (i := 22) rfl))) (by decide) (t := (.object "com/example/nestwire/nestwire/codec/Header")) (t' := (.array .int)) (by decide) (by decide)))
  have f_70 : Fld Z h_65 a "com/example/nestwire/nestwire/codec/EncodingWalker" "ends" "[I" (.ref a_43) := f_50.same W_66
  have f_71 : Fld Z h_65 a "com/example/nestwire/nestwire/codec/EncodingWalker" "encoding" "[B" .null := f_51.other W_66 (Or.inr (slot_ne (Or.inr (hw _ (List.mem_of_getElem? (i := 24) rfl))) (Or.inl (hw _ (List.mem_of_getElem? (i := 22) rfl))) (by decide) (t := (.array .byte)) (t' := (.array .int)) (by decide) (by decide)))
  have f_72 : Fld Z h_65 a "com/example/nestwire/nestwire/codec/EncodingWalker" "end" "I" (.int (0 : Int32)) := f_52.other W_66 (Or.inr (slot_ne (Or.inr (hw _ (List.mem_of_getElem? (i := 26) rfl))) (Or.inl (hw _ (List.mem_of_getElem? (i := 22) rfl))) (by decide) (t := .int) (t' := (.array .int)) (by decide) (by decide)))
  have f_73 : Fld Z h_65 a "com/example/nestwire/nestwire/codec/EncodingWalker" "position" "I" (.int (0 : Int32)) := f_53.other W_66 (Or.inr (slot_ne (Or.inl (hw _ (List.mem_of_getElem? (i := 28) rfl))) (Or.inl (hw _ (List.mem_of_getElem? (i := 22) rfl))) (by decide) (t := .int) (t' := (.array .int)) (by decide) (by decide)))
  have f_74 : Fld Z h_65 a "com/example/nestwire/nestwire/codec/EncodingWalker" "depth" "I" (.int (0 : Int32)) := f_54.other W_66 (Or.inr (slot_ne (Or.inl (hw _ (List.mem_of_getElem? (i := 35) rfl))) (Or.inl (hw _ (List.mem_of_getElem? (i := 22) rfl))) (by decide) (t := .int) (t' := (.array .int)) (by decide) (by decide)))
  have f_75 : Fld Z h_65 a "com/example/nestwire/nestwire/codec/EncodingWalker" "started" "Z" (.int (0 : Int32)) := f_55.other W_66 (Or.inr (slot_ne (Or.inl (hw _ (List.mem_of_getElem? (i := 49) rfl))) (Or.inl (hw _ (List.mem_of_getElem? (i := 22) rfl))) (by decide) (t := .boolean) (t' := (.array .int)) (by decide) (by decide)))
  have f_76 : Fld Z h_65 a "com/example/nestwire/nestwire/codec/EncodingWalker" "peeked" "Z" (.int (0 : Int32)) := f_56.other W_66 (Or.inr (slot_ne (Or.inl (hw _ (List.mem_of_getElem? (i := 43) rfl))) (Or.inl (hw _ (List.mem_of_getElem? (i := 22) rfl))) (by decide) (t := .boolean) (t' := (.array .int)) (by decide) (by decide)))
  have f_77 : Fld Z h_65 a "com/example/nestwire/nestwire/codec/EncodingWalker" "itemStart" "I" (.int (0 : Int32)) := f_57.other W_66 (Or.inr (slot_ne (Or.inl (hw _ (List.mem_of_getElem? (i := 75) rfl))) (Or.inl (hw _ (List.mem_of_getElem? (i := 22) rfl))) (by decide) (t := .int) (t' := (.array .int)) (by decide) (by decide)))
  have f_78 : Exa Z h_65 o_1 "com/example/nestwire/nestwire/codec/Header" := f_58.wr W_66
  have f_79 : Fld Z h_65 o_1 "com/example/nestwire/nestwire/codec/Header" "isList" "Z" (.int (0 : Int32)) := f_59.other W_66 (Or.inl (Ne.symm ne_a_o_1))
  have f_80 : Fld Z h_65 o_1 "com/example/nestwire/nestwire/codec/Header" "payloadStart" "I" (.int (0 : Int32)) := f_60.other W_66 (Or.inl (Ne.symm ne_a_o_1))
  have f_81 : Fld Z h_65 o_1 "com/example/nestwire/nestwire/codec/Header" "payloadLength" "I" (.int (0 : Int32)) := f_61.other W_66 (Or.inl (Ne.symm ne_a_o_1))
  have f_82 : Ary Z h_65 a_43 .int [(.int (0 : Int32)), (.int (0 : Int32)), (.int (0 : Int32)), (.int (0 : Int32)), (.int (0 : Int32)), (.int (0 : Int32)), (.int (0 : Int32)), (.int (0 : Int32)), (.int (0 : Int32)), (.int (0 : Int32)), (.int (0 : Int32)), (.int (0 : Int32)), (.int (0 : Int32)), (.int (0 : Int32)), (.int (0 : Int32)), (.int (0 : Int32))] := A_64.other W_66 (Ne.symm ne_a_a_43)
  have kp_83 : Keep h h_65 [a] := kp_62.wr W_66 (Or.inl (by simp))
  have sz_84 : n0 ≤ h_65.size := Nat.le_trans sz_63 (Keep.of_wr W_66).1
  refine K.aloadN d1_23 (pc' := 24) rfl rfl rfl ?_
  refine K.aloadN d1_24 (pc' := 25) rfl rfl rfl ?_
  refine K.putf d1_25 (pc' := 28) rfl (host := "") (Or.inl (hw _ (List.mem_of_getElem? (i := 23) rfl))) Via.refl f_71 f_67 (Or.inr ⟨(hw _ (List.mem_of_getElem? (i := 24) rfl)), rfl, rfl⟩) (hw _ (List.mem_of_getElem? (i := 3) rfl)) (ty := (.array .byte)) (by decide) rfl rfl P3 (fun h_85 W_86 => ?_)
  have f_87 : Exa Z h_85 a "com/example/nestwire/nestwire/codec/EncodingWalker" := f_67.wr W_86
  have f_88 : Ary Z h_85 eb .byte vs := f_68.other W_86 (Ne.symm P4)
  have f_89 : Fld Z h_85 a "com/example/nestwire/nestwire/codec/EncodingWalker" "header" "Lcom/example/nestwire/nestwire/codec/Header;" (.ref o_1) := f_69.other W_86 (Or.inr (slot_ne (Or.inr (hw _ (List.mem_of_getElem? (i := 19) rfl))) (Or.inr (hw _ (List.mem_of_getElem? (i := 24) rfl))) (by decide) (t := (.object "com/example/nestwire/nestwire/codec/Header")) (t' := (.array .byte)) (by decide) (by decide)))
  have f_90 : Fld Z h_85 a "com/example/nestwire/nestwire/codec/EncodingWalker" "ends" "[I" (.ref a_43) := f_70.other W_86 (Or.inr (slot_ne (Or.inl (hw _ (List.mem_of_getElem? (i := 22) rfl))) (Or.inr (hw _ (List.mem_of_getElem? (i := 24) rfl))) (by decide) (t := (.array .int)) (t' := (.array .byte)) (by decide) (by decide)))
  have f_91 : Fld Z h_85 a "com/example/nestwire/nestwire/codec/EncodingWalker" "encoding" "[B" (.ref eb) := f_71.same W_86
  have f_92 : Fld Z h_85 a "com/example/nestwire/nestwire/codec/EncodingWalker" "end" "I" (.int (0 : Int32)) := f_72.other W_86 (Or.inr (slot_ne (Or.inr (hw _ (List.mem_of_getElem? (i := 26) rfl))) (Or.inr (hw _ (List.mem_of_getElem? (i := 24) rfl))) (by decide) (t := .int) (t' := (.array .byte)) (by decide) (by decide)))
  have f_93 : Fld Z h_85 a "com/example/nestwire/nestwire/codec/EncodingWalker" "position" "I" (.int (0 : Int32)) := f_73.other W_86 (Or.inr (slot_ne (Or.inl (hw _ (List.mem_of_getElem? (i := 28) rfl))) (Or.inr (hw _ (List.mem_of_getElem? (i := 24) rfl))) (by decide) (t := .int) (t' := (.array .byte)) (by decide) (by decide)))
  have f_94 : Fld Z h_85 a "com/example/nestwire/nestwire/codec/EncodingWalker" "depth" "I" (.int (0 : Int32)) := f_74.other W_86 (Or.inr (slot_ne (Or.inl (hw _ (List.mem_of_getElem? (i := 35) rfl))) (Or.inr (hw _ (List.mem_of_getElem? (i := 24) rfl))) (by decide) (t := .int) (t' := (.array .byte)) (by decide) (by decide)))
  have f_95 : Fld Z h_85 a "com/example/nestwire/nestwire/codec/EncodingWalker" "started" "Z" (.int (0 : Int32)) := f_75.other W_86 (Or.inr (slot_ne (Or.inl (hw _ (List.mem_of_getElem? (i := 49) rfl))) (Or.inr (hw _ (List.mem_of_getElem? (i := 24) rfl))) (by decide) (t := .boolean) (t' := (.array .byte)) (by decide) (by decide)))
  have f_96 : Fld Z h_85 a "com/example/nestwire/nestwire/codec/EncodingWalker" "peeked" "Z" (.int (0 : Int32)) := f_76.other W_86 (Or.inr (slot_ne (Or.inl (hw _ (List.mem_of_getElem? (i := 43) rfl))) (Or.inr (hw _ (List.mem_of_getElem? (i := 24) rfl))) (by decide) (t := .boolean) (t' := (.array .byte)) (by decide) (by decide)))
  have f_97 : Fld Z h_85 a "com/example/nestwire/nestwire/codec/EncodingWalker" "itemStart" "I" (.int (0 : Int32)) := f_77.other W_86 (Or.inr (slot_ne (Or.inl (hw _ (List.mem_of_getElem? (i := 75) rfl))) (Or.inr (hw _ (List.mem_of_getElem? (i := 24) rfl))) (by decide) (t := .int) (t' := (.array .byte)) (by decide) (by decide)))
  have f_98 : Exa Z h_85 o_1 "com/example/nestwire/nestwire/codec/Header" := f_78.wr W_86
  have f_99 : Fld Z h_85 o_1 "com/example/nestwire/nestwire/codec/Header" "isList" "Z" (.int (0 : Int32)) := f_79.other W_86 (Or.inl (Ne.symm ne_a_o_1))
  have f_100 : Fld Z h_85 o_1 "com/example/nestwire/nestwire/codec/Header" "payloadStart" "I" (.int (0 : Int32)) := f_80.other W_86 (Or.inl (Ne.symm ne_a_o_1))
  have f_101 : Fld Z h_85 o_1 "com/example/nestwire/nestwire/codec/Header" "payloadLength" "I" (.int (0 : Int32)) := f_81.other W_86 (Or.inl (Ne.symm ne_a_o_1))
  have f_102 : Ary Z h_85 a_43 .int [(.int (0 : Int32)), (.int (0 : Int32)), (.int (0 : Int32)), (.int (0 : Int32)), (.int (0 : Int32)), (.int (0 : Int32)), (.int (0 : Int32)), (.int (0 : Int32)), (.int (0 : Int32)), (.int (0 : Int32)), (.int (0 : Int32)), (.int (0 : Int32)), (.int (0 : Int32)), (.int (0 : Int32)), (.int (0 : Int32)), (.int (0 : Int32))] := f_82.other W_86 (Ne.symm ne_a_a_43)
  have kp_103 : Keep h h_85 [a] := kp_83.wr W_86 (Or.inl (by simp))
  have sz_104 : n0 ≤ h_85.size := Nat.le_trans sz_84 (Keep.of_wr W_86).1
  refine K.aloadN d1_28 (pc' := 29) rfl rfl rfl ?_
  refine K.iloadN d1_29 (pc' := 30) rfl rfl ?_
  refine K.putf d1_30 (pc' := 33) rfl (host := "") (Or.inl (hw _ (List.mem_of_getElem? (i := 25) rfl))) Via.refl f_92 f_87 (Or.inr ⟨(hw _ (List.mem_of_getElem? (i := 26) rfl)), rfl, rfl⟩) (hw _ (List.mem_of_getElem? (i := 3) rfl)) (ty := .int) (by decide) rfl rfl P3 (fun h_105 W_106 => ?_)
  have f_107 : Exa Z h_105 a "com/example/nestwire/nestwire/codec/EncodingWalker" := f_87.wr W_106
  have f_108 : Ary Z h_105 eb .byte vs := f_88.other W_106 (Ne.symm P4)
  have f_109 : Fld Z h_105 a "com/example/nestwire/nestwire/codec/EncodingWalker" "header" "Lcom/example/nestwire/nestwire/codec/Header;" (.ref o_1) := f_89.other W_106 (Or.inr (slot_ne (Or.inr (hw _ (List.mem_of_getElem? (i := 19) rfl))) (Or.inr (hw _ (List.mem_of_getElem? (i := 26) rfl))) (by decide) (t := (.object "com/example/nestwire/nestwire/codec/Header")) (t' := .int) (by decide) (by decide)))
  have f_110 : Fld Z h_105 a "com/example/nestwire/nestwire/codec/EncodingWalker" "ends" "[I" (.ref a_43) := f_90.other W_106 (Or.inr (slot_ne (Or.inl (hw _ (List.mem_of_getElem? (i := 22) rfl))) (Or.inr (hw _ (List.mem_of_getElem? (i := 26) rfl))) (by decide) (t := (.array .int)) (t' := .int) (by decide) (by decide)))
  have f_111 : Fld Z h_105 a "com/example/nestwire/nestwire/codec/EncodingWalker" "encoding" "[B" (.ref eb) := f_91.other W_106 (Or.inr (slot_ne (Or.inr (hw _ (List.mem_of_getElem? (i := 24) rfl))) (Or.inr (hw _ (List.mem_of_getElem? (i := 26) rfl))) (by decide) (t := (.array .byte)) (t' := .int) (by decide) (by decide)))
  have f_112 : Fld Z h_105 a "com/example/nestwire/nestwire/codec/EncodingWalker" "end" "I" (.int n) := f_92.same W_106
  have f_113 : Fld Z h_105 a "com/example/nestwire/nestwire/codec/EncodingWalker" "position" "I" (.int (0 : Int32)) := f_93.other W_106 (Or.inr (slot_ne (Or.inl (hw _ (List.mem_of_getElem? (i := 28) rfl))) (Or.inr (hw _ (List.mem_of_getElem? (i := 26) rfl))) (by decide) (t := .int) (t' := .int) (by decide) (by decide)))
  have f_114 : Fld Z h_105 a "com/example/nestwire/nestwire/codec/EncodingWalker" "depth" "I" (.int (0 : Int32)) := f_94.other W_106 (Or.inr (slot_ne (Or.inl (hw _ (List.mem_of_getElem? (i := 35) rfl))) (Or.inr (hw _ (List.mem_of_getElem? (i := 26) rfl))) (by decide) (t := .int) (t' := .int) (by decide) (by decide)))
  have f_115 : Fld Z h_105 a "com/example/nestwire/nestwire/codec/EncodingWalker" "started" "Z" (.int (0 : Int32)) := f_95.other W_106 (Or.inr (slot_ne (Or.inl (hw _ (List.mem_of_getElem? (i := 49) rfl))) (Or.inr (hw _ (List.mem_of_getElem? (i := 26) rfl))) (by decide) (t := .boolean) (t' := .int) (by decide) (by decide)))
  have f_116 : Fld Z h_105 a "com/example/nestwire/nestwire/codec/EncodingWalker" "peeked" "Z" (.int (0 : Int32)) := f_96.other W_106 (Or.inr (slot_ne (Or.inl (hw _ (List.mem_of_getElem? (i := 43) rfl))) (Or.inr (hw _ (List.mem_of_getElem? (i := 26) rfl))) (by decide) (t := .boolean) (t' := .int) (by decide) (by decide)))
  have f_117 : Fld Z h_105 a "com/example/nestwire/nestwire/codec/EncodingWalker" "itemStart" "I" (.int (0 : Int32)) := f_97.other W_106 (Or.inr (slot_ne (Or.inl (hw _ (List.mem_of_getElem? (i := 75) rfl))) (Or.inr (hw _ (List.mem_of_getElem? (i := 26) rfl))) (by decide) (t := .int) (t' := .int) (by decide) (by decide)))
  have f_118 : Exa Z h_105 o_1 "com/example/nestwire/nestwire/codec/Header" := f_98.wr W_106
  have f_119 : Fld Z h_105 o_1 "com/example/nestwire/nestwire/codec/Header" "isList" "Z" (.int (0 : Int32)) := f_99.other W_106 (Or.inl (Ne.symm ne_a_o_1))
  have f_120 : Fld Z h_105 o_1 "com/example/nestwire/nestwire/codec/Header" "payloadStart" "I" (.int (0 : Int32)) := f_100.other W_106 (Or.inl (Ne.symm ne_a_o_1))
  have f_121 : Fld Z h_105 o_1 "com/example/nestwire/nestwire/codec/Header" "payloadLength" "I" (.int (0 : Int32)) := f_101.other W_106 (Or.inl (Ne.symm ne_a_o_1))
  have f_122 : Ary Z h_105 a_43 .int [(.int (0 : Int32)), (.int (0 : Int32)), (.int (0 : Int32)), (.int (0 : Int32)), (.int (0 : Int32)), (.int (0 : Int32)), (.int (0 : Int32)), (.int (0 : Int32)), (.int (0 : Int32)), (.int (0 : Int32)), (.int (0 : Int32)), (.int (0 : Int32)), (.int (0 : Int32)), (.int (0 : Int32)), (.int (0 : Int32)), (.int (0 : Int32))] := f_102.other W_106 (Ne.symm ne_a_a_43)
  have kp_123 : Keep h h_105 [a] := kp_103.wr W_106 (Or.inl (by simp))
  have sz_124 : n0 ≤ h_105.size := Nat.le_trans sz_104 (Keep.of_wr W_106).1
  refine K.aloadN d1_33 (pc' := 34) rfl rfl rfl ?_
  refine K.iloadN d1_34 (pc' := 35) rfl rfl ?_
  refine K.putf d1_35 (pc' := 38) rfl (host := "") (Or.inl (hw _ (List.mem_of_getElem? (i := 27) rfl))) Via.refl f_113 f_107 (Or.inl (hw _ (List.mem_of_getElem? (i := 28) rfl))) (hw _ (List.mem_of_getElem? (i := 3) rfl)) (ty := .int) (by decide) rfl rfl P3 (fun h_125 W_126 => ?_)
  have f_127 : Exa Z h_125 a "com/example/nestwire/nestwire/codec/EncodingWalker" := f_107.wr W_126
  have f_128 : Ary Z h_125 eb .byte vs := f_108.other W_126 (Ne.symm P4)
  have f_129 : Fld Z h_125 a "com/example/nestwire/nestwire/codec/EncodingWalker" "header" "Lcom/example/nestwire/nestwire/codec/Header;" (.ref o_1) := f_109.other W_126 (Or.inr (slot_ne (Or.inr (hw _ (List.mem_of_getElem? (i := 19) rfl))) (Or.inl (hw _ (List.mem_of_getElem? (i := 28) rfl))) (by decide) (t := (.object "com/example/nestwire/nestwire/codec/Header")) (t' := .int) (by decide) (by decide)))
  have f_130 : Fld Z h_125 a "com/example/nestwire/nestwire/codec/EncodingWalker" "ends" "[I" (.ref a_43) := f_110.other W_126 (Or.inr (slot_ne (Or.inl (hw _ (List.mem_of_getElem? (i := 22) rfl))) (Or.inl (hw _ (List.mem_of_getElem? (i := 28) rfl))) (by decide) (t := (.array .int)) (t' := .int) (by decide) (by decide)))
  have f_131 : Fld Z h_125 a "com/example/nestwire/nestwire/codec/EncodingWalker" "encoding" "[B" (.ref eb) := f_111.other W_126 (Or.inr (slot_ne (Or.inr (hw _ (List.mem_of_getElem? (i := 24) rfl))) (Or.inl (hw _ (List.mem_of_getElem? (i := 28) rfl))) (by decide) (t := (.array .byte)) (t' := .int) (by decide) (by decide)))
  have f_132 : Fld Z h_125 a "com/example/nestwire/nestwire/codec/EncodingWalker" "end" "I" (.int n) := f_112.other W_126 (Or.inr (slot_ne (Or.inr (hw _ (List.mem_of_getElem? (i := 26) rfl))) (Or.inl (hw _ (List.mem_of_getElem? (i := 28) rfl))) (by decide) (t := .int) (t' := .int) (by decide) (by decide)))
  have f_133 : Fld Z h_125 a "com/example/nestwire/nestwire/codec/EncodingWalker" "position" "I" (.int p) := f_113.same W_126
  have f_134 : Fld Z h_125 a "com/example/nestwire/nestwire/codec/EncodingWalker" "depth" "I" (.int (0 : Int32)) := f_114.other W_126 (Or.inr (slot_ne (Or.inl (hw _ (List.mem_of_getElem? (i := 35) rfl))) (Or.inl (hw _ (List.mem_of_getElem? (i := 28) rfl))) (by decide) (t := .int) (t' := .int) (by decide) (by decide)))
  have f_135 : Fld Z h_125 a "com/example/nestwire/nestwire/codec/EncodingWalker" "started" "Z" (.int (0 : Int32)) := f_115.other W_126 (Or.inr (slot_ne (Or.inl (hw _ (List.mem_of_getElem? (i := 49) rfl))) (Or.inl (hw _ (List.mem_of_getElem? (i := 28) rfl))) (by decide) (t := .boolean) (t' := .int) (by decide) (by decide)))
  have f_136 : Fld Z h_125 a "com/example/nestwire/nestwire/codec/EncodingWalker" "peeked" "Z" (.int (0 : Int32)) := f_116.other W_126 (Or.inr (slot_ne (Or.inl (hw _ (List.mem_of_getElem? (i := 43) rfl))) (Or.inl (hw _ (List.mem_of_getElem? (i := 28) rfl))) (by decide) (t := .boolean) (t' := .int) (by decide) (by decide)))
  have f_137 : Fld Z h_125 a "com/example/nestwire/nestwire/codec/EncodingWalker" "itemStart" "I" (.int (0 : Int32)) := f_117.other W_126 (Or.inr (slot_ne (Or.inl (hw _ (List.mem_of_getElem? (i := 75) rfl))) (Or.inl (hw _ (List.mem_of_getElem? (i := 28) rfl))) (by decide) (t := .int) (t' := .int) (by decide) (by decide)))
  have f_138 : Exa Z h_125 o_1 "com/example/nestwire/nestwire/codec/Header" := f_118.wr W_126
  have f_139 : Fld Z h_125 o_1 "com/example/nestwire/nestwire/codec/Header" "isList" "Z" (.int (0 : Int32)) := f_119.other W_126 (Or.inl (Ne.symm ne_a_o_1))
  have f_140 : Fld Z h_125 o_1 "com/example/nestwire/nestwire/codec/Header" "payloadStart" "I" (.int (0 : Int32)) := f_120.other W_126 (Or.inl (Ne.symm ne_a_o_1))
  have f_141 : Fld Z h_125 o_1 "com/example/nestwire/nestwire/codec/Header" "payloadLength" "I" (.int (0 : Int32)) := f_121.other W_126 (Or.inl (Ne.symm ne_a_o_1))
  have f_142 : Ary Z h_125 a_43 .int [(.int (0 : Int32)), (.int (0 : Int32)), (.int (0 : Int32)), (.int (0 : Int32)), (.int (0 : Int32)), (.int (0 : Int32)), (.int (0 : Int32)), (.int (0 : Int32)), (.int (0 : Int32)), (.int (0 : Int32)), (.int (0 : Int32)), (.int (0 : Int32)), (.int (0 : Int32)), (.int (0 : Int32)), (.int (0 : Int32)), (.int (0 : Int32))] := f_122.other W_126 (Ne.symm ne_a_a_43)
  have kp_143 : Keep h h_125 [a] := kp_123.wr W_126 (Or.inl (by simp))
  have sz_144 : n0 ≤ h_125.size := Nat.le_trans sz_124 (Keep.of_wr W_126).1
  exact K.ret0 d1_38 (by decide) (by decide) ⟨o_1, a_43, rfl, kp_143, sb_o_1, sb_a_43, f_138, ge_o_1, ge_a_43, ne_o_1_a_43, f_129, f_130, f_131, f_132, f_133, f_134, f_135, f_136, f_137, f_139, f_140, f_141, f_142⟩
theorem pd_7 : parseMethodDescriptor "([BII)V" = some ⟨[(.array .byte), .int, .int], none⟩ := by decide +kernel
theorem pd_8 : parseMethodDescriptor "([BIII)I" = some ⟨[(.array .byte), .int, .int, .int], some .int⟩ := by decide +kernel
theorem pd_9 : parseMethodDescriptor "(Lcom/example/nestwire/nestwire/codec/EncodingWalker;IZ)Z" = some ⟨[(.object "com/example/nestwire/nestwire/codec/EncodingWalker"), .int, .boolean], some .boolean⟩ := by decide +kernel
set_option maxRecDepth 65536 in
set_option maxHeartbeats 40000000 in
theorem c_law (l : Launch) (Z : State) (a0 : Array Value) (hw : ∀ d ∈ tables_1, d.before a0 Z = true) (n0 : Nat) (h : Heap) (sh : Int32) (v0 : Int32) (v1 : Int32) (jk : Int32) (cE : Addr) (cB : Addr) (cS : Addr) (Z0 : n0 ≤ h.size) (P2 : Old Z n0 h) (P3 : Sta Z Z.heap "com/example/nestwire/nestwire/codec/RlpWalker$Step" "LIST_END" "Lcom/example/nestwire/nestwire/codec/RlpWalker$Step;" (.ref cE)) (P4 : Sta Z Z.heap "com/example/nestwire/nestwire/codec/RlpWalker$Step" "BYTES" "Lcom/example/nestwire/nestwire/codec/RlpWalker$Step;" (.ref cB)) (P5 : Sta Z Z.heap "com/example/nestwire/nestwire/codec/RlpWalker$Step" "LIST_START" "Lcom/example/nestwire/nestwire/codec/RlpWalker$Step;" (.ref cS)) : MeetsW l Z n0 x code maxLocals ret room_1 #[(.int sh), (.int v0), (.int v1), (.int jk)] h (fun v h' => v = some (.int 1)) := by
  refine MeetsW.intro (plainFor_of_name pn_com_example_nestwire_nestwire_codec_EncodingWalkerAtListEndPinLaw) (L0 := #[.val (.int sh), .val (.int v0), .val (.int v1), .val (.int jk), .unset, .unset, .unset, .unset, .unset, .unset, .unset, .unset]) (fun m => by first | (simp [entryFrame, mkF, argsToLocals, Value.category, maxLocals]; done) | rfl) ?_
  intro m G K0
  have K : Cx l room_1 Z n0 _ "com/example/nestwire/nestwire/codec/EncodingWalkerAtListEndPinLaw" "law" code 12 (some .boolean) m G := K0
  refine K.iloadN at_0 (pc' := 1) rfl rfl ?_
  refine K.ldcI at_1 (pc' := 3) rfl (hw _ (List.mem_of_getElem? (i := 0) rfl)) ?_
  obtain ⟨z3, e_z3⟩ : ∃ z, sh &&& (2147483647 : Int32) = z := ⟨_, rfl⟩
  have r_z3 : z3.toInt = sh.toInt % 2147483648 := by have q := c_mask sh (2147483647 : Int32) 31 (by decide) (by decide); rw [e_z3] at q; exact q
  refine K.iand at_3 (pc' := 4) rfl e_z3 ?_
  refine K.iconst at_4 (pc' := 5) rfl (z := 3) rfl ?_
  obtain ⟨k, e_k⟩ : ∃ z, z3 % (3 : Int32) = z := ⟨_, rfl⟩
  have r_k : (0 ≤ z3.toInt → k.toInt = z3.toInt % 3) ∧ (z3.toInt < 0 → k.toInt = -((-z3.toInt) % 3)) := by have q := c_irem z3 (3 : Int32) 3 rfl; rw [e_k] at q; exact q
  have t_k : 0 ≤ k.toInt ∧ k.toInt ≤ 2 := by omega
  clear r_k
  refine K.irem at_5 (pc' := 6) rfl (by decide) e_k ?_
  refine K.istore at_6 (pc' := 8) rfl (L' := #[.val (.int sh), .val (.int v0), .val (.int v1), .val (.int jk), .val (.int k), .unset, .unset, .unset, .unset, .unset, .unset, .unset]) rfl ?_
  refine K.iloadN at_8 (pc' := 9) rfl rfl ?_
  refine K.iconst at_9 (pc' := 10) rfl (z := 2) rfl ?_
  obtain ⟨z10, e_z10⟩ : ∃ z, (sh.toUInt32 >>> ((2 : Int32) &&& 31).toUInt32).toInt32 = z := ⟨_, rfl⟩
  have r_z10 : z10.toInt = (sh.toInt % 4294967296) / 4 := by have q := c_iushr sh (2 : Int32) 2 (by decide) (by decide); rw [e_z10] at q; exact q
  refine K.iushr at_10 (pc' := 11) rfl e_z10 ?_
  refine K.iconst at_11 (pc' := 12) rfl (z := 3) rfl ?_
  obtain ⟨kd0, e_kd0⟩ : ∃ z, z10 &&& (3 : Int32) = z := ⟨_, rfl⟩
  have r_kd0 : kd0.toInt = z10.toInt % 4 := by have q := c_mask z10 (3 : Int32) 2 (by decide) (by decide); rw [e_kd0] at q; exact q
  refine K.iand at_12 (pc' := 13) rfl e_kd0 ?_
  refine K.istore at_13 (pc' := 15) rfl (L' := #[.val (.int sh), .val (.int v0), .val (.int v1), .val (.int jk), .val (.int k), .val (.int kd0), .unset, .unset, .unset, .unset, .unset, .unset]) rfl ?_
  refine K.iloadN at_15 (pc' := 16) rfl rfl ?_
  refine K.iconst at_16 (pc' := 17) rfl (z := 4) rfl ?_
  obtain ⟨z17, e_z17⟩ : ∃ z, (sh.toUInt32 >>> ((4 : Int32) &&& 31).toUInt32).toInt32 = z := ⟨_, rfl⟩
  have r_z17 : z17.toInt = (sh.toInt % 4294967296) / 16 := by have q := c_iushr sh (4 : Int32) 4 (by decide) (by decide); rw [e_z17] at q; exact q
  refine K.iushr at_17 (pc' := 18) rfl e_z17 ?_
  refine K.iconst at_18 (pc' := 19) rfl (z := 3) rfl ?_
  obtain ⟨kd1, e_kd1⟩ : ∃ z, z17 &&& (3 : Int32) = z := ⟨_, rfl⟩
  have r_kd1 : kd1.toInt = z17.toInt % 4 := by have q := c_mask z17 (3 : Int32) 2 (by decide) (by decide); rw [e_kd1] at q; exact q
  refine K.iand at_19 (pc' := 20) rfl e_kd1 ?_
  refine K.istore at_20 (pc' := 22) rfl (L' := #[.val (.int sh), .val (.int v0), .val (.int v1), .val (.int jk), .val (.int k), .val (.int kd0), .val (.int kd1), .unset, .unset, .unset, .unset, .unset]) rfl ?_
  refine K.iloadN at_22 (pc' := 23) rfl rfl ?_
  refine K.bipush at_23 (pc' := 25) rfl (z := 6) rfl ?_
  obtain ⟨z25, e_z25⟩ : ∃ z, (sh.toUInt32 >>> ((6 : Int32) &&& 31).toUInt32).toInt32 = z := ⟨_, rfl⟩
  have r_z25 : z25.toInt = (sh.toInt % 4294967296) / 64 := by have q := c_iushr sh (6 : Int32) 6 (by decide) (by decide); rw [e_z25] at q; exact q
  refine K.iushr at_25 (pc' := 26) rfl e_z25 ?_
  refine K.iconst at_26 (pc' := 27) rfl (z := 3) rfl ?_
  obtain ⟨s, e_s⟩ : ∃ z, z25 &&& (3 : Int32) = z := ⟨_, rfl⟩
  have r_s : s.toInt = z25.toInt % 4 := by have q := c_mask z25 (3 : Int32) 2 (by decide) (by decide); rw [e_s] at q; exact q
  refine K.iand at_27 (pc' := 28) rfl e_s ?_
  refine K.istore at_28 (pc' := 30) rfl (L' := #[.val (.int sh), .val (.int v0), .val (.int v1), .val (.int jk), .val (.int k), .val (.int kd0), .val (.int kd1), .val (.int s), .unset, .unset, .unset, .unset]) rfl ?_
  refine K.bipush at_30 (pc' := 32) rfl (z := 16) rfl ?_
  refine K.newa at_32 (pc' := 34) rfl (hw _ (List.mem_of_getElem? (i := 1) rfl)) (k := 16) (cap := 16) rfl (by decide) (by decide) (by decide) (by decide) (ad := "[B") (by decide) (fun h_2 a_1 g_a_1 E_3 A_4 x_a_1 => ?_)
  have ge_a_1 : n0 ≤ a_1 := g_a_1 ▸ Z0
  have f_5 : Old Z n0 h_2 := P2.ext E_3
  have sz_6 : n0 ≤ h_2.size := Nat.le_trans Z0 E_3.1
  have A_7 : Ary Z h_2 a_1 .byte [(.int (0 : Int32)), (.int (0 : Int32)), (.int (0 : Int32)), (.int (0 : Int32)), (.int (0 : Int32)), (.int (0 : Int32)), (.int (0 : Int32)), (.int (0 : Int32)), (.int (0 : Int32)), (.int (0 : Int32)), (.int (0 : Int32)), (.int (0 : Int32)), (.int (0 : Int32)), (.int (0 : Int32)), (.int (0 : Int32)), (.int (0 : Int32))] := A_4
  refine K.astore at_34 (pc' := 36) rfl rfl (L' := #[.val (.int sh), .val (.int v0), .val (.int v1), .val (.int jk), .val (.int k), .val (.int kd0), .val (.int kd1), .val (.int s), .val (.ref a_1), .unset, .unset, .unset]) rfl ?_
  refine K.aload at_36 (pc' := 38) rfl rfl rfl ?_
  refine K.iconst at_38 (pc' := 39) rfl (z := 0) rfl ?_
  refine K.iloadN at_39 (pc' := 40) rfl rfl ?_
  obtain ⟨z40, e_z40⟩ : ∃ z, jk.toInt8.toInt32 = z := ⟨_, rfl⟩
  have r_z40 : (z40.toInt - jk.toInt) % 256 = 0 ∧ -128 ≤ z40.toInt ∧ z40.toInt < 128 := by have q := c_i2b jk; rw [e_z40] at q; exact q
  refine K.i2b at_40 (pc' := 41) rfl e_z40 ?_
  refine K.bast at_41 (pc' := 42) rfl A_7 (i := 0) rfl (show 0 < 16 by decide) ge_a_1 (fun h_8 W_9 A_10 => ?_)
  rw [show nar .byte z40 = z40 from nar_byte_of (by omega)] at W_9 A_10
  have f_11 : Old Z n0 h_8 := f_5.wr W_9 ge_a_1
  have sz_13 : n0 ≤ h_8.size := Nat.le_trans sz_6 (Keep.of_wr W_9).1
  have A_14 : Ary Z h_8 a_1 .byte [(.int z40), (.int (0 : Int32)), (.int (0 : Int32)), (.int (0 : Int32)), (.int (0 : Int32)), (.int (0 : Int32)), (.int (0 : Int32)), (.int (0 : Int32)), (.int (0 : Int32)), (.int (0 : Int32)), (.int (0 : Int32)), (.int (0 : Int32)), (.int (0 : Int32)), (.int (0 : Int32)), (.int (0 : Int32)), (.int (0 : Int32))] := A_10
  refine K.aload at_42 (pc' := 44) rfl rfl rfl ?_
  refine K.iconst at_44 (pc' := 45) rfl (z := 1) rfl ?_
  refine K.iloadN at_45 (pc' := 46) rfl rfl ?_
  refine K.bipush at_46 (pc' := 48) rfl (z := 8) rfl ?_
  obtain ⟨z48, e_z48⟩ : ∃ z, (jk.toUInt32 >>> ((8 : Int32) &&& 31).toUInt32).toInt32 = z := ⟨_, rfl⟩
  refine K.iushr at_48 (pc' := 49) rfl e_z48 ?_
  obtain ⟨z49, e_z49⟩ : ∃ z, z48.toInt8.toInt32 = z := ⟨_, rfl⟩
  have r_z49 : (z49.toInt - z48.toInt) % 256 = 0 ∧ -128 ≤ z49.toInt ∧ z49.toInt < 128 := by have q := c_i2b z48; rw [e_z49] at q; exact q
  refine K.i2b at_49 (pc' := 50) rfl e_z49 ?_
  refine K.bast at_50 (pc' := 51) rfl A_14 (i := 1) rfl (show 1 < 16 by decide) ge_a_1 (fun h_15 W_16 A_17 => ?_)
  rw [show nar .byte z49 = z49 from nar_byte_of (by omega)] at W_16 A_17
  have f_18 : Old Z n0 h_15 := f_11.wr W_16 ge_a_1
  have sz_20 : n0 ≤ h_15.size := Nat.le_trans sz_13 (Keep.of_wr W_16).1
  have A_21 : Ary Z h_15 a_1 .byte [(.int z40), (.int z49), (.int (0 : Int32)), (.int (0 : Int32)), (.int (0 : Int32)), (.int (0 : Int32)), (.int (0 : Int32)), (.int (0 : Int32)), (.int (0 : Int32)), (.int (0 : Int32)), (.int (0 : Int32)), (.int (0 : Int32)), (.int (0 : Int32)), (.int (0 : Int32)), (.int (0 : Int32)), (.int (0 : Int32))] := A_17
  refine K.aload at_51 (pc' := 53) rfl rfl rfl ?_
  refine K.iconst at_53 (pc' := 54) rfl (z := 2) rfl ?_
  refine K.iloadN at_54 (pc' := 55) rfl rfl ?_
  refine K.bipush at_55 (pc' := 57) rfl (z := 16) rfl ?_
  obtain ⟨z57, e_z57⟩ : ∃ z, (jk.toUInt32 >>> ((16 : Int32) &&& 31).toUInt32).toInt32 = z := ⟨_, rfl⟩
  refine K.iushr at_57 (pc' := 58) rfl e_z57 ?_
  obtain ⟨z58, e_z58⟩ : ∃ z, z57.toInt8.toInt32 = z := ⟨_, rfl⟩
  have r_z58 : (z58.toInt - z57.toInt) % 256 = 0 ∧ -128 ≤ z58.toInt ∧ z58.toInt < 128 := by have q := c_i2b z57; rw [e_z58] at q; exact q
  refine K.i2b at_58 (pc' := 59) rfl e_z58 ?_
  refine K.bast at_59 (pc' := 60) rfl A_21 (i := 2) rfl (show 2 < 16 by decide) ge_a_1 (fun h_22 W_23 A_24 => ?_)
  rw [show nar .byte z58 = z58 from nar_byte_of (by omega)] at W_23 A_24
  have f_25 : Old Z n0 h_22 := f_18.wr W_23 ge_a_1
  have sz_27 : n0 ≤ h_22.size := Nat.le_trans sz_20 (Keep.of_wr W_23).1
  have A_28 : Ary Z h_22 a_1 .byte [(.int z40), (.int z49), (.int z58), (.int (0 : Int32)), (.int (0 : Int32)), (.int (0 : Int32)), (.int (0 : Int32)), (.int (0 : Int32)), (.int (0 : Int32)), (.int (0 : Int32)), (.int (0 : Int32)), (.int (0 : Int32)), (.int (0 : Int32)), (.int (0 : Int32)), (.int (0 : Int32)), (.int (0 : Int32))] := A_24
  obtain ⟨vs, hvs⟩ : ∃ vs : List Value, vs = [(.int z40), (.int z49), (.int z58), (.int (0 : Int32)), (.int (0 : Int32)), (.int (0 : Int32)), (.int (0 : Int32)), (.int (0 : Int32)), (.int (0 : Int32)), (.int (0 : Int32)), (.int (0 : Int32)), (.int (0 : Int32)), (.int (0 : Int32)), (.int (0 : Int32)), (.int (0 : Int32)), (.int (0 : Int32))] := ⟨_, rfl⟩
  have A_29 : Ary Z h_22 a_1 .byte vs := hvs ▸ A_28
  have hl : vs.length = 16 := by rw [hvs]; rfl
  refine K.iload at_60 (pc' := 62) rfl rfl ?_
  refine K.iconst at_62 (pc' := 63) rfl (z := 1) rfl ?_
  obtain ⟨z63, e_z63⟩ : ∃ z, s + (1 : Int32) = z := ⟨_, rfl⟩
  have r_z63 : (z63.toInt - (s.toInt + 1)) % 4294967296 = 0 := by have q := c_iadd s (1 : Int32); rw [e_z63] at q; exact q
  have g_z63 := rng32 z63
  have t_z63 : z63.toInt = s.toInt + 1 := by omega
  clear r_z63
  clear g_z63
  refine K.iadd at_63 (pc' := 64) rfl e_z63 ?_
  refine K.istore at_64 (pc' := 66) rfl (L' := #[.val (.int sh), .val (.int v0), .val (.int v1), .val (.int jk), .val (.int k), .val (.int kd0), .val (.int kd1), .val (.int s), .val (.ref a_1), .val (.int z63), .unset, .unset]) rfl ?_
  have cs_k : k = 0 ∨ k = 1 ∨ k = 2 := by
    have q : k.toInt = 0 ∨ k.toInt = 1 ∨ k.toInt = 2 := by omega
    rcases q with q | q | q
    · exact Or.inl (eqI q)
    · exact Or.inr (Or.inl (eqI q))
    · exact Or.inr (Or.inr (eqI q))
  rcases cs_k with rfl | rfl | rfl
  · refine K.iload at_66 (pc' := 68) rfl rfl ?_
    refine K.iconst at_68 (pc' := 69) rfl (z := 1) rfl ?_
    refine K.icmp_lt at_69 (pc1 := 72) rfl (by decide) (pc2 := 84) (by decide) (a := 0) (b := 1) rfl rfl (fun c69 => ?_) (fun c69 => ?_)
    · refine K.iload at_84 (pc' := 86) rfl rfl ?_
      refine K.iconst at_86 (pc' := 87) rfl (z := 2) rfl ?_
      refine K.icmp_lt at_87 (pc1 := 90) rfl (by decide) (pc2 := 102) (by decide) (a := 0) (b := 2) rfl rfl (fun c87 => ?_) (fun c87 => ?_)
      · refine K.aload at_102 (pc' := 104) rfl rfl rfl ?_
        refine K.iload at_104 (pc' := 106) rfl rfl ?_
        refine K.sipush at_106 (pc' := 109) rfl (z := 192) rfl ?_
        refine K.iload at_109 (pc' := 111) rfl rfl ?_
        refine K.iload at_111 (pc' := 113) rfl rfl ?_
        obtain ⟨z113, e_z113⟩ : ∃ z, z63 - s = z := ⟨_, rfl⟩
        have r_z113 : (z113.toInt - (z63.toInt - s.toInt)) % 4294967296 = 0 := by have q := c_isub z63 s; rw [e_z113] at q; exact q
        have g_z113 := rng32 z113
        have t_z113 : z113.toInt = z63.toInt - s.toInt := by omega
        clear r_z113
        clear g_z113
        refine K.isub at_113 (pc' := 114) rfl e_z113 ?_
        refine K.iconst at_114 (pc' := 115) rfl (z := 1) rfl ?_
        obtain ⟨z115, e_z115⟩ : ∃ z, z113 - (1 : Int32) = z := ⟨_, rfl⟩
        have r_z115 : (z115.toInt - (z113.toInt - 1)) % 4294967296 = 0 := by have q := c_isub z113 (1 : Int32); rw [e_z115] at q; exact q
        have g_z115 := rng32 z115
        have t_z115 : z115.toInt = z113.toInt - 1 := by omega
        clear r_z115
        clear g_z115
        refine K.isub at_115 (pc' := 116) rfl e_z115 ?_
        obtain ⟨z116, e_z116⟩ : ∃ z, (192 : Int32) + z115 = z := ⟨_, rfl⟩
        have r_z116 : (z116.toInt - (192 + z115.toInt)) % 4294967296 = 0 := by have q := c_iadd (192 : Int32) z115; rw [e_z116] at q; exact q
        have g_z116 := rng32 z116
        have t_z116 : z116.toInt = 192 + z115.toInt := by omega
        clear r_z116
        clear g_z116
        refine K.iadd at_116 (pc' := 117) rfl e_z116 ?_
        obtain ⟨hb0, e_hb0⟩ : ∃ z, z116.toInt8.toInt32 = z := ⟨_, rfl⟩
        have r_hb0 : (hb0.toInt - z116.toInt) % 256 = 0 ∧ -128 ≤ hb0.toInt ∧ hb0.toInt < 128 := by have q := c_i2b z116; rw [e_hb0] at q; exact q
        refine K.i2b at_117 (pc' := 118) rfl e_hb0 ?_
        refine K.bast at_118 (pc' := 119) rfl A_29 (i := s.toInt.toNat) (by omega) (by omega) ge_a_1 (fun h_30 W_31 A_32 => ?_)
        rw [show nar .byte hb0 = hb0 from nar_byte_of (by omega)] at W_31 A_32
        have f_33 : Old Z n0 h_30 := f_25.wr W_31 ge_a_1
        have sz_35 : n0 ≤ h_30.size := Nat.le_trans sz_27 (Keep.of_wr W_31).1
        have A_36 : Ary Z h_30 a_1 .byte ((vs).set (s.toInt.toNat) (.int hb0)) := A_32
        obtain ⟨vz, hvz⟩ : ∃ vz : List Value, vz = (vs).set (s.toInt.toNat) (.int hb0) := ⟨_, rfl⟩
        have A_37 : Ary Z h_30 a_1 .byte vz := hvz ▸ A_36
        have hv0 : vz[s.toInt.toNat]? = some (.int hb0) := by rw [hvz]; exact List.getElem?_set_self (by omega)
        refine K.newo at_119 (pc' := 122) rfl (hw _ (List.mem_of_getElem? (i := 2) rfl)) (hw _ (List.mem_of_getElem? (i := 3) rfl)) (hw _ (List.mem_of_getElem? (i := 4) rfl)) (by decide) (by decide) (fun h_39 o_38 g_o_38 E_40 x_o_38 D_o_38 => ?_)
        have ne_a_1_o_38 : a_1 ≠ o_38 := Nat.ne_of_lt (g_o_38 ▸ A_37.lt)
        have ge_o_38 : n0 ≤ o_38 := g_o_38 ▸ sz_35
        have f_41 : Old Z n0 h_39 := f_33.ext E_40
        have f_42 : Ary Z h_39 a_1 .byte vz := A_37.ext E_40
        have sz_43 : n0 ≤ h_39.size := Nat.le_trans sz_35 E_40.1
        have f_44 : Fld Z h_39 o_38 "com/example/nestwire/nestwire/codec/EncodingWalker" "header" "Lcom/example/nestwire/nestwire/codec/Header;" .null := D_o_38 (Or.inr (hw _ (List.mem_of_getElem? (i := 19) rfl))) (ty := (.object "com/example/nestwire/nestwire/codec/Header")) (by decide)
        have f_45 : Fld Z h_39 o_38 "com/example/nestwire/nestwire/codec/EncodingWalker" "ends" "[I" .null := D_o_38 (Or.inl (hw _ (List.mem_of_getElem? (i := 22) rfl))) (ty := (.array .int)) (by decide)
        have f_46 : Fld Z h_39 o_38 "com/example/nestwire/nestwire/codec/EncodingWalker" "encoding" "[B" .null := D_o_38 (Or.inr (hw _ (List.mem_of_getElem? (i := 24) rfl))) (ty := (.array .byte)) (by decide)
        have f_47 : Fld Z h_39 o_38 "com/example/nestwire/nestwire/codec/EncodingWalker" "end" "I" (.int (0 : Int32)) := D_o_38 (Or.inr (hw _ (List.mem_of_getElem? (i := 26) rfl))) (ty := .int) (by decide)
        have f_48 : Fld Z h_39 o_38 "com/example/nestwire/nestwire/codec/EncodingWalker" "position" "I" (.int (0 : Int32)) := D_o_38 (Or.inl (hw _ (List.mem_of_getElem? (i := 28) rfl))) (ty := .int) (by decide)
        have f_49 : Fld Z h_39 o_38 "com/example/nestwire/nestwire/codec/EncodingWalker" "depth" "I" (.int (0 : Int32)) := D_o_38 (Or.inl (hw _ (List.mem_of_getElem? (i := 35) rfl))) (ty := .int) (by decide)
        have f_50 : Fld Z h_39 o_38 "com/example/nestwire/nestwire/codec/EncodingWalker" "peeked" "Z" (.int (0 : Int32)) := D_o_38 (Or.inl (hw _ (List.mem_of_getElem? (i := 43) rfl))) (ty := .boolean) (by decide)
        have f_51 : Fld Z h_39 o_38 "com/example/nestwire/nestwire/codec/EncodingWalker" "started" "Z" (.int (0 : Int32)) := D_o_38 (Or.inl (hw _ (List.mem_of_getElem? (i := 49) rfl))) (ty := .boolean) (by decide)
        have f_52 : Fld Z h_39 o_38 "com/example/nestwire/nestwire/codec/EncodingWalker" "itemStart" "I" (.int (0 : Int32)) := D_o_38 (Or.inl (hw _ (List.mem_of_getElem? (i := 75) rfl))) (ty := .int) (by decide)
        refine K.dup at_122 (pc' := 123) rfl rfl ?_
        refine K.aload at_123 (pc' := 125) rfl rfl rfl ?_
        refine K.iload at_125 (pc' := 127) rfl rfl ?_
        refine K.iload at_127 (pc' := 129) rfl rfl ?_
        refine K.callc (argsL := [(.ref a_1), (.int s), (.int z63)]) (rest := [(.ref o_38)]) at_129 (pc' := 132) rfl rfl (c_new l Z a0 hw n0 h_39 (a := o_38) (eb := a_1) (p := s) (n := z63) (vs := vz) x_o_38 sz_43 ge_o_38 (Ne.symm ne_a_1_o_38) f_42 f_44 f_45 f_46 f_47 f_48 f_49 f_51 f_50 f_52) (hw _ (List.mem_of_getElem? (i := 5) rfl)) (hw _ (List.mem_of_getElem? (i := 6) rfl)) (hw _ (List.mem_of_getElem? (i := 4) rfl)) (hw _ (List.mem_of_getElem? (i := 7) rfl)) (by decide) pd_7 rfl rfl (W := 1) (by simp [Value.category]) (by decide) (by decide) (by decide) (by decide) (fun v_55 h_53 q_54 => ?_)
        obtain ⟨hd_57, en_58, rfl, K_59, f_60, f_61, f_62, f_63, f_64, f_65, f_66, f_67, f_68, f_69, f_70, f_71, f_72, f_73, f_74, f_75, f_76, f_77, f_78⟩ := q_54
        have ne_a_1_hd_57 : a_1 ≠ hd_57 := Nat.ne_of_lt (Nat.lt_of_lt_of_le f_42.lt f_60)
        have ne_o_38_hd_57 : o_38 ≠ hd_57 := Nat.ne_of_lt (Nat.lt_of_lt_of_le x_o_38.lt f_60)
        have ne_a_1_en_58 : a_1 ≠ en_58 := Nat.ne_of_lt (Nat.lt_of_lt_of_le f_42.lt f_61)
        have ne_o_38_en_58 : o_38 ≠ en_58 := Nat.ne_of_lt (Nat.lt_of_lt_of_le x_o_38.lt f_61)
        have f_79 : Old Z n0 h_53 := f_41.keep K_59 (allS ge_o_38 all0)
        have f_80 : Ary Z h_53 a_1 .byte vz := f_42.keep K_59 (ninS ne_a_1_o_38 nin0)
        have f_81 : Exa Z h_53 o_38 "com/example/nestwire/nestwire/codec/EncodingWalker" := x_o_38.keep K_59
        have sz_91 : n0 ≤ h_53.size := Nat.le_trans sz_43 K_59.1
        show G h_53 4 44 (mkF m 132 #[.val (.int sh), .val (.int v0), .val (.int v1), .val (.int jk), .val (.int (0 : Int32)), .val (.int kd0), .val (.int kd1), .val (.int s), .val (.ref a_1), .val (.int z63), .unset, .unset] [(.ref o_38)])
        refine K.astore at_132 (pc' := 134) rfl rfl (L' := #[.val (.int sh), .val (.int v0), .val (.int v1), .val (.int jk), .val (.int (0 : Int32)), .val (.int kd0), .val (.int kd1), .val (.int s), .val (.ref a_1), .val (.int z63), .val (.ref o_38), .unset]) rfl ?_
        refine K.aload at_134 (pc' := 136) rfl rfl rfl ?_
        refine K.callv (z := (⟨"com/example/nestwire/nestwire/codec/EncodingWalker", "atListEnd", "()Z"⟩ : MethodName)) (argsL := []) (rest := []) at_136 (pc' := 139) rfl (c_ale0 l Z a0 hw n0 h_53 (a := o_38) (en := en_58) (p := s) (e0 := (0 : Int32)) (e1 := (0 : Int32)) f_81 f_71 f_70 f_67 f_78) f_81 (hw _ (List.mem_of_getElem? (i := 29) rfl)) (hw _ (List.mem_of_getElem? (i := 30) rfl)) (nf_sel (hw _ (List.mem_of_getElem? (i := 32) rfl)) rfl) (hw _ (List.mem_of_getElem? (i := 32) rfl)) (hw _ (List.mem_of_getElem? (i := 31) rfl)) (hw _ (List.mem_of_getElem? (i := 4) rfl)) (hw _ (List.mem_of_getElem? (i := 33) rfl)) (by decide) pd_3 rfl rfl (W := 0) (by simp [Value.category]) (by decide) (by decide) (by decide) (by decide) (fun v_94 h_92 q_93 => ?_)
        obtain ⟨rfl, rfl⟩ := q_93
        show G h_53 4 44 (mkF m 139 #[.val (.int sh), .val (.int v0), .val (.int v1), .val (.int jk), .val (.int (0 : Int32)), .val (.int kd0), .val (.int kd1), .val (.int s), .val (.ref a_1), .val (.int z63), .val (.ref o_38), .unset] [(.int (b2 (False)))])
        refine K.ifneB at_139 (pc1 := 142) rfl (by decide) (pc2 := 146) (by decide) (fun c139 => ?_) (fun c139 => ?_)
        · exfalso; exact c139
        · refine K.iconst at_142 (pc' := 143) rfl (z := 1) rfl ?_
          refine K.goto at_143 (by decide) (pc' := 147) (by decide) ?_
          refine K.istore at_147 (pc' := 149) rfl (L' := #[.val (.int sh), .val (.int v0), .val (.int v1), .val (.int jk), .val (.int (0 : Int32)), .val (.int kd0), .val (.int kd1), .val (.int s), .val (.ref a_1), .val (.int z63), .val (.ref o_38), .val (.int (1 : Int32))]) rfl ?_
          refine K.aload at_149 (pc' := 151) rfl rfl rfl ?_
          refine K.callv (z := (⟨"com/example/nestwire/nestwire/codec/EncodingWalker", "next", "()Lcom/example/nestwire/nestwire/codec/RlpWalker$Step;"⟩ : MethodName)) (argsL := []) (rest := []) at_151 (pc' := 154) rfl (c_nC0 l Z a0 hw n0 h_53 (a := o_38) (hd := hd_57) (en := en_58) (eb := a_1) (n := z63) (p := s) (i0 := (0 : Int32)) (l0 := (0 : Int32)) (s0 := (0 : Int32)) (g0 := (0 : Int32)) (e0 := (0 : Int32)) (e1 := (0 : Int32)) (vs := vz) (b := hb0) (cS := cS) f_81 f_62 ge_o_38 f_63 f_64 ne_o_38_hd_57 ne_o_38_en_58 (Ne.symm ne_a_1_o_38) f_65 (Ne.symm ne_a_1_hd_57) (Ne.symm ne_a_1_en_58) f_79 P5 f_66 f_67 f_68 f_69 f_70 f_71 f_72 f_73 f_74 f_75 f_76 f_77 f_78 f_80 hv0 (by omega) (by omega) (by omega)) f_81 (hw _ (List.mem_of_getElem? (i := 36) rfl)) (hw _ (List.mem_of_getElem? (i := 37) rfl)) (nf_sel (hw _ (List.mem_of_getElem? (i := 39) rfl)) rfl) (hw _ (List.mem_of_getElem? (i := 39) rfl)) (hw _ (List.mem_of_getElem? (i := 38) rfl)) (hw _ (List.mem_of_getElem? (i := 4) rfl)) (hw _ (List.mem_of_getElem? (i := 40) rfl)) (by decide) pd_6 rfl rfl (W := 0) (by simp [Value.category]) (by decide) (by decide) (by decide) (by decide) (fun v_98 h_96 q_97 => ?_)
          obtain ⟨pex, eex, s1x, g1x, rfl, K_99, hpe_x, f_100, f_101, f_102, f_103, f_104, f_105, f_106, f_107, f_108, f_109, f_110, f_111, f_112⟩ := q_97
          have f_113 : Old Z n0 h_96 := f_79.keep K_99 (allS ge_o_38 (allS f_63 (allS f_64 all0)))
          have f_114 : Ary Z h_96 a_1 .byte vz := f_80.keep K_99 (ninS ne_a_1_o_38 (ninS ne_a_1_hd_57 (ninS ne_a_1_en_58 nin0)))
          have f_115 : Exa Z h_96 o_38 "com/example/nestwire/nestwire/codec/EncodingWalker" := f_81.keep K_99
          have f_116 : Exa Z h_96 hd_57 "com/example/nestwire/nestwire/codec/Header" := f_62.keep K_99
          have sz_130 : n0 ≤ h_96.size := Nat.le_trans sz_91 K_99.1
          show G h_96 4 44 (mkF m 154 #[.val (.int sh), .val (.int v0), .val (.int v1), .val (.int jk), .val (.int (0 : Int32)), .val (.int kd0), .val (.int kd1), .val (.int s), .val (.ref a_1), .val (.int z63), .val (.ref o_38), .val (.int (1 : Int32))] [(.ref cS)])
          refine K.pop at_154 (pc' := 155) rfl rfl ?_
          refine K.iload at_155 (pc' := 157) rfl rfl ?_
          refine K.if_eq at_157 (pc1 := 160) rfl (by decide) (pc2 := 182) (by decide) (a := 1) rfl (fun c157 => ?_) (fun c157 => ?_)
          · exfalso; omega
          · refine K.aload at_160 (pc' := 162) rfl rfl rfl ?_
            refine K.callv (z := (⟨"com/example/nestwire/nestwire/codec/EncodingWalker", "atListEnd", "()Z"⟩ : MethodName)) (argsL := []) (rest := []) at_162 (pc' := 165) rfl (c_ale1 l Z a0 hw n0 h_96 (a := o_38) (en := en_58) (p := pex) (e0 := eex) (e1 := (0 : Int32)) f_115 f_105 f_104 f_101 f_112) f_115 (hw _ (List.mem_of_getElem? (i := 29) rfl)) (hw _ (List.mem_of_getElem? (i := 30) rfl)) (nf_sel (hw _ (List.mem_of_getElem? (i := 32) rfl)) rfl) (hw _ (List.mem_of_getElem? (i := 32) rfl)) (hw _ (List.mem_of_getElem? (i := 31) rfl)) (hw _ (List.mem_of_getElem? (i := 4) rfl)) (hw _ (List.mem_of_getElem? (i := 33) rfl)) (by decide) pd_3 rfl rfl (W := 0) (by simp [Value.category]) (by decide) (by decide) (by decide) (by decide) (fun v_133 h_131 q_132 => ?_)
            obtain ⟨rfl, rfl⟩ := q_132
            show G h_96 4 44 (mkF m 165 #[.val (.int sh), .val (.int v0), .val (.int v1), .val (.int jk), .val (.int (0 : Int32)), .val (.int kd0), .val (.int kd1), .val (.int s), .val (.ref a_1), .val (.int z63), .val (.ref o_38), .val (.int (1 : Int32))] [(.int (b2 (pex.toInt = eex.toInt)))])
            refine K.iload at_165 (pc' := 167) rfl rfl ?_
            refine K.if_ne at_167 (pc1 := 170) rfl (by decide) (pc2 := 174) (by decide) (a := 0) rfl (fun c167 => ?_) (fun c167 => ?_)
            · exfalso; omega
            · refine K.iconst at_170 (pc' := 171) rfl (z := 1) rfl ?_
              refine K.goto at_171 (by decide) (pc' := 175) (by decide) ?_
              refine K.icmp_ne at_175 (pc1 := 178) rfl (by decide) (pc2 := 182) (by decide) (a := (b2 (pex.toInt = eex.toInt)).toInt) (b := 1) rfl rfl (fun c175 => ?_) (fun c175 => ?_)
              · exfalso; rw [b2_int] at c175; split at c175 <;> omega
              · refine K.iconst at_178 (pc' := 179) rfl (z := 1) rfl ?_
                refine K.goto at_179 (by decide) (pc' := 183) (by decide) ?_
                refine K.istore at_183 (pc' := 185) rfl (L' := #[.val (.int sh), .val (.int v0), .val (.int v1), .val (.int jk), .val (.int (0 : Int32)), .val (.int kd0), .val (.int kd1), .val (.int s), .val (.ref a_1), .val (.int z63), .val (.ref o_38), .val (.int (1 : Int32))]) rfl ?_
                refine K.iload at_185 (pc' := 187) rfl rfl ?_
                refine K.iconst at_187 (pc' := 188) rfl (z := 1) rfl ?_
                refine K.icmp_lt at_188 (pc1 := 191) rfl (by decide) (pc2 := 224) (by decide) (a := 0) (b := 1) rfl rfl (fun c188 => ?_) (fun c188 => ?_)
                · refine K.iload at_224 (pc' := 226) rfl rfl ?_
                  refine K.iconst at_226 (pc' := 227) rfl (z := 2) rfl ?_
                  refine K.icmp_lt at_227 (pc1 := 230) rfl (by decide) (pc2 := 253) (by decide) (a := 0) (b := 2) rfl rfl (fun c227 => ?_) (fun c227 => ?_)
                  · refine K.iload at_253 (pc' := 255) rfl rfl ?_
                    refine K.if_ne at_255 (pc1 := 258) rfl (by decide) (pc2 := 260) (by decide) (a := 1) rfl (fun c255 => ?_) (fun c255 => ?_)
                    · refine K.aload at_260 (pc' := 262) rfl rfl rfl ?_
                      refine K.callv (z := (⟨"com/example/nestwire/nestwire/codec/EncodingWalker", "next", "()Lcom/example/nestwire/nestwire/codec/RlpWalker$Step;"⟩ : MethodName)) (argsL := []) (rest := []) at_262 (pc' := 265) rfl (c_nA1 l Z a0 hw n0 h_96 (a := o_38) (hd := hd_57) (en := en_58) (eb := a_1) (n := z63) (p := pex) (i0 := s) (st0 := (1 : Int32)) (e0 := eex) (e1 := (0 : Int32)) (vs := vz) (cE := cE) f_115 f_116 ge_o_38 f_63 f_64 ne_o_38_hd_57 ne_o_38_en_58 (Ne.symm ne_a_1_o_38) f_65 (Ne.symm ne_a_1_hd_57) (Ne.symm ne_a_1_en_58) f_113 P3 f_100 f_101 f_102 f_103 f_104 f_105 f_106 f_107 f_108 f_112 f_114 (by omega)) f_115 (hw _ (List.mem_of_getElem? (i := 36) rfl)) (hw _ (List.mem_of_getElem? (i := 37) rfl)) (nf_sel (hw _ (List.mem_of_getElem? (i := 39) rfl)) rfl) (hw _ (List.mem_of_getElem? (i := 39) rfl)) (hw _ (List.mem_of_getElem? (i := 38) rfl)) (hw _ (List.mem_of_getElem? (i := 4) rfl)) (hw _ (List.mem_of_getElem? (i := 40) rfl)) (by decide) pd_6 rfl rfl (W := 0) (by simp [Value.category]) (by decide) (by decide) (by decide) (by decide) (fun v_137 h_135 q_136 => ?_)
                      obtain ⟨rfl, K_138, f_139, f_140, f_141, f_142, f_143, f_144, f_145, f_146, f_147⟩ := q_136
                      have f_148 : Old Z n0 h_135 := f_113.keep K_138 (allS ge_o_38 all0)
                      have f_149 : Ary Z h_135 a_1 .byte vz := f_114.keep K_138 (ninS ne_a_1_o_38 nin0)
                      have f_150 : Exa Z h_135 o_38 "com/example/nestwire/nestwire/codec/EncodingWalker" := f_115.keep K_138
                      have f_151 : Exa Z h_135 hd_57 "com/example/nestwire/nestwire/codec/Header" := f_116.keep K_138
                      have f_161 : Fld Z h_135 hd_57 "com/example/nestwire/nestwire/codec/Header" "isList" "Z" (.int (1 : Int32)) := f_109.keep K_138 (ninS (Ne.symm ne_o_38_hd_57) nin0)
                      have f_162 : Fld Z h_135 hd_57 "com/example/nestwire/nestwire/codec/Header" "payloadStart" "I" (.int s1x) := f_110.keep K_138 (ninS (Ne.symm ne_o_38_hd_57) nin0)
                      have f_163 : Fld Z h_135 hd_57 "com/example/nestwire/nestwire/codec/Header" "payloadLength" "I" (.int g1x) := f_111.keep K_138 (ninS (Ne.symm ne_o_38_hd_57) nin0)
                      have f_164 : Ary Z h_135 en_58 .int [(.int eex), (.int (0 : Int32)), (.int (0 : Int32)), (.int (0 : Int32)), (.int (0 : Int32)), (.int (0 : Int32)), (.int (0 : Int32)), (.int (0 : Int32)), (.int (0 : Int32)), (.int (0 : Int32)), (.int (0 : Int32)), (.int (0 : Int32)), (.int (0 : Int32)), (.int (0 : Int32)), (.int (0 : Int32)), (.int (0 : Int32))] := f_112.keep K_138 (ninS (Ne.symm ne_o_38_en_58) nin0)
                      have sz_165 : n0 ≤ h_135.size := Nat.le_trans sz_130 K_138.1
                      show G h_135 4 44 (mkF m 265 #[.val (.int sh), .val (.int v0), .val (.int v1), .val (.int jk), .val (.int (0 : Int32)), .val (.int kd0), .val (.int kd1), .val (.int s), .val (.ref a_1), .val (.int z63), .val (.ref o_38), .val (.int (1 : Int32))] [(.ref cE)])
                      refine K.pop at_265 (pc' := 266) rfl rfl ?_
                      refine K.aload at_266 (pc' := 268) rfl rfl rfl ?_
                      refine K.callv (z := (⟨"com/example/nestwire/nestwire/codec/EncodingWalker", "atListEnd", "()Z"⟩ : MethodName)) (argsL := []) (rest := []) at_268 (pc' := 271) rfl (c_ale0 l Z a0 hw n0 h_135 (a := o_38) (en := en_58) (p := pex) (e0 := eex) (e1 := (0 : Int32)) f_150 f_144 f_143 f_140 f_164) f_150 (hw _ (List.mem_of_getElem? (i := 29) rfl)) (hw _ (List.mem_of_getElem? (i := 30) rfl)) (nf_sel (hw _ (List.mem_of_getElem? (i := 32) rfl)) rfl) (hw _ (List.mem_of_getElem? (i := 32) rfl)) (hw _ (List.mem_of_getElem? (i := 31) rfl)) (hw _ (List.mem_of_getElem? (i := 4) rfl)) (hw _ (List.mem_of_getElem? (i := 33) rfl)) (by decide) pd_3 rfl rfl (W := 0) (by simp [Value.category]) (by decide) (by decide) (by decide) (by decide) (fun v_168 h_166 q_167 => ?_)
                      obtain ⟨rfl, rfl⟩ := q_167
                      show G h_135 4 44 (mkF m 271 #[.val (.int sh), .val (.int v0), .val (.int v1), .val (.int jk), .val (.int (0 : Int32)), .val (.int kd0), .val (.int kd1), .val (.int s), .val (.ref a_1), .val (.int z63), .val (.ref o_38), .val (.int (1 : Int32))] [(.int (b2 (False)))])
                      refine K.ifneB at_271 (pc1 := 274) rfl (by decide) (pc2 := 278) (by decide) (fun c271 => ?_) (fun c271 => ?_)
                      · exfalso; exact c271
                      · refine K.iconst at_274 (pc' := 275) rfl (z := 1) rfl ?_
                        refine K.goto at_275 (by decide) (pc' := 279) (by decide) ?_
                        exact K.retz at_279 (Or.inr rfl) (by decide) (by decide) rfl
                    · exfalso; omega
                  · exfalso; omega
                · exfalso; omega
      · exfalso; omega
    · exfalso; omega
  · refine K.iload at_66 (pc' := 68) rfl rfl ?_
    refine K.iconst at_68 (pc' := 69) rfl (z := 1) rfl ?_
    refine K.icmp_lt at_69 (pc1 := 72) rfl (by decide) (pc2 := 84) (by decide) (a := 1) (b := 1) rfl rfl (fun c69 => ?_) (fun c69 => ?_)
    · exfalso; omega
    · refine K.aload at_72 (pc' := 74) rfl rfl rfl ?_
      refine K.iload at_74 (pc' := 76) rfl rfl ?_
      refine K.iload at_76 (pc' := 78) rfl rfl ?_
      refine K.iloadN at_78 (pc' := 79) rfl rfl ?_
      refine K.calls (argsL := [(.ref a_1), (.int z63), (.int kd0), (.int v0)]) (rest := []) at_79 (pc' := 82) rfl (c_put l Z a0 hw n0 h_22 (eb := a_1) (p := z63) (kd := kd0) (v0 := v0) (vs := vs) A_29 ge_a_1 hl (by omega) (by omega)) (hw _ (List.mem_of_getElem? (i := 96) rfl)) (hw _ (List.mem_of_getElem? (i := 97) rfl)) (hw _ (List.mem_of_getElem? (i := 98) rfl)) (hw _ (List.mem_of_getElem? (i := 99) rfl)) (by decide) pd_8 rfl rfl (W := 0) (by simp [Value.category]) (by decide) (by decide) (by decide) (by decide) (fun v_172 h_170 q_171 => ?_)
      obtain ⟨u0, vs1, sz0, rfl, t_u0, K_173, f_174⟩ := q_171
      have f_175 : Old Z n0 h_170 := f_25.keep K_173 (allS ge_a_1 all0)
      have sz_177 : n0 ≤ h_170.size := Nat.le_trans sz_27 K_173.1
      have q_0 := t_u0.2.1.sz
      have q1_0 := t_u0.1
      have q2_0 := t_u0.2.2.1
      show G h_170 1 16 (mkF m 82 #[.val (.int sh), .val (.int v0), .val (.int v1), .val (.int jk), .val (.int (1 : Int32)), .val (.int kd0), .val (.int kd1), .val (.int s), .val (.ref a_1), .val (.int z63), .unset, .unset] [(.int u0)])
      refine K.istore at_82 (pc' := 84) rfl (L' := #[.val (.int sh), .val (.int v0), .val (.int v1), .val (.int jk), .val (.int (1 : Int32)), .val (.int kd0), .val (.int kd1), .val (.int s), .val (.ref a_1), .val (.int u0), .unset, .unset]) rfl ?_
      refine K.iload at_84 (pc' := 86) rfl rfl ?_
      refine K.iconst at_86 (pc' := 87) rfl (z := 2) rfl ?_
      refine K.icmp_lt at_87 (pc1 := 90) rfl (by decide) (pc2 := 102) (by decide) (a := 1) (b := 2) rfl rfl (fun c87 => ?_) (fun c87 => ?_)
      · refine K.aload at_102 (pc' := 104) rfl rfl rfl ?_
        refine K.iload at_104 (pc' := 106) rfl rfl ?_
        refine K.sipush at_106 (pc' := 109) rfl (z := 192) rfl ?_
        refine K.iload at_109 (pc' := 111) rfl rfl ?_
        refine K.iload at_111 (pc' := 113) rfl rfl ?_
        obtain ⟨z113, e_z113⟩ : ∃ z, u0 - s = z := ⟨_, rfl⟩
        have r_z113 : (z113.toInt - (u0.toInt - s.toInt)) % 4294967296 = 0 := by have q := c_isub u0 s; rw [e_z113] at q; exact q
        have g_z113 := rng32 z113
        have t_z113 : z113.toInt = u0.toInt - s.toInt := by omega
        clear r_z113
        clear g_z113
        refine K.isub at_113 (pc' := 114) rfl e_z113 ?_
        refine K.iconst at_114 (pc' := 115) rfl (z := 1) rfl ?_
        obtain ⟨z115, e_z115⟩ : ∃ z, z113 - (1 : Int32) = z := ⟨_, rfl⟩
        have r_z115 : (z115.toInt - (z113.toInt - 1)) % 4294967296 = 0 := by have q := c_isub z113 (1 : Int32); rw [e_z115] at q; exact q
        have g_z115 := rng32 z115
        have t_z115 : z115.toInt = z113.toInt - 1 := by omega
        clear r_z115
        clear g_z115
        refine K.isub at_115 (pc' := 116) rfl e_z115 ?_
        obtain ⟨z116, e_z116⟩ : ∃ z, (192 : Int32) + z115 = z := ⟨_, rfl⟩
        have r_z116 : (z116.toInt - (192 + z115.toInt)) % 4294967296 = 0 := by have q := c_iadd (192 : Int32) z115; rw [e_z116] at q; exact q
        have g_z116 := rng32 z116
        have t_z116 : z116.toInt = 192 + z115.toInt := by omega
        clear r_z116
        clear g_z116
        refine K.iadd at_116 (pc' := 117) rfl e_z116 ?_
        obtain ⟨hb0, e_hb0⟩ : ∃ z, z116.toInt8.toInt32 = z := ⟨_, rfl⟩
        have r_hb0 : (hb0.toInt - z116.toInt) % 256 = 0 ∧ -128 ≤ hb0.toInt ∧ hb0.toInt < 128 := by have q := c_i2b z116; rw [e_hb0] at q; exact q
        refine K.i2b at_117 (pc' := 118) rfl e_hb0 ?_
        refine K.bast at_118 (pc' := 119) rfl f_174 (i := s.toInt.toNat) (by omega) (by omega) ge_a_1 (fun h_178 W_179 A_180 => ?_)
        rw [show nar .byte hb0 = hb0 from nar_byte_of (by omega)] at W_179 A_180
        have f_181 : Old Z n0 h_178 := f_175.wr W_179 ge_a_1
        have sz_183 : n0 ≤ h_178.size := Nat.le_trans sz_177 (Keep.of_wr W_179).1
        have A_184 : Ary Z h_178 a_1 .byte ((vs1).set (s.toInt.toNat) (.int hb0)) := A_180
        obtain ⟨vz, hvz⟩ : ∃ vz : List Value, vz = (vs1).set (s.toInt.toNat) (.int hb0) := ⟨_, rfl⟩
        have A_185 : Ary Z h_178 a_1 .byte vz := hvz ▸ A_184
        have hv0 : vz[s.toInt.toNat]? = some (.int hb0) := by rw [hvz]; exact List.getElem?_set_self (by omega)
        have I0 : Itm vz z63.toInt.toNat kd0.toInt sz0 := t_u0.2.1.same fun j q1 q2 => by rw [hvz]; exact List.getElem?_set_ne (by omega)
        refine K.newo at_119 (pc' := 122) rfl (hw _ (List.mem_of_getElem? (i := 2) rfl)) (hw _ (List.mem_of_getElem? (i := 3) rfl)) (hw _ (List.mem_of_getElem? (i := 4) rfl)) (by decide) (by decide) (fun h_187 o_186 g_o_186 E_188 x_o_186 D_o_186 => ?_)
        have ne_a_1_o_186 : a_1 ≠ o_186 := Nat.ne_of_lt (g_o_186 ▸ A_185.lt)
        have ge_o_186 : n0 ≤ o_186 := g_o_186 ▸ sz_183
        have f_189 : Old Z n0 h_187 := f_181.ext E_188
        have f_190 : Ary Z h_187 a_1 .byte vz := A_185.ext E_188
        have sz_191 : n0 ≤ h_187.size := Nat.le_trans sz_183 E_188.1
        have f_192 : Fld Z h_187 o_186 "com/example/nestwire/nestwire/codec/EncodingWalker" "header" "Lcom/example/nestwire/nestwire/codec/Header;" .null := D_o_186 (Or.inr (hw _ (List.mem_of_getElem? (i := 19) rfl))) (ty := (.object "com/example/nestwire/nestwire/codec/Header")) (by decide)
        have f_193 : Fld Z h_187 o_186 "com/example/nestwire/nestwire/codec/EncodingWalker" "ends" "[I" .null := D_o_186 (Or.inl (hw _ (List.mem_of_getElem? (i := 22) rfl))) (ty := (.array .int)) (by decide)
        have f_194 : Fld Z h_187 o_186 "com/example/nestwire/nestwire/codec/EncodingWalker" "encoding" "[B" .null := D_o_186 (Or.inr (hw _ (List.mem_of_getElem? (i := 24) rfl))) (ty := (.array .byte)) (by decide)
        have f_195 : Fld Z h_187 o_186 "com/example/nestwire/nestwire/codec/EncodingWalker" "end" "I" (.int (0 : Int32)) := D_o_186 (Or.inr (hw _ (List.mem_of_getElem? (i := 26) rfl))) (ty := .int) (by decide)
        have f_196 : Fld Z h_187 o_186 "com/example/nestwire/nestwire/codec/EncodingWalker" "position" "I" (.int (0 : Int32)) := D_o_186 (Or.inl (hw _ (List.mem_of_getElem? (i := 28) rfl))) (ty := .int) (by decide)
        have f_197 : Fld Z h_187 o_186 "com/example/nestwire/nestwire/codec/EncodingWalker" "depth" "I" (.int (0 : Int32)) := D_o_186 (Or.inl (hw _ (List.mem_of_getElem? (i := 35) rfl))) (ty := .int) (by decide)
        have f_198 : Fld Z h_187 o_186 "com/example/nestwire/nestwire/codec/EncodingWalker" "peeked" "Z" (.int (0 : Int32)) := D_o_186 (Or.inl (hw _ (List.mem_of_getElem? (i := 43) rfl))) (ty := .boolean) (by decide)
        have f_199 : Fld Z h_187 o_186 "com/example/nestwire/nestwire/codec/EncodingWalker" "started" "Z" (.int (0 : Int32)) := D_o_186 (Or.inl (hw _ (List.mem_of_getElem? (i := 49) rfl))) (ty := .boolean) (by decide)
        have f_200 : Fld Z h_187 o_186 "com/example/nestwire/nestwire/codec/EncodingWalker" "itemStart" "I" (.int (0 : Int32)) := D_o_186 (Or.inl (hw _ (List.mem_of_getElem? (i := 75) rfl))) (ty := .int) (by decide)
        refine K.dup at_122 (pc' := 123) rfl rfl ?_
        refine K.aload at_123 (pc' := 125) rfl rfl rfl ?_
        refine K.iload at_125 (pc' := 127) rfl rfl ?_
        refine K.iload at_127 (pc' := 129) rfl rfl ?_
        refine K.callc (argsL := [(.ref a_1), (.int s), (.int u0)]) (rest := [(.ref o_186)]) at_129 (pc' := 132) rfl rfl (c_new l Z a0 hw n0 h_187 (a := o_186) (eb := a_1) (p := s) (n := u0) (vs := vz) x_o_186 sz_191 ge_o_186 (Ne.symm ne_a_1_o_186) f_190 f_192 f_193 f_194 f_195 f_196 f_197 f_199 f_198 f_200) (hw _ (List.mem_of_getElem? (i := 5) rfl)) (hw _ (List.mem_of_getElem? (i := 6) rfl)) (hw _ (List.mem_of_getElem? (i := 4) rfl)) (hw _ (List.mem_of_getElem? (i := 7) rfl)) (by decide) pd_7 rfl rfl (W := 1) (by simp [Value.category]) (by decide) (by decide) (by decide) (by decide) (fun v_203 h_201 q_202 => ?_)
        obtain ⟨hd_205, en_206, rfl, K_207, f_208, f_209, f_210, f_211, f_212, f_213, f_214, f_215, f_216, f_217, f_218, f_219, f_220, f_221, f_222, f_223, f_224, f_225, f_226⟩ := q_202
        have ne_a_1_hd_205 : a_1 ≠ hd_205 := Nat.ne_of_lt (Nat.lt_of_lt_of_le f_190.lt f_208)
        have ne_o_186_hd_205 : o_186 ≠ hd_205 := Nat.ne_of_lt (Nat.lt_of_lt_of_le x_o_186.lt f_208)
        have ne_a_1_en_206 : a_1 ≠ en_206 := Nat.ne_of_lt (Nat.lt_of_lt_of_le f_190.lt f_209)
        have ne_o_186_en_206 : o_186 ≠ en_206 := Nat.ne_of_lt (Nat.lt_of_lt_of_le x_o_186.lt f_209)
        have f_227 : Old Z n0 h_201 := f_189.keep K_207 (allS ge_o_186 all0)
        have f_228 : Ary Z h_201 a_1 .byte vz := f_190.keep K_207 (ninS ne_a_1_o_186 nin0)
        have f_229 : Exa Z h_201 o_186 "com/example/nestwire/nestwire/codec/EncodingWalker" := x_o_186.keep K_207
        have sz_239 : n0 ≤ h_201.size := Nat.le_trans sz_191 K_207.1
        show G h_201 4 44 (mkF m 132 #[.val (.int sh), .val (.int v0), .val (.int v1), .val (.int jk), .val (.int (1 : Int32)), .val (.int kd0), .val (.int kd1), .val (.int s), .val (.ref a_1), .val (.int u0), .unset, .unset] [(.ref o_186)])
        refine K.astore at_132 (pc' := 134) rfl rfl (L' := #[.val (.int sh), .val (.int v0), .val (.int v1), .val (.int jk), .val (.int (1 : Int32)), .val (.int kd0), .val (.int kd1), .val (.int s), .val (.ref a_1), .val (.int u0), .val (.ref o_186), .unset]) rfl ?_
        refine K.aload at_134 (pc' := 136) rfl rfl rfl ?_
        refine K.callv (z := (⟨"com/example/nestwire/nestwire/codec/EncodingWalker", "atListEnd", "()Z"⟩ : MethodName)) (argsL := []) (rest := []) at_136 (pc' := 139) rfl (c_ale0 l Z a0 hw n0 h_201 (a := o_186) (en := en_206) (p := s) (e0 := (0 : Int32)) (e1 := (0 : Int32)) f_229 f_219 f_218 f_215 f_226) f_229 (hw _ (List.mem_of_getElem? (i := 29) rfl)) (hw _ (List.mem_of_getElem? (i := 30) rfl)) (nf_sel (hw _ (List.mem_of_getElem? (i := 32) rfl)) rfl) (hw _ (List.mem_of_getElem? (i := 32) rfl)) (hw _ (List.mem_of_getElem? (i := 31) rfl)) (hw _ (List.mem_of_getElem? (i := 4) rfl)) (hw _ (List.mem_of_getElem? (i := 33) rfl)) (by decide) pd_3 rfl rfl (W := 0) (by simp [Value.category]) (by decide) (by decide) (by decide) (by decide) (fun v_242 h_240 q_241 => ?_)
        obtain ⟨rfl, rfl⟩ := q_241
        show G h_201 4 44 (mkF m 139 #[.val (.int sh), .val (.int v0), .val (.int v1), .val (.int jk), .val (.int (1 : Int32)), .val (.int kd0), .val (.int kd1), .val (.int s), .val (.ref a_1), .val (.int u0), .val (.ref o_186), .unset] [(.int (b2 (False)))])
        refine K.ifneB at_139 (pc1 := 142) rfl (by decide) (pc2 := 146) (by decide) (fun c139 => ?_) (fun c139 => ?_)
        · exfalso; exact c139
        · refine K.iconst at_142 (pc' := 143) rfl (z := 1) rfl ?_
          refine K.goto at_143 (by decide) (pc' := 147) (by decide) ?_
          refine K.istore at_147 (pc' := 149) rfl (L' := #[.val (.int sh), .val (.int v0), .val (.int v1), .val (.int jk), .val (.int (1 : Int32)), .val (.int kd0), .val (.int kd1), .val (.int s), .val (.ref a_1), .val (.int u0), .val (.ref o_186), .val (.int (1 : Int32))]) rfl ?_
          refine K.aload at_149 (pc' := 151) rfl rfl rfl ?_
          refine K.callv (z := (⟨"com/example/nestwire/nestwire/codec/EncodingWalker", "next", "()Lcom/example/nestwire/nestwire/codec/RlpWalker$Step;"⟩ : MethodName)) (argsL := []) (rest := []) at_151 (pc' := 154) rfl (c_nC0 l Z a0 hw n0 h_201 (a := o_186) (hd := hd_205) (en := en_206) (eb := a_1) (n := u0) (p := s) (i0 := (0 : Int32)) (l0 := (0 : Int32)) (s0 := (0 : Int32)) (g0 := (0 : Int32)) (e0 := (0 : Int32)) (e1 := (0 : Int32)) (vs := vz) (b := hb0) (cS := cS) f_229 f_210 ge_o_186 f_211 f_212 ne_o_186_hd_205 ne_o_186_en_206 (Ne.symm ne_a_1_o_186) f_213 (Ne.symm ne_a_1_hd_205) (Ne.symm ne_a_1_en_206) f_227 P5 f_214 f_215 f_216 f_217 f_218 f_219 f_220 f_221 f_222 f_223 f_224 f_225 f_226 f_228 hv0 (by omega) (by omega) (by omega)) f_229 (hw _ (List.mem_of_getElem? (i := 36) rfl)) (hw _ (List.mem_of_getElem? (i := 37) rfl)) (nf_sel (hw _ (List.mem_of_getElem? (i := 39) rfl)) rfl) (hw _ (List.mem_of_getElem? (i := 39) rfl)) (hw _ (List.mem_of_getElem? (i := 38) rfl)) (hw _ (List.mem_of_getElem? (i := 4) rfl)) (hw _ (List.mem_of_getElem? (i := 40) rfl)) (by decide) pd_6 rfl rfl (W := 0) (by simp [Value.category]) (by decide) (by decide) (by decide) (by decide) (fun v_246 h_244 q_245 => ?_)
          obtain ⟨pex, eex, s1x, g1x, rfl, K_247, hpe_x, f_248, f_249, f_250, f_251, f_252, f_253, f_254, f_255, f_256, f_257, f_258, f_259, f_260⟩ := q_245
          have f_261 : Old Z n0 h_244 := f_227.keep K_247 (allS ge_o_186 (allS f_211 (allS f_212 all0)))
          have f_262 : Ary Z h_244 a_1 .byte vz := f_228.keep K_247 (ninS ne_a_1_o_186 (ninS ne_a_1_hd_205 (ninS ne_a_1_en_206 nin0)))
          have f_263 : Exa Z h_244 o_186 "com/example/nestwire/nestwire/codec/EncodingWalker" := f_229.keep K_247
          have f_264 : Exa Z h_244 hd_205 "com/example/nestwire/nestwire/codec/Header" := f_210.keep K_247
          have sz_278 : n0 ≤ h_244.size := Nat.le_trans sz_239 K_247.1
          show G h_244 4 44 (mkF m 154 #[.val (.int sh), .val (.int v0), .val (.int v1), .val (.int jk), .val (.int (1 : Int32)), .val (.int kd0), .val (.int kd1), .val (.int s), .val (.ref a_1), .val (.int u0), .val (.ref o_186), .val (.int (1 : Int32))] [(.ref cS)])
          refine K.pop at_154 (pc' := 155) rfl rfl ?_
          refine K.iload at_155 (pc' := 157) rfl rfl ?_
          refine K.if_eq at_157 (pc1 := 160) rfl (by decide) (pc2 := 182) (by decide) (a := 1) rfl (fun c157 => ?_) (fun c157 => ?_)
          · exfalso; omega
          · refine K.aload at_160 (pc' := 162) rfl rfl rfl ?_
            refine K.callv (z := (⟨"com/example/nestwire/nestwire/codec/EncodingWalker", "atListEnd", "()Z"⟩ : MethodName)) (argsL := []) (rest := []) at_162 (pc' := 165) rfl (c_ale1 l Z a0 hw n0 h_244 (a := o_186) (en := en_206) (p := pex) (e0 := eex) (e1 := (0 : Int32)) f_263 f_253 f_252 f_249 f_260) f_263 (hw _ (List.mem_of_getElem? (i := 29) rfl)) (hw _ (List.mem_of_getElem? (i := 30) rfl)) (nf_sel (hw _ (List.mem_of_getElem? (i := 32) rfl)) rfl) (hw _ (List.mem_of_getElem? (i := 32) rfl)) (hw _ (List.mem_of_getElem? (i := 31) rfl)) (hw _ (List.mem_of_getElem? (i := 4) rfl)) (hw _ (List.mem_of_getElem? (i := 33) rfl)) (by decide) pd_3 rfl rfl (W := 0) (by simp [Value.category]) (by decide) (by decide) (by decide) (by decide) (fun v_281 h_279 q_280 => ?_)
            obtain ⟨rfl, rfl⟩ := q_280
            show G h_244 4 44 (mkF m 165 #[.val (.int sh), .val (.int v0), .val (.int v1), .val (.int jk), .val (.int (1 : Int32)), .val (.int kd0), .val (.int kd1), .val (.int s), .val (.ref a_1), .val (.int u0), .val (.ref o_186), .val (.int (1 : Int32))] [(.int (b2 (pex.toInt = eex.toInt)))])
            refine K.iload at_165 (pc' := 167) rfl rfl ?_
            refine K.if_ne at_167 (pc1 := 170) rfl (by decide) (pc2 := 174) (by decide) (a := 1) rfl (fun c167 => ?_) (fun c167 => ?_)
            · refine K.iconst at_174 (pc' := 175) rfl (z := 0) rfl ?_
              refine K.icmp_ne at_175 (pc1 := 178) rfl (by decide) (pc2 := 182) (by decide) (a := (b2 (pex.toInt = eex.toInt)).toInt) (b := 0) rfl rfl (fun c175 => ?_) (fun c175 => ?_)
              · exfalso; rw [b2_int] at c175; split at c175 <;> omega
              · refine K.iconst at_178 (pc' := 179) rfl (z := 1) rfl ?_
                refine K.goto at_179 (by decide) (pc' := 183) (by decide) ?_
                refine K.istore at_183 (pc' := 185) rfl (L' := #[.val (.int sh), .val (.int v0), .val (.int v1), .val (.int jk), .val (.int (1 : Int32)), .val (.int kd0), .val (.int kd1), .val (.int s), .val (.ref a_1), .val (.int u0), .val (.ref o_186), .val (.int (1 : Int32))]) rfl ?_
                refine K.iload at_185 (pc' := 187) rfl rfl ?_
                refine K.iconst at_187 (pc' := 188) rfl (z := 1) rfl ?_
                refine K.icmp_lt at_188 (pc1 := 191) rfl (by decide) (pc2 := 224) (by decide) (a := 1) (b := 1) rfl rfl (fun c188 => ?_) (fun c188 => ?_)
                · exfalso; omega
                · refine K.iload at_191 (pc' := 193) rfl rfl ?_
                  refine K.if_eq at_193 (pc1 := 196) rfl (by decide) (pc2 := 221) (by decide) (a := 1) rfl (fun c193 => ?_) (fun c193 => ?_)
                  · exfalso; omega
                  · refine K.aload at_196 (pc' := 198) rfl rfl rfl ?_
                    refine K.iload at_198 (pc' := 200) rfl rfl ?_
                    refine K.iload at_200 (pc' := 202) rfl rfl ?_
                    refine K.iconst at_202 (pc' := 203) rfl (z := 1) rfl ?_
                    refine K.icmp_ne at_203 (pc1 := 206) rfl (by decide) (pc2 := 210) (by decide) (a := 1) (b := 1) rfl rfl (fun c203 => ?_) (fun c203 => ?_)
                    · exfalso; omega
                    · refine K.iconst at_206 (pc' := 207) rfl (z := 1) rfl ?_
                      refine K.goto at_207 (by decide) (pc' := 211) (by decide) ?_
                      refine K.calls (argsL := [(.ref o_186), (.int kd0), (.int (1 : Int32))]) (rest := []) at_211 (pc' := 214) rfl (c_item l Z a0 hw n0 h_244 (a := o_186) (hd := hd_205) (en := en_206) (eb := a_1) (n := u0) (p := pex) (i0 := s) (st0 := (1 : Int32)) (l0 := (1 : Int32)) (s0 := s1x) (g0 := g1x) (e0 := eex) (e1 := (0 : Int32)) (vs := vz) (kd := kd0) (lt := (1 : Int32)) (sz := sz0) (cE := cE) (cB := cB) (cS := cS) f_263 f_264 ge_o_186 f_211 f_212 ne_o_186_hd_205 ne_o_186_en_206 (Ne.symm ne_a_1_o_186) f_213 (Ne.symm ne_a_1_hd_205) (Ne.symm ne_a_1_en_206) f_261 P3 P4 P5 f_248 f_249 f_250 f_251 f_252 f_253 f_254 f_255 f_256 f_257 f_258 f_259 f_260 f_262 (by rw [show pex.toInt.toNat = z63.toInt.toNat from by omega]; exact I0) (by omega) (by omega) (by decide)) (hw _ (List.mem_of_getElem? (i := 100) rfl)) (hw _ (List.mem_of_getElem? (i := 101) rfl)) (hw _ (List.mem_of_getElem? (i := 98) rfl)) (hw _ (List.mem_of_getElem? (i := 102) rfl)) (by decide) pd_9 rfl rfl (W := 0) (by simp [Value.category]) (by decide) (by decide) (by decide) (by decide) (fun v_285 h_283 q_284 => ?_)
                      obtain ⟨pi0, ii0, li0, si0, gi0, fi0, rfl, K_286, hpe_i0, f_287, f_288, f_289, f_290, f_291, f_292, f_293, f_294, f_295, f_296, f_297, f_298, f_299⟩ := q_284
                      have f_300 : Old Z n0 h_283 := f_261.keep K_286 (allS ge_o_186 (allS f_211 (allS f_212 all0)))
                      have f_301 : Ary Z h_283 a_1 .byte vz := f_262.keep K_286 (ninS ne_a_1_o_186 (ninS ne_a_1_hd_205 (ninS ne_a_1_en_206 nin0)))
                      have f_302 : Exa Z h_283 o_186 "com/example/nestwire/nestwire/codec/EncodingWalker" := f_263.keep K_286
                      have f_303 : Exa Z h_283 hd_205 "com/example/nestwire/nestwire/codec/Header" := f_264.keep K_286
                      have sz_317 : n0 ≤ h_283.size := Nat.le_trans sz_278 K_286.1
                      show G h_283 4 44 (mkF m 214 #[.val (.int sh), .val (.int v0), .val (.int v1), .val (.int jk), .val (.int (1 : Int32)), .val (.int kd0), .val (.int kd1), .val (.int s), .val (.ref a_1), .val (.int u0), .val (.ref o_186), .val (.int (1 : Int32))] [(.int (b2 (pex.toInt + sz0 = eex.toInt ↔ 1 ≠ 0)))])
                      refine K.ifeqB at_214 (pc1 := 217) rfl (by decide) (pc2 := 221) (by decide) (fun c214 => ?_) (fun c214 => ?_)
                      · exfalso; omega
                      · refine K.iconst at_217 (pc' := 218) rfl (z := 1) rfl ?_
                        refine K.goto at_218 (by decide) (pc' := 222) (by decide) ?_
                        refine K.istore at_222 (pc' := 224) rfl (L' := #[.val (.int sh), .val (.int v0), .val (.int v1), .val (.int jk), .val (.int (1 : Int32)), .val (.int kd0), .val (.int kd1), .val (.int s), .val (.ref a_1), .val (.int u0), .val (.ref o_186), .val (.int (1 : Int32))]) rfl ?_
                        refine K.iload at_224 (pc' := 226) rfl rfl ?_
                        refine K.iconst at_226 (pc' := 227) rfl (z := 2) rfl ?_
                        refine K.icmp_lt at_227 (pc1 := 230) rfl (by decide) (pc2 := 253) (by decide) (a := 1) (b := 2) rfl rfl (fun c227 => ?_) (fun c227 => ?_)
                        · refine K.iload at_253 (pc' := 255) rfl rfl ?_
                          refine K.if_ne at_255 (pc1 := 258) rfl (by decide) (pc2 := 260) (by decide) (a := 1) rfl (fun c255 => ?_) (fun c255 => ?_)
                          · refine K.aload at_260 (pc' := 262) rfl rfl rfl ?_
                            refine K.callv (z := (⟨"com/example/nestwire/nestwire/codec/EncodingWalker", "next", "()Lcom/example/nestwire/nestwire/codec/RlpWalker$Step;"⟩ : MethodName)) (argsL := []) (rest := []) at_262 (pc' := 265) rfl (c_nA1 l Z a0 hw n0 h_283 (a := o_186) (hd := hd_205) (en := en_206) (eb := a_1) (n := u0) (p := pi0) (i0 := ii0) (st0 := (1 : Int32)) (e0 := eex) (e1 := fi0) (vs := vz) (cE := cE) f_302 f_303 ge_o_186 f_211 f_212 ne_o_186_hd_205 ne_o_186_en_206 (Ne.symm ne_a_1_o_186) f_213 (Ne.symm ne_a_1_hd_205) (Ne.symm ne_a_1_en_206) f_300 P3 f_287 f_288 f_289 f_290 f_291 f_292 f_293 f_294 f_295 f_299 f_301 (by omega)) f_302 (hw _ (List.mem_of_getElem? (i := 36) rfl)) (hw _ (List.mem_of_getElem? (i := 37) rfl)) (nf_sel (hw _ (List.mem_of_getElem? (i := 39) rfl)) rfl) (hw _ (List.mem_of_getElem? (i := 39) rfl)) (hw _ (List.mem_of_getElem? (i := 38) rfl)) (hw _ (List.mem_of_getElem? (i := 4) rfl)) (hw _ (List.mem_of_getElem? (i := 40) rfl)) (by decide) pd_6 rfl rfl (W := 0) (by simp [Value.category]) (by decide) (by decide) (by decide) (by decide) (fun v_320 h_318 q_319 => ?_)
                            obtain ⟨rfl, K_321, f_322, f_323, f_324, f_325, f_326, f_327, f_328, f_329, f_330⟩ := q_319
                            have f_331 : Old Z n0 h_318 := f_300.keep K_321 (allS ge_o_186 all0)
                            have f_332 : Ary Z h_318 a_1 .byte vz := f_301.keep K_321 (ninS ne_a_1_o_186 nin0)
                            have f_333 : Exa Z h_318 o_186 "com/example/nestwire/nestwire/codec/EncodingWalker" := f_302.keep K_321
                            have f_334 : Exa Z h_318 hd_205 "com/example/nestwire/nestwire/codec/Header" := f_303.keep K_321
                            have f_344 : Fld Z h_318 hd_205 "com/example/nestwire/nestwire/codec/Header" "isList" "Z" (.int li0) := f_296.keep K_321 (ninS (Ne.symm ne_o_186_hd_205) nin0)
                            have f_345 : Fld Z h_318 hd_205 "com/example/nestwire/nestwire/codec/Header" "payloadStart" "I" (.int si0) := f_297.keep K_321 (ninS (Ne.symm ne_o_186_hd_205) nin0)
                            have f_346 : Fld Z h_318 hd_205 "com/example/nestwire/nestwire/codec/Header" "payloadLength" "I" (.int gi0) := f_298.keep K_321 (ninS (Ne.symm ne_o_186_hd_205) nin0)
                            have f_347 : Ary Z h_318 en_206 .int [(.int eex), (.int fi0), (.int (0 : Int32)), (.int (0 : Int32)), (.int (0 : Int32)), (.int (0 : Int32)), (.int (0 : Int32)), (.int (0 : Int32)), (.int (0 : Int32)), (.int (0 : Int32)), (.int (0 : Int32)), (.int (0 : Int32)), (.int (0 : Int32)), (.int (0 : Int32)), (.int (0 : Int32)), (.int (0 : Int32))] := f_299.keep K_321 (ninS (Ne.symm ne_o_186_en_206) nin0)
                            have sz_348 : n0 ≤ h_318.size := Nat.le_trans sz_317 K_321.1
                            show G h_318 4 44 (mkF m 265 #[.val (.int sh), .val (.int v0), .val (.int v1), .val (.int jk), .val (.int (1 : Int32)), .val (.int kd0), .val (.int kd1), .val (.int s), .val (.ref a_1), .val (.int u0), .val (.ref o_186), .val (.int (1 : Int32))] [(.ref cE)])
                            refine K.pop at_265 (pc' := 266) rfl rfl ?_
                            refine K.aload at_266 (pc' := 268) rfl rfl rfl ?_
                            refine K.callv (z := (⟨"com/example/nestwire/nestwire/codec/EncodingWalker", "atListEnd", "()Z"⟩ : MethodName)) (argsL := []) (rest := []) at_268 (pc' := 271) rfl (c_ale0 l Z a0 hw n0 h_318 (a := o_186) (en := en_206) (p := pi0) (e0 := eex) (e1 := fi0) f_333 f_327 f_326 f_323 f_347) f_333 (hw _ (List.mem_of_getElem? (i := 29) rfl)) (hw _ (List.mem_of_getElem? (i := 30) rfl)) (nf_sel (hw _ (List.mem_of_getElem? (i := 32) rfl)) rfl) (hw _ (List.mem_of_getElem? (i := 32) rfl)) (hw _ (List.mem_of_getElem? (i := 31) rfl)) (hw _ (List.mem_of_getElem? (i := 4) rfl)) (hw _ (List.mem_of_getElem? (i := 33) rfl)) (by decide) pd_3 rfl rfl (W := 0) (by simp [Value.category]) (by decide) (by decide) (by decide) (by decide) (fun v_351 h_349 q_350 => ?_)
                            obtain ⟨rfl, rfl⟩ := q_350
                            show G h_318 4 44 (mkF m 271 #[.val (.int sh), .val (.int v0), .val (.int v1), .val (.int jk), .val (.int (1 : Int32)), .val (.int kd0), .val (.int kd1), .val (.int s), .val (.ref a_1), .val (.int u0), .val (.ref o_186), .val (.int (1 : Int32))] [(.int (b2 (False)))])
                            refine K.ifneB at_271 (pc1 := 274) rfl (by decide) (pc2 := 278) (by decide) (fun c271 => ?_) (fun c271 => ?_)
                            · exfalso; exact c271
                            · refine K.iconst at_274 (pc' := 275) rfl (z := 1) rfl ?_
                              refine K.goto at_275 (by decide) (pc' := 279) (by decide) ?_
                              exact K.retz at_279 (Or.inr rfl) (by decide) (by decide) rfl
                          · exfalso; omega
                        · exfalso; omega
            · exfalso; omega
      · exfalso; omega
  · refine K.iload at_66 (pc' := 68) rfl rfl ?_
    refine K.iconst at_68 (pc' := 69) rfl (z := 1) rfl ?_
    refine K.icmp_lt at_69 (pc1 := 72) rfl (by decide) (pc2 := 84) (by decide) (a := 2) (b := 1) rfl rfl (fun c69 => ?_) (fun c69 => ?_)
    · exfalso; omega
    · refine K.aload at_72 (pc' := 74) rfl rfl rfl ?_
      refine K.iload at_74 (pc' := 76) rfl rfl ?_
      refine K.iload at_76 (pc' := 78) rfl rfl ?_
      refine K.iloadN at_78 (pc' := 79) rfl rfl ?_
      refine K.calls (argsL := [(.ref a_1), (.int z63), (.int kd0), (.int v0)]) (rest := []) at_79 (pc' := 82) rfl (c_put l Z a0 hw n0 h_22 (eb := a_1) (p := z63) (kd := kd0) (v0 := v0) (vs := vs) A_29 ge_a_1 hl (by omega) (by omega)) (hw _ (List.mem_of_getElem? (i := 96) rfl)) (hw _ (List.mem_of_getElem? (i := 97) rfl)) (hw _ (List.mem_of_getElem? (i := 98) rfl)) (hw _ (List.mem_of_getElem? (i := 99) rfl)) (by decide) pd_8 rfl rfl (W := 0) (by simp [Value.category]) (by decide) (by decide) (by decide) (by decide) (fun v_355 h_353 q_354 => ?_)
      obtain ⟨u0, vs1, sz0, rfl, t_u0, K_356, f_357⟩ := q_354
      have f_358 : Old Z n0 h_353 := f_25.keep K_356 (allS ge_a_1 all0)
      have sz_360 : n0 ≤ h_353.size := Nat.le_trans sz_27 K_356.1
      have q_0 := t_u0.2.1.sz
      have q1_0 := t_u0.1
      have q2_0 := t_u0.2.2.1
      show G h_353 1 16 (mkF m 82 #[.val (.int sh), .val (.int v0), .val (.int v1), .val (.int jk), .val (.int (2 : Int32)), .val (.int kd0), .val (.int kd1), .val (.int s), .val (.ref a_1), .val (.int z63), .unset, .unset] [(.int u0)])
      refine K.istore at_82 (pc' := 84) rfl (L' := #[.val (.int sh), .val (.int v0), .val (.int v1), .val (.int jk), .val (.int (2 : Int32)), .val (.int kd0), .val (.int kd1), .val (.int s), .val (.ref a_1), .val (.int u0), .unset, .unset]) rfl ?_
      refine K.iload at_84 (pc' := 86) rfl rfl ?_
      refine K.iconst at_86 (pc' := 87) rfl (z := 2) rfl ?_
      refine K.icmp_lt at_87 (pc1 := 90) rfl (by decide) (pc2 := 102) (by decide) (a := 2) (b := 2) rfl rfl (fun c87 => ?_) (fun c87 => ?_)
      · exfalso; omega
      · refine K.aload at_90 (pc' := 92) rfl rfl rfl ?_
        refine K.iload at_92 (pc' := 94) rfl rfl ?_
        refine K.iload at_94 (pc' := 96) rfl rfl ?_
        refine K.iloadN at_96 (pc' := 97) rfl rfl ?_
        refine K.calls (argsL := [(.ref a_1), (.int u0), (.int kd1), (.int v1)]) (rest := []) at_97 (pc' := 100) rfl (c_put l Z a0 hw n0 h_353 (eb := a_1) (p := u0) (kd := kd1) (v0 := v1) (vs := vs1) f_357 ge_a_1 t_u0.2.2.1 (by omega) (by omega)) (hw _ (List.mem_of_getElem? (i := 96) rfl)) (hw _ (List.mem_of_getElem? (i := 97) rfl)) (hw _ (List.mem_of_getElem? (i := 98) rfl)) (hw _ (List.mem_of_getElem? (i := 99) rfl)) (by decide) pd_8 rfl rfl (W := 0) (by simp [Value.category]) (by decide) (by decide) (by decide) (by decide) (fun v_363 h_361 q_362 => ?_)
        obtain ⟨u1, vs2, sz1, rfl, t_u1, K_364, f_365⟩ := q_362
        have f_366 : Old Z n0 h_361 := f_358.keep K_364 (allS ge_a_1 all0)
        have sz_368 : n0 ≤ h_361.size := Nat.le_trans sz_360 K_364.1
        have q_1 := t_u1.2.1.sz
        have q1_1 := t_u1.1
        have q2_1 := t_u1.2.2.1
        show G h_361 1 16 (mkF m 100 #[.val (.int sh), .val (.int v0), .val (.int v1), .val (.int jk), .val (.int (2 : Int32)), .val (.int kd0), .val (.int kd1), .val (.int s), .val (.ref a_1), .val (.int u0), .unset, .unset] [(.int u1)])
        refine K.istore at_100 (pc' := 102) rfl (L' := #[.val (.int sh), .val (.int v0), .val (.int v1), .val (.int jk), .val (.int (2 : Int32)), .val (.int kd0), .val (.int kd1), .val (.int s), .val (.ref a_1), .val (.int u1), .unset, .unset]) rfl ?_
        refine K.aload at_102 (pc' := 104) rfl rfl rfl ?_
        refine K.iload at_104 (pc' := 106) rfl rfl ?_
        refine K.sipush at_106 (pc' := 109) rfl (z := 192) rfl ?_
        refine K.iload at_109 (pc' := 111) rfl rfl ?_
        refine K.iload at_111 (pc' := 113) rfl rfl ?_
        obtain ⟨z113, e_z113⟩ : ∃ z, u1 - s = z := ⟨_, rfl⟩
        have r_z113 : (z113.toInt - (u1.toInt - s.toInt)) % 4294967296 = 0 := by have q := c_isub u1 s; rw [e_z113] at q; exact q
        have g_z113 := rng32 z113
        have t_z113 : z113.toInt = u1.toInt - s.toInt := by omega
        clear r_z113
        clear g_z113
        refine K.isub at_113 (pc' := 114) rfl e_z113 ?_
        refine K.iconst at_114 (pc' := 115) rfl (z := 1) rfl ?_
        obtain ⟨z115, e_z115⟩ : ∃ z, z113 - (1 : Int32) = z := ⟨_, rfl⟩
        have r_z115 : (z115.toInt - (z113.toInt - 1)) % 4294967296 = 0 := by have q := c_isub z113 (1 : Int32); rw [e_z115] at q; exact q
        have g_z115 := rng32 z115
        have t_z115 : z115.toInt = z113.toInt - 1 := by omega
        clear r_z115
        clear g_z115
        refine K.isub at_115 (pc' := 116) rfl e_z115 ?_
        obtain ⟨z116, e_z116⟩ : ∃ z, (192 : Int32) + z115 = z := ⟨_, rfl⟩
        have r_z116 : (z116.toInt - (192 + z115.toInt)) % 4294967296 = 0 := by have q := c_iadd (192 : Int32) z115; rw [e_z116] at q; exact q
        have g_z116 := rng32 z116
        have t_z116 : z116.toInt = 192 + z115.toInt := by omega
        clear r_z116
        clear g_z116
        refine K.iadd at_116 (pc' := 117) rfl e_z116 ?_
        obtain ⟨hb0, e_hb0⟩ : ∃ z, z116.toInt8.toInt32 = z := ⟨_, rfl⟩
        have r_hb0 : (hb0.toInt - z116.toInt) % 256 = 0 ∧ -128 ≤ hb0.toInt ∧ hb0.toInt < 128 := by have q := c_i2b z116; rw [e_hb0] at q; exact q
        refine K.i2b at_117 (pc' := 118) rfl e_hb0 ?_
        refine K.bast at_118 (pc' := 119) rfl f_365 (i := s.toInt.toNat) (by omega) (by omega) ge_a_1 (fun h_369 W_370 A_371 => ?_)
        rw [show nar .byte hb0 = hb0 from nar_byte_of (by omega)] at W_370 A_371
        have f_372 : Old Z n0 h_369 := f_366.wr W_370 ge_a_1
        have sz_374 : n0 ≤ h_369.size := Nat.le_trans sz_368 (Keep.of_wr W_370).1
        have A_375 : Ary Z h_369 a_1 .byte ((vs2).set (s.toInt.toNat) (.int hb0)) := A_371
        obtain ⟨vz, hvz⟩ : ∃ vz : List Value, vz = (vs2).set (s.toInt.toNat) (.int hb0) := ⟨_, rfl⟩
        have A_376 : Ary Z h_369 a_1 .byte vz := hvz ▸ A_375
        have hv0 : vz[s.toInt.toNat]? = some (.int hb0) := by rw [hvz]; exact List.getElem?_set_self (by omega)
        have I0 : Itm vz z63.toInt.toNat kd0.toInt sz0 := t_u0.2.1.same fun j q1 q2 => by rw [hvz, List.getElem?_set_ne (by omega)]; exact t_u1.2.2.2 j (by omega)
        have I1 : Itm vz u0.toInt.toNat kd1.toInt sz1 := t_u1.2.1.same fun j q1 q2 => by rw [hvz]; exact List.getElem?_set_ne (by omega)
        refine K.newo at_119 (pc' := 122) rfl (hw _ (List.mem_of_getElem? (i := 2) rfl)) (hw _ (List.mem_of_getElem? (i := 3) rfl)) (hw _ (List.mem_of_getElem? (i := 4) rfl)) (by decide) (by decide) (fun h_378 o_377 g_o_377 E_379 x_o_377 D_o_377 => ?_)
        have ne_a_1_o_377 : a_1 ≠ o_377 := Nat.ne_of_lt (g_o_377 ▸ A_376.lt)
        have ge_o_377 : n0 ≤ o_377 := g_o_377 ▸ sz_374
        have f_380 : Old Z n0 h_378 := f_372.ext E_379
        have f_381 : Ary Z h_378 a_1 .byte vz := A_376.ext E_379
        have sz_382 : n0 ≤ h_378.size := Nat.le_trans sz_374 E_379.1
        have f_383 : Fld Z h_378 o_377 "com/example/nestwire/nestwire/codec/EncodingWalker" "header" "Lcom/example/nestwire/nestwire/codec/Header;" .null := D_o_377 (Or.inr (hw _ (List.mem_of_getElem? (i := 19) rfl))) (ty := (.object "com/example/nestwire/nestwire/codec/Header")) (by decide)
        have f_384 : Fld Z h_378 o_377 "com/example/nestwire/nestwire/codec/EncodingWalker" "ends" "[I" .null := D_o_377 (Or.inl (hw _ (List.mem_of_getElem? (i := 22) rfl))) (ty := (.array .int)) (by decide)
        have f_385 : Fld Z h_378 o_377 "com/example/nestwire/nestwire/codec/EncodingWalker" "encoding" "[B" .null := D_o_377 (Or.inr (hw _ (List.mem_of_getElem? (i := 24) rfl))) (ty := (.array .byte)) (by decide)
        have f_386 : Fld Z h_378 o_377 "com/example/nestwire/nestwire/codec/EncodingWalker" "end" "I" (.int (0 : Int32)) := D_o_377 (Or.inr (hw _ (List.mem_of_getElem? (i := 26) rfl))) (ty := .int) (by decide)
        have f_387 : Fld Z h_378 o_377 "com/example/nestwire/nestwire/codec/EncodingWalker" "position" "I" (.int (0 : Int32)) := D_o_377 (Or.inl (hw _ (List.mem_of_getElem? (i := 28) rfl))) (ty := .int) (by decide)
        have f_388 : Fld Z h_378 o_377 "com/example/nestwire/nestwire/codec/EncodingWalker" "depth" "I" (.int (0 : Int32)) := D_o_377 (Or.inl (hw _ (List.mem_of_getElem? (i := 35) rfl))) (ty := .int) (by decide)
        have f_389 : Fld Z h_378 o_377 "com/example/nestwire/nestwire/codec/EncodingWalker" "peeked" "Z" (.int (0 : Int32)) := D_o_377 (Or.inl (hw _ (List.mem_of_getElem? (i := 43) rfl))) (ty := .boolean) (by decide)
        have f_390 : Fld Z h_378 o_377 "com/example/nestwire/nestwire/codec/EncodingWalker" "started" "Z" (.int (0 : Int32)) := D_o_377 (Or.inl (hw _ (List.mem_of_getElem? (i := 49) rfl))) (ty := .boolean) (by decide)
        have f_391 : Fld Z h_378 o_377 "com/example/nestwire/nestwire/codec/EncodingWalker" "itemStart" "I" (.int (0 : Int32)) := D_o_377 (Or.inl (hw _ (List.mem_of_getElem? (i := 75) rfl))) (ty := .int) (by decide)
        refine K.dup at_122 (pc' := 123) rfl rfl ?_
        refine K.aload at_123 (pc' := 125) rfl rfl rfl ?_
        refine K.iload at_125 (pc' := 127) rfl rfl ?_
        refine K.iload at_127 (pc' := 129) rfl rfl ?_
        refine K.callc (argsL := [(.ref a_1), (.int s), (.int u1)]) (rest := [(.ref o_377)]) at_129 (pc' := 132) rfl rfl (c_new l Z a0 hw n0 h_378 (a := o_377) (eb := a_1) (p := s) (n := u1) (vs := vz) x_o_377 sz_382 ge_o_377 (Ne.symm ne_a_1_o_377) f_381 f_383 f_384 f_385 f_386 f_387 f_388 f_390 f_389 f_391) (hw _ (List.mem_of_getElem? (i := 5) rfl)) (hw _ (List.mem_of_getElem? (i := 6) rfl)) (hw _ (List.mem_of_getElem? (i := 4) rfl)) (hw _ (List.mem_of_getElem? (i := 7) rfl)) (by decide) pd_7 rfl rfl (W := 1) (by simp [Value.category]) (by decide) (by decide) (by decide) (by decide) (fun v_394 h_392 q_393 => ?_)
        obtain ⟨hd_396, en_397, rfl, K_398, f_399, f_400, f_401, f_402, f_403, f_404, f_405, f_406, f_407, f_408, f_409, f_410, f_411, f_412, f_413, f_414, f_415, f_416, f_417⟩ := q_393
        have ne_a_1_hd_396 : a_1 ≠ hd_396 := Nat.ne_of_lt (Nat.lt_of_lt_of_le f_381.lt f_399)
        have ne_o_377_hd_396 : o_377 ≠ hd_396 := Nat.ne_of_lt (Nat.lt_of_lt_of_le x_o_377.lt f_399)
        have ne_a_1_en_397 : a_1 ≠ en_397 := Nat.ne_of_lt (Nat.lt_of_lt_of_le f_381.lt f_400)
        have ne_o_377_en_397 : o_377 ≠ en_397 := Nat.ne_of_lt (Nat.lt_of_lt_of_le x_o_377.lt f_400)
        have f_418 : Old Z n0 h_392 := f_380.keep K_398 (allS ge_o_377 all0)
        have f_419 : Ary Z h_392 a_1 .byte vz := f_381.keep K_398 (ninS ne_a_1_o_377 nin0)
        have f_420 : Exa Z h_392 o_377 "com/example/nestwire/nestwire/codec/EncodingWalker" := x_o_377.keep K_398
        have sz_430 : n0 ≤ h_392.size := Nat.le_trans sz_382 K_398.1
        show G h_392 4 44 (mkF m 132 #[.val (.int sh), .val (.int v0), .val (.int v1), .val (.int jk), .val (.int (2 : Int32)), .val (.int kd0), .val (.int kd1), .val (.int s), .val (.ref a_1), .val (.int u1), .unset, .unset] [(.ref o_377)])
        refine K.astore at_132 (pc' := 134) rfl rfl (L' := #[.val (.int sh), .val (.int v0), .val (.int v1), .val (.int jk), .val (.int (2 : Int32)), .val (.int kd0), .val (.int kd1), .val (.int s), .val (.ref a_1), .val (.int u1), .val (.ref o_377), .unset]) rfl ?_
        refine K.aload at_134 (pc' := 136) rfl rfl rfl ?_
        refine K.callv (z := (⟨"com/example/nestwire/nestwire/codec/EncodingWalker", "atListEnd", "()Z"⟩ : MethodName)) (argsL := []) (rest := []) at_136 (pc' := 139) rfl (c_ale0 l Z a0 hw n0 h_392 (a := o_377) (en := en_397) (p := s) (e0 := (0 : Int32)) (e1 := (0 : Int32)) f_420 f_410 f_409 f_406 f_417) f_420 (hw _ (List.mem_of_getElem? (i := 29) rfl)) (hw _ (List.mem_of_getElem? (i := 30) rfl)) (nf_sel (hw _ (List.mem_of_getElem? (i := 32) rfl)) rfl) (hw _ (List.mem_of_getElem? (i := 32) rfl)) (hw _ (List.mem_of_getElem? (i := 31) rfl)) (hw _ (List.mem_of_getElem? (i := 4) rfl)) (hw _ (List.mem_of_getElem? (i := 33) rfl)) (by decide) pd_3 rfl rfl (W := 0) (by simp [Value.category]) (by decide) (by decide) (by decide) (by decide) (fun v_433 h_431 q_432 => ?_)
        obtain ⟨rfl, rfl⟩ := q_432
        show G h_392 4 44 (mkF m 139 #[.val (.int sh), .val (.int v0), .val (.int v1), .val (.int jk), .val (.int (2 : Int32)), .val (.int kd0), .val (.int kd1), .val (.int s), .val (.ref a_1), .val (.int u1), .val (.ref o_377), .unset] [(.int (b2 (False)))])
        refine K.ifneB at_139 (pc1 := 142) rfl (by decide) (pc2 := 146) (by decide) (fun c139 => ?_) (fun c139 => ?_)
        · exfalso; exact c139
        · refine K.iconst at_142 (pc' := 143) rfl (z := 1) rfl ?_
          refine K.goto at_143 (by decide) (pc' := 147) (by decide) ?_
          refine K.istore at_147 (pc' := 149) rfl (L' := #[.val (.int sh), .val (.int v0), .val (.int v1), .val (.int jk), .val (.int (2 : Int32)), .val (.int kd0), .val (.int kd1), .val (.int s), .val (.ref a_1), .val (.int u1), .val (.ref o_377), .val (.int (1 : Int32))]) rfl ?_
          refine K.aload at_149 (pc' := 151) rfl rfl rfl ?_
          refine K.callv (z := (⟨"com/example/nestwire/nestwire/codec/EncodingWalker", "next", "()Lcom/example/nestwire/nestwire/codec/RlpWalker$Step;"⟩ : MethodName)) (argsL := []) (rest := []) at_151 (pc' := 154) rfl (c_nC0 l Z a0 hw n0 h_392 (a := o_377) (hd := hd_396) (en := en_397) (eb := a_1) (n := u1) (p := s) (i0 := (0 : Int32)) (l0 := (0 : Int32)) (s0 := (0 : Int32)) (g0 := (0 : Int32)) (e0 := (0 : Int32)) (e1 := (0 : Int32)) (vs := vz) (b := hb0) (cS := cS) f_420 f_401 ge_o_377 f_402 f_403 ne_o_377_hd_396 ne_o_377_en_397 (Ne.symm ne_a_1_o_377) f_404 (Ne.symm ne_a_1_hd_396) (Ne.symm ne_a_1_en_397) f_418 P5 f_405 f_406 f_407 f_408 f_409 f_410 f_411 f_412 f_413 f_414 f_415 f_416 f_417 f_419 hv0 (by omega) (by omega) (by omega)) f_420 (hw _ (List.mem_of_getElem? (i := 36) rfl)) (hw _ (List.mem_of_getElem? (i := 37) rfl)) (nf_sel (hw _ (List.mem_of_getElem? (i := 39) rfl)) rfl) (hw _ (List.mem_of_getElem? (i := 39) rfl)) (hw _ (List.mem_of_getElem? (i := 38) rfl)) (hw _ (List.mem_of_getElem? (i := 4) rfl)) (hw _ (List.mem_of_getElem? (i := 40) rfl)) (by decide) pd_6 rfl rfl (W := 0) (by simp [Value.category]) (by decide) (by decide) (by decide) (by decide) (fun v_437 h_435 q_436 => ?_)
          obtain ⟨pex, eex, s1x, g1x, rfl, K_438, hpe_x, f_439, f_440, f_441, f_442, f_443, f_444, f_445, f_446, f_447, f_448, f_449, f_450, f_451⟩ := q_436
          have f_452 : Old Z n0 h_435 := f_418.keep K_438 (allS ge_o_377 (allS f_402 (allS f_403 all0)))
          have f_453 : Ary Z h_435 a_1 .byte vz := f_419.keep K_438 (ninS ne_a_1_o_377 (ninS ne_a_1_hd_396 (ninS ne_a_1_en_397 nin0)))
          have f_454 : Exa Z h_435 o_377 "com/example/nestwire/nestwire/codec/EncodingWalker" := f_420.keep K_438
          have f_455 : Exa Z h_435 hd_396 "com/example/nestwire/nestwire/codec/Header" := f_401.keep K_438
          have sz_469 : n0 ≤ h_435.size := Nat.le_trans sz_430 K_438.1
          show G h_435 4 44 (mkF m 154 #[.val (.int sh), .val (.int v0), .val (.int v1), .val (.int jk), .val (.int (2 : Int32)), .val (.int kd0), .val (.int kd1), .val (.int s), .val (.ref a_1), .val (.int u1), .val (.ref o_377), .val (.int (1 : Int32))] [(.ref cS)])
          refine K.pop at_154 (pc' := 155) rfl rfl ?_
          refine K.iload at_155 (pc' := 157) rfl rfl ?_
          refine K.if_eq at_157 (pc1 := 160) rfl (by decide) (pc2 := 182) (by decide) (a := 1) rfl (fun c157 => ?_) (fun c157 => ?_)
          · exfalso; omega
          · refine K.aload at_160 (pc' := 162) rfl rfl rfl ?_
            refine K.callv (z := (⟨"com/example/nestwire/nestwire/codec/EncodingWalker", "atListEnd", "()Z"⟩ : MethodName)) (argsL := []) (rest := []) at_162 (pc' := 165) rfl (c_ale1 l Z a0 hw n0 h_435 (a := o_377) (en := en_397) (p := pex) (e0 := eex) (e1 := (0 : Int32)) f_454 f_444 f_443 f_440 f_451) f_454 (hw _ (List.mem_of_getElem? (i := 29) rfl)) (hw _ (List.mem_of_getElem? (i := 30) rfl)) (nf_sel (hw _ (List.mem_of_getElem? (i := 32) rfl)) rfl) (hw _ (List.mem_of_getElem? (i := 32) rfl)) (hw _ (List.mem_of_getElem? (i := 31) rfl)) (hw _ (List.mem_of_getElem? (i := 4) rfl)) (hw _ (List.mem_of_getElem? (i := 33) rfl)) (by decide) pd_3 rfl rfl (W := 0) (by simp [Value.category]) (by decide) (by decide) (by decide) (by decide) (fun v_472 h_470 q_471 => ?_)
            obtain ⟨rfl, rfl⟩ := q_471
            show G h_435 4 44 (mkF m 165 #[.val (.int sh), .val (.int v0), .val (.int v1), .val (.int jk), .val (.int (2 : Int32)), .val (.int kd0), .val (.int kd1), .val (.int s), .val (.ref a_1), .val (.int u1), .val (.ref o_377), .val (.int (1 : Int32))] [(.int (b2 (pex.toInt = eex.toInt)))])
            refine K.iload at_165 (pc' := 167) rfl rfl ?_
            refine K.if_ne at_167 (pc1 := 170) rfl (by decide) (pc2 := 174) (by decide) (a := 2) rfl (fun c167 => ?_) (fun c167 => ?_)
            · refine K.iconst at_174 (pc' := 175) rfl (z := 0) rfl ?_
              refine K.icmp_ne at_175 (pc1 := 178) rfl (by decide) (pc2 := 182) (by decide) (a := (b2 (pex.toInt = eex.toInt)).toInt) (b := 0) rfl rfl (fun c175 => ?_) (fun c175 => ?_)
              · exfalso; rw [b2_int] at c175; split at c175 <;> omega
              · refine K.iconst at_178 (pc' := 179) rfl (z := 1) rfl ?_
                refine K.goto at_179 (by decide) (pc' := 183) (by decide) ?_
                refine K.istore at_183 (pc' := 185) rfl (L' := #[.val (.int sh), .val (.int v0), .val (.int v1), .val (.int jk), .val (.int (2 : Int32)), .val (.int kd0), .val (.int kd1), .val (.int s), .val (.ref a_1), .val (.int u1), .val (.ref o_377), .val (.int (1 : Int32))]) rfl ?_
                refine K.iload at_185 (pc' := 187) rfl rfl ?_
                refine K.iconst at_187 (pc' := 188) rfl (z := 1) rfl ?_
                refine K.icmp_lt at_188 (pc1 := 191) rfl (by decide) (pc2 := 224) (by decide) (a := 2) (b := 1) rfl rfl (fun c188 => ?_) (fun c188 => ?_)
                · exfalso; omega
                · refine K.iload at_191 (pc' := 193) rfl rfl ?_
                  refine K.if_eq at_193 (pc1 := 196) rfl (by decide) (pc2 := 221) (by decide) (a := 1) rfl (fun c193 => ?_) (fun c193 => ?_)
                  · exfalso; omega
                  · refine K.aload at_196 (pc' := 198) rfl rfl rfl ?_
                    refine K.iload at_198 (pc' := 200) rfl rfl ?_
                    refine K.iload at_200 (pc' := 202) rfl rfl ?_
                    refine K.iconst at_202 (pc' := 203) rfl (z := 1) rfl ?_
                    refine K.icmp_ne at_203 (pc1 := 206) rfl (by decide) (pc2 := 210) (by decide) (a := 2) (b := 1) rfl rfl (fun c203 => ?_) (fun c203 => ?_)
                    · refine K.iconst at_210 (pc' := 211) rfl (z := 0) rfl ?_
                      refine K.calls (argsL := [(.ref o_377), (.int kd0), (.int (0 : Int32))]) (rest := []) at_211 (pc' := 214) rfl (c_item l Z a0 hw n0 h_435 (a := o_377) (hd := hd_396) (en := en_397) (eb := a_1) (n := u1) (p := pex) (i0 := s) (st0 := (1 : Int32)) (l0 := (1 : Int32)) (s0 := s1x) (g0 := g1x) (e0 := eex) (e1 := (0 : Int32)) (vs := vz) (kd := kd0) (lt := (0 : Int32)) (sz := sz0) (cE := cE) (cB := cB) (cS := cS) f_454 f_455 ge_o_377 f_402 f_403 ne_o_377_hd_396 ne_o_377_en_397 (Ne.symm ne_a_1_o_377) f_404 (Ne.symm ne_a_1_hd_396) (Ne.symm ne_a_1_en_397) f_452 P3 P4 P5 f_439 f_440 f_441 f_442 f_443 f_444 f_445 f_446 f_447 f_448 f_449 f_450 f_451 f_453 (by rw [show pex.toInt.toNat = z63.toInt.toNat from by omega]; exact I0) (by omega) (by omega) (by decide)) (hw _ (List.mem_of_getElem? (i := 100) rfl)) (hw _ (List.mem_of_getElem? (i := 101) rfl)) (hw _ (List.mem_of_getElem? (i := 98) rfl)) (hw _ (List.mem_of_getElem? (i := 102) rfl)) (by decide) pd_9 rfl rfl (W := 0) (by simp [Value.category]) (by decide) (by decide) (by decide) (by decide) (fun v_476 h_474 q_475 => ?_)
                      obtain ⟨pi0, ii0, li0, si0, gi0, fi0, rfl, K_477, hpe_i0, f_478, f_479, f_480, f_481, f_482, f_483, f_484, f_485, f_486, f_487, f_488, f_489, f_490⟩ := q_475
                      have f_491 : Old Z n0 h_474 := f_452.keep K_477 (allS ge_o_377 (allS f_402 (allS f_403 all0)))
                      have f_492 : Ary Z h_474 a_1 .byte vz := f_453.keep K_477 (ninS ne_a_1_o_377 (ninS ne_a_1_hd_396 (ninS ne_a_1_en_397 nin0)))
                      have f_493 : Exa Z h_474 o_377 "com/example/nestwire/nestwire/codec/EncodingWalker" := f_454.keep K_477
                      have f_494 : Exa Z h_474 hd_396 "com/example/nestwire/nestwire/codec/Header" := f_455.keep K_477
                      have sz_508 : n0 ≤ h_474.size := Nat.le_trans sz_469 K_477.1
                      show G h_474 4 44 (mkF m 214 #[.val (.int sh), .val (.int v0), .val (.int v1), .val (.int jk), .val (.int (2 : Int32)), .val (.int kd0), .val (.int kd1), .val (.int s), .val (.ref a_1), .val (.int u1), .val (.ref o_377), .val (.int (1 : Int32))] [(.int (b2 (pex.toInt + sz0 = eex.toInt ↔ 0 ≠ 0)))])
                      refine K.ifeqB at_214 (pc1 := 217) rfl (by decide) (pc2 := 221) (by decide) (fun c214 => ?_) (fun c214 => ?_)
                      · exfalso; omega
                      · refine K.iconst at_217 (pc' := 218) rfl (z := 1) rfl ?_
                        refine K.goto at_218 (by decide) (pc' := 222) (by decide) ?_
                        refine K.istore at_222 (pc' := 224) rfl (L' := #[.val (.int sh), .val (.int v0), .val (.int v1), .val (.int jk), .val (.int (2 : Int32)), .val (.int kd0), .val (.int kd1), .val (.int s), .val (.ref a_1), .val (.int u1), .val (.ref o_377), .val (.int (1 : Int32))]) rfl ?_
                        refine K.iload at_224 (pc' := 226) rfl rfl ?_
                        refine K.iconst at_226 (pc' := 227) rfl (z := 2) rfl ?_
                        refine K.icmp_lt at_227 (pc1 := 230) rfl (by decide) (pc2 := 253) (by decide) (a := 2) (b := 2) rfl rfl (fun c227 => ?_) (fun c227 => ?_)
                        · exfalso; omega
                        · refine K.iload at_230 (pc' := 232) rfl rfl ?_
                          refine K.if_eq at_232 (pc1 := 235) rfl (by decide) (pc2 := 250) (by decide) (a := 1) rfl (fun c232 => ?_) (fun c232 => ?_)
                          · exfalso; omega
                          · refine K.aload at_235 (pc' := 237) rfl rfl rfl ?_
                            refine K.iload at_237 (pc' := 239) rfl rfl ?_
                            refine K.iconst at_239 (pc' := 240) rfl (z := 1) rfl ?_
                            refine K.calls (argsL := [(.ref o_377), (.int kd1), (.int (1 : Int32))]) (rest := []) at_240 (pc' := 243) rfl (c_item l Z a0 hw n0 h_474 (a := o_377) (hd := hd_396) (en := en_397) (eb := a_1) (n := u1) (p := pi0) (i0 := ii0) (st0 := (1 : Int32)) (l0 := li0) (s0 := si0) (g0 := gi0) (e0 := eex) (e1 := fi0) (vs := vz) (kd := kd1) (lt := (1 : Int32)) (sz := sz1) (cE := cE) (cB := cB) (cS := cS) f_493 f_494 ge_o_377 f_402 f_403 ne_o_377_hd_396 ne_o_377_en_397 (Ne.symm ne_a_1_o_377) f_404 (Ne.symm ne_a_1_hd_396) (Ne.symm ne_a_1_en_397) f_491 P3 P4 P5 f_478 f_479 f_480 f_481 f_482 f_483 f_484 f_485 f_486 f_487 f_488 f_489 f_490 f_492 (by rw [show pi0.toInt.toNat = u0.toInt.toNat from by omega]; exact I1) (by omega) (by omega) (by decide)) (hw _ (List.mem_of_getElem? (i := 100) rfl)) (hw _ (List.mem_of_getElem? (i := 101) rfl)) (hw _ (List.mem_of_getElem? (i := 98) rfl)) (hw _ (List.mem_of_getElem? (i := 102) rfl)) (by decide) pd_9 rfl rfl (W := 0) (by simp [Value.category]) (by decide) (by decide) (by decide) (by decide) (fun v_511 h_509 q_510 => ?_)
                            obtain ⟨pi1, ii1, li1, si1, gi1, fi1, rfl, K_512, hpe_i1, f_513, f_514, f_515, f_516, f_517, f_518, f_519, f_520, f_521, f_522, f_523, f_524, f_525⟩ := q_510
                            have f_526 : Old Z n0 h_509 := f_491.keep K_512 (allS ge_o_377 (allS f_402 (allS f_403 all0)))
                            have f_527 : Ary Z h_509 a_1 .byte vz := f_492.keep K_512 (ninS ne_a_1_o_377 (ninS ne_a_1_hd_396 (ninS ne_a_1_en_397 nin0)))
                            have f_528 : Exa Z h_509 o_377 "com/example/nestwire/nestwire/codec/EncodingWalker" := f_493.keep K_512
                            have f_529 : Exa Z h_509 hd_396 "com/example/nestwire/nestwire/codec/Header" := f_494.keep K_512
                            have sz_543 : n0 ≤ h_509.size := Nat.le_trans sz_508 K_512.1
                            show G h_509 4 44 (mkF m 243 #[.val (.int sh), .val (.int v0), .val (.int v1), .val (.int jk), .val (.int (2 : Int32)), .val (.int kd0), .val (.int kd1), .val (.int s), .val (.ref a_1), .val (.int u1), .val (.ref o_377), .val (.int (1 : Int32))] [(.int (b2 (pi0.toInt + sz1 = eex.toInt ↔ 1 ≠ 0)))])
                            refine K.ifeqB at_243 (pc1 := 246) rfl (by decide) (pc2 := 250) (by decide) (fun c243 => ?_) (fun c243 => ?_)
                            · exfalso; omega
                            · refine K.iconst at_246 (pc' := 247) rfl (z := 1) rfl ?_
                              refine K.goto at_247 (by decide) (pc' := 251) (by decide) ?_
                              refine K.istore at_251 (pc' := 253) rfl (L' := #[.val (.int sh), .val (.int v0), .val (.int v1), .val (.int jk), .val (.int (2 : Int32)), .val (.int kd0), .val (.int kd1), .val (.int s), .val (.ref a_1), .val (.int u1), .val (.ref o_377), .val (.int (1 : Int32))]) rfl ?_
                              refine K.iload at_253 (pc' := 255) rfl rfl ?_
                              refine K.if_ne at_255 (pc1 := 258) rfl (by decide) (pc2 := 260) (by decide) (a := 1) rfl (fun c255 => ?_) (fun c255 => ?_)
                              · refine K.aload at_260 (pc' := 262) rfl rfl rfl ?_
                                refine K.callv (z := (⟨"com/example/nestwire/nestwire/codec/EncodingWalker", "next", "()Lcom/example/nestwire/nestwire/codec/RlpWalker$Step;"⟩ : MethodName)) (argsL := []) (rest := []) at_262 (pc' := 265) rfl (c_nA1 l Z a0 hw n0 h_509 (a := o_377) (hd := hd_396) (en := en_397) (eb := a_1) (n := u1) (p := pi1) (i0 := ii1) (st0 := (1 : Int32)) (e0 := eex) (e1 := fi1) (vs := vz) (cE := cE) f_528 f_529 ge_o_377 f_402 f_403 ne_o_377_hd_396 ne_o_377_en_397 (Ne.symm ne_a_1_o_377) f_404 (Ne.symm ne_a_1_hd_396) (Ne.symm ne_a_1_en_397) f_526 P3 f_513 f_514 f_515 f_516 f_517 f_518 f_519 f_520 f_521 f_525 f_527 (by omega)) f_528 (hw _ (List.mem_of_getElem? (i := 36) rfl)) (hw _ (List.mem_of_getElem? (i := 37) rfl)) (nf_sel (hw _ (List.mem_of_getElem? (i := 39) rfl)) rfl) (hw _ (List.mem_of_getElem? (i := 39) rfl)) (hw _ (List.mem_of_getElem? (i := 38) rfl)) (hw _ (List.mem_of_getElem? (i := 4) rfl)) (hw _ (List.mem_of_getElem? (i := 40) rfl)) (by decide) pd_6 rfl rfl (W := 0) (by simp [Value.category]) (by decide) (by decide) (by decide) (by decide) (fun v_546 h_544 q_545 => ?_)
                                obtain ⟨rfl, K_547, f_548, f_549, f_550, f_551, f_552, f_553, f_554, f_555, f_556⟩ := q_545
                                have f_557 : Old Z n0 h_544 := f_526.keep K_547 (allS ge_o_377 all0)
                                have f_558 : Ary Z h_544 a_1 .byte vz := f_527.keep K_547 (ninS ne_a_1_o_377 nin0)
                                have f_559 : Exa Z h_544 o_377 "com/example/nestwire/nestwire/codec/EncodingWalker" := f_528.keep K_547
                                have f_560 : Exa Z h_544 hd_396 "com/example/nestwire/nestwire/codec/Header" := f_529.keep K_547
                                have f_570 : Fld Z h_544 hd_396 "com/example/nestwire/nestwire/codec/Header" "isList" "Z" (.int li1) := f_522.keep K_547 (ninS (Ne.symm ne_o_377_hd_396) nin0)
                                have f_571 : Fld Z h_544 hd_396 "com/example/nestwire/nestwire/codec/Header" "payloadStart" "I" (.int si1) := f_523.keep K_547 (ninS (Ne.symm ne_o_377_hd_396) nin0)
                                have f_572 : Fld Z h_544 hd_396 "com/example/nestwire/nestwire/codec/Header" "payloadLength" "I" (.int gi1) := f_524.keep K_547 (ninS (Ne.symm ne_o_377_hd_396) nin0)
                                have f_573 : Ary Z h_544 en_397 .int [(.int eex), (.int fi1), (.int (0 : Int32)), (.int (0 : Int32)), (.int (0 : Int32)), (.int (0 : Int32)), (.int (0 : Int32)), (.int (0 : Int32)), (.int (0 : Int32)), (.int (0 : Int32)), (.int (0 : Int32)), (.int (0 : Int32)), (.int (0 : Int32)), (.int (0 : Int32)), (.int (0 : Int32)), (.int (0 : Int32))] := f_525.keep K_547 (ninS (Ne.symm ne_o_377_en_397) nin0)
                                have sz_574 : n0 ≤ h_544.size := Nat.le_trans sz_543 K_547.1
                                show G h_544 4 44 (mkF m 265 #[.val (.int sh), .val (.int v0), .val (.int v1), .val (.int jk), .val (.int (2 : Int32)), .val (.int kd0), .val (.int kd1), .val (.int s), .val (.ref a_1), .val (.int u1), .val (.ref o_377), .val (.int (1 : Int32))] [(.ref cE)])
                                refine K.pop at_265 (pc' := 266) rfl rfl ?_
                                refine K.aload at_266 (pc' := 268) rfl rfl rfl ?_
                                refine K.callv (z := (⟨"com/example/nestwire/nestwire/codec/EncodingWalker", "atListEnd", "()Z"⟩ : MethodName)) (argsL := []) (rest := []) at_268 (pc' := 271) rfl (c_ale0 l Z a0 hw n0 h_544 (a := o_377) (en := en_397) (p := pi1) (e0 := eex) (e1 := fi1) f_559 f_553 f_552 f_549 f_573) f_559 (hw _ (List.mem_of_getElem? (i := 29) rfl)) (hw _ (List.mem_of_getElem? (i := 30) rfl)) (nf_sel (hw _ (List.mem_of_getElem? (i := 32) rfl)) rfl) (hw _ (List.mem_of_getElem? (i := 32) rfl)) (hw _ (List.mem_of_getElem? (i := 31) rfl)) (hw _ (List.mem_of_getElem? (i := 4) rfl)) (hw _ (List.mem_of_getElem? (i := 33) rfl)) (by decide) pd_3 rfl rfl (W := 0) (by simp [Value.category]) (by decide) (by decide) (by decide) (by decide) (fun v_577 h_575 q_576 => ?_)
                                obtain ⟨rfl, rfl⟩ := q_576
                                show G h_544 4 44 (mkF m 271 #[.val (.int sh), .val (.int v0), .val (.int v1), .val (.int jk), .val (.int (2 : Int32)), .val (.int kd0), .val (.int kd1), .val (.int s), .val (.ref a_1), .val (.int u1), .val (.ref o_377), .val (.int (1 : Int32))] [(.int (b2 (False)))])
                                refine K.ifneB at_271 (pc1 := 274) rfl (by decide) (pc2 := 278) (by decide) (fun c271 => ?_) (fun c271 => ?_)
                                · exfalso; exact c271
                                · refine K.iconst at_274 (pc' := 275) rfl (z := 1) rfl ?_
                                  refine K.goto at_275 (by decide) (pc' := 279) (by decide) ?_
                                  exact K.retz at_279 (Or.inr rfl) (by decide) (by decide) rfl
                              · exfalso; omega
                    · exfalso; omega
            · exfalso; omega
set_option maxRecDepth 65536 in
set_option maxHeartbeats 40000000 in
theorem comes_1 {Post : Tables → Env → Array Value → State → Outcome → State → Prop} (hpost : ∀ tb e args s v u, (limb_1_1.after args s (.returned v) u = true ∧ limb_1_2.after args s (.returned v) u = true ∧ True) → FrameEnd s (.returned v) u (Jvm.fieldLocs frame_1_writes args s ++ Jvm.arrayLocs frame_1_arrays args s ++ Jvm.staticLocs frame_1_statics s) 16 192 → Post tb e args s (.returned v) u) :
    ArmFor flags0 classFile x code maxLocals ret World_1 tables_1 room_1 Calls_1 rest_1 Pre_1 Post := by
  intro l hfl _ _ p e ha hc hk s m args below hf hA hF happ hP
  obtain ⟨hcalls, hrest, hpre⟩ := hP
  obtain ⟨-, -, -, hnamed, -, -, -, hat⟩ := (Spec.applies_iff hf).mp happ
  obtain ⟨hg, hn⟩ := and_e (Cond.before_iff.mp (show (Jvm.Cond.and given_1 narrow_1).before args s = true from hpre))
  obtain ⟨k0, j0⟩ := and_e hg
  obtain ⟨k1, j1⟩ := and_e j0
  obtain ⟨k2, j2⟩ := and_e j1
  obtain ⟨k3, j3⟩ := and_e j2
  obtain ⟨w0, w1, w2, w3, rfl⟩ : ∃ w0 w1 w2 w3 : Value, args = #[w0, w1, w2, w3] := by
    have hs : args.size = 4 := by simpa [Cond.value, given_1] using k0
    obtain ⟨L⟩ := args
    match L, hs with
    | [w0, w1, w2, w3], _ => exact ⟨w0, w1, w2, w3, rfl⟩
  have hw := fun d (hd : d ∈ tables_1) => atoms_spec (ws := Jvm.Cond.code x code maxLocals ret :: tables_1) hat d (List.mem_cons_of_mem _ hd)
  have hfit : Fit s := fun {y c} hc i hi => by
    obtain ⟨ha, rfl⟩ := Array.getElem?_eq_some_iff.mp hc
    have q := List.all_eq_true.mp ((Array.all_eq_true_iff_forall_mem.mp hF) _ (Array.getElem_mem ha)) i (List.mem_range.mpr hi)
    simpa [Array.getElem?_eq_getElem hi] using q
  obtain ⟨i0, ei0⟩ := is_v k1
  obtain rfl : w0 = (.int i0) := Option.some.inj ei0
  obtain ⟨i1, ei1⟩ := is_v k2
  obtain rfl : w1 = (.int i1) := Option.some.inj ei1
  obtain ⟨i2, ei2⟩ := is_v k3
  obtain rfl : w2 = (.int i2) := Option.some.inj ei2
  obtain ⟨i3, ei3⟩ := is_v j3
  obtain rfl : w3 = (.int i3) := Option.some.inj ei3
  obtain ⟨n1, n2⟩ := and_e hn
  obtain ⟨n2, n3⟩ := and_e n2
  obtain ⟨cS, _, _, _, ecS, -⟩ := Cond.exactly_spec (Cond.before_iff.mpr n1)
  have XcS := Sta.start ecS (Or.inr ⟨(hw _ (List.mem_of_getElem? (i := 92) rfl)), (hw _ (List.mem_of_getElem? (i := 93) rfl))⟩)
  obtain ⟨cE, _, _, _, ecE, -⟩ := Cond.exactly_spec (Cond.before_iff.mpr n2)
  have XcE := Sta.start ecE (Or.inr ⟨(hw _ (List.mem_of_getElem? (i := 92) rfl)), (hw _ (List.mem_of_getElem? (i := 95) rfl))⟩)
  obtain ⟨cB, _, _, _, ecB, -⟩ := Cond.exactly_spec (Cond.before_iff.mpr n3)
  have XcB := Sta.start ecB (Or.inr ⟨(hw _ (List.mem_of_getElem? (i := 92) rfl)), (hw _ (List.mem_of_getElem? (i := 104) rfl))⟩)
  obtain ⟨n, o, h1, h2, h3, _, L, rfl, ⟨rfl, N⟩, hq⟩ := c_law l s _ hw s.heap.size s.heap i0 i1 i2 i3 cE cB cS (Nat.le_refl _) (Old.start s) XcE XcB XcS tables_1 p e ha hc hk s m _ below hf ((Spec.applies_iff_loose hf).mp happ).1 ⟨rfl, State.Warmed39.refl s, rfl⟩ trivial
  refine ⟨n, _, h1, h2, h3, hpost _ _ _ _ _ _ ⟨Cond.after_iff.mpr rfl, Cond.after_iff.mpr (eq_i res_at (Term.int_eval (1)) rfl), trivial⟩ ⟨hq.1, hq.2.1, (hq.2.2.sift fun y hy => Or.inr (N y hy)).mono (by decide) (by decide)⟩⟩
theorem main_1_1 : Claimed_1_1 := comes_1 fun _ _ _ _ _ _ h hF => ⟨h.1, hF⟩
theorem main_1_2 : Claimed_1_2 := comes_1 fun _ _ _ _ _ _ h hF => ⟨h.2.1, hF⟩
end Jvm.Pilot.@@N@@
namespace Jvm.Pilot.@@N@@
open Jvm Jvm.ClassFile Sem Op Lib Jvm.Free Jvm.Stand Jvm.Pilot.@@N@@.Jvm.D
/-! MADE BY PROGRAM (witnessworld.py) out of the Statement's table words and the real class files: 17 classes; the members and pool entries that the words name. The judged class is class 1, her method 1. -/
namespace start1
open Jvm.ClassFile
def u (s : String) : CpInfo := .utf8 (stringToUtf16 s)
/-- a pool by its gaps: so many unusable entries, then the entry; so many at the end -/
def gap : Nat → List CpInfo → List CpInfo
  | 0, r => r
  | n + 1, r => .unusable :: gap n r
def poolList (es : List (Nat × CpInfo)) (last : Nat) : List CpInfo := es.foldr (fun e r => gap e.1 (e.2 :: r)) (gap last [])
def pool (es : List (Nat × CpInfo)) (last : Nat) : Array CpInfo := ⟨poolList es last⟩
def fileOf (pool : Array CpInfo) (this : Nat) (attrs : Array Attribute := #[]) (ms : Array MethodInfo := #[]) (fl : Nat := 33) (sup : Nat := 0) (ifs : Array Nat := #[]) (fds : Array FieldInfo := #[]) : ClassFile where
  minorVersion := 0
  majorVersion := 65
  constantPool := pool
  accessFlags := fl
  thisClass := this
  superClass := sup
  interfaces := ifs
  fields := fds
  methods := ms
  attributes := attrs
def plain (name : String) (sup : Option ClassId) : Class where
  name := name
  kind := .ordinary
  loader := none
  accessFlags := 33
  super := sup
  interfaces := #[]
  cf := none
  fields := #[]
  methods := #[]
  instanceTypes := #[]
  staticTypes := #[]
  resolved := #[]
  callSites := []
  init := .initialized
  statics := none
  mirror := none

def pool0 : Array CpInfo := pool [(5, u "<init>"), (0, u "()V"), (1, .class_ 10), (1, u "java/lang/Object")] 113

def k0c0 : Code := { maxStack := 0, maxLocals := 1, code := object_method_1_code, exceptionTable := #[], attributes := #[] }
def k0m0 : Method := { name := "<init>", desc := "()V", sig := { parameters := [], returnType := none }, accessFlags := 1, code := some k0c0 }
/-- java/lang/Object -/
def k0 : Class := { plain "java/lang/Object" none with
  accessFlags := 33
  interfaces := #[]
  cf := some (fileOf pool0 8 #[] #[{ accessFlags := 1, nameIndex := 5, descriptorIndex := 6, attributes := #[] }] 33 0 #[] #[])
  fields := #[]
  methods := #[k0m0]
  instanceTypes := #[]
  staticTypes := #[]
  resolved := Array.replicate 124 none
  statics := none }

def pool1 : Array CpInfo := pool [(2, .class_ 4), (1, u "java/lang/Object"), (0, u "<init>"), (0, u "()V"), (0, .integer 2147483647), (0, .methodref 9 10), (0, .class_ 11), (0, .nameAndType 12 13), (0, u "com/example/nestwire/nestwire/codec/EncodingWalkerAtListEndPinLaw"), (0, u "put"), (0, u "([BIII)I"), (0, .class_ 15), (0, u "com/example/nestwire/nestwire/codec/EncodingWalker"), (0, .methodref 14 17), (0, .nameAndType 5 18), (0, u "([BII)V"), (0, .methodref 14 20), (0, .nameAndType 21 22), (0, u "atListEnd"), (0, u "()Z"), (0, .methodref 14 24), (0, .nameAndType 25 26), (0, u "next"), (0, u "()Lcom/example/nestwire/nestwire/codec/RlpWalker$Step;"), (0, .methodref 9 28), (0, .nameAndType 29 30), (0, u "item"), (0, u "(Lcom/example/nestwire/nestwire/codec/EncodingWalker;IZ)Z"), (2, u "law"), (0, u "(IIII)Z")] 11

def k1m0 : Method := { name := "<init>", desc := "()V", sig := { parameters := [], returnType := none }, accessFlags := 2, code := none }
def k1c1 : Code := { maxStack := 5, maxLocals := 12, code := code, exceptionTable := #[], attributes := #[] }
def k1m1 : Method := { name := "law", desc := "(IIII)Z", sig := { parameters := [.int, .int, .int, .int], returnType := some .boolean }, accessFlags := 9, code := some k1c1 }
def k1c2 : Code := { maxStack := 4, maxLocals := 4, code := method_3_code, exceptionTable := #[], attributes := #[] }
def k1m2 : Method := { name := "put", desc := "([BIII)I", sig := { parameters := [(.array .byte), .int, .int, .int], returnType := some .int }, accessFlags := 10, code := some k1c2 }
def k1c3 : Code := { maxStack := 2, maxLocals := 3, code := method_4_code, exceptionTable := #[], attributes := #[] }
def k1m3 : Method := { name := "item", desc := "(Lcom/example/nestwire/nestwire/codec/EncodingWalker;IZ)Z", sig := { parameters := [(.object "com/example/nestwire/nestwire/codec/EncodingWalker"), .int, .boolean], returnType := some .boolean }, accessFlags := 10, code := some k1c3 }
/-- com/example/nestwire/nestwire/codec/EncodingWalkerAtListEndPinLaw -/
def k1 : Class := { plain "com/example/nestwire/nestwire/codec/EncodingWalkerAtListEndPinLaw" (some 0) with
  accessFlags := 49
  interfaces := #[]
  cf := some (fileOf pool1 9 #[] #[{ accessFlags := 2, nameIndex := 5, descriptorIndex := 6, attributes := #[] }, { accessFlags := 9, nameIndex := 33, descriptorIndex := 34, attributes := #[] }, { accessFlags := 10, nameIndex := 12, descriptorIndex := 13, attributes := #[] }, { accessFlags := 10, nameIndex := 29, descriptorIndex := 30, attributes := #[] }] 49 2 #[] #[])
  fields := #[]
  methods := #[k1m0, k1m1, k1m2, k1m3]
  instanceTypes := #[]
  staticTypes := #[]
  resolved := Array.replicate 46 none
  statics := none }

def pool2 : Array CpInfo := pool [(2, .class_ 4), (1, u "com/example/nestwire/nestwire/codec/EncodingWalker"), (0, u "<init>"), (0, u "([BII)V"), (0, .methodref 8 9), (0, .class_ 10), (0, .nameAndType 5 11), (0, u "java/lang/Object"), (0, u "()V"), (0, .class_ 13), (0, u "com/example/nestwire/nestwire/codec/Header"), (0, .methodref 12 9), (0, .fieldref 2 16), (0, .nameAndType 17 18), (0, u "header"), (0, u "Lcom/example/nestwire/nestwire/codec/Header;"), (0, .fieldref 2 20), (0, .nameAndType 21 22), (0, u "ends"), (0, u "[I"), (0, .fieldref 2 24), (0, .nameAndType 25 26), (0, u "encoding"), (0, u "[B"), (0, .fieldref 2 28), (0, .nameAndType 29 30), (0, u "end"), (0, u "I"), (0, .fieldref 2 32), (0, .nameAndType 33 30), (0, u "position"), (6, u "()Z"), (2, u "next"), (0, u "()Lcom/example/nestwire/nestwire/codec/RlpWalker$Step;"), (3, .fieldref 2 49), (0, .nameAndType 50 51), (0, u "started"), (0, u "Z"), (0, .fieldref 2 53), (0, .nameAndType 54 30), (0, u "depth"), (0, .methodref 2 56), (0, .nameAndType 57 40), (0, u "atListEnd"), (0, .fieldref 59 60), (0, .class_ 61), (0, .nameAndType 62 63), (0, u "com/example/nestwire/nestwire/codec/RlpWalker$Step"), (0, u "LIST_END"), (0, u "Lcom/example/nestwire/nestwire/codec/RlpWalker$Step;"), (0, .fieldref 2 65), (0, .nameAndType 66 51), (0, u "peeked"), (0, .methodref 2 68), (0, .nameAndType 69 11), (0, u "readHeader"), (0, .methodref 12 71), (0, .nameAndType 72 40), (0, u "isList"), (0, .fieldref 59 74), (0, .nameAndType 75 63), (0, u "LIST_START"), (0, .fieldref 59 77), (0, .nameAndType 78 63), (0, u "BYTES"), (6, .methodref 12 86), (0, .nameAndType 87 88), (0, u "payloadEnd"), (0, u "()I"), (0, .methodref 12 90), (0, .nameAndType 91 88), (0, u "payloadStart"), (5, .class_ 99), (1, u "com/example/nestwire/nestwire/codec/EncodingWalker$Mark"), (30, .methodref 12 131), (0, .nameAndType 132 133), (0, u "read"), (0, u "([BIIZ)V"), (0, .fieldref 2 135), (0, .nameAndType 136 30), (0, u "itemStart")] 17

def k2c0 : Code := { maxStack := 3, maxLocals := 4, code := prog_9_method_2_code, exceptionTable := #[], attributes := #[] }
def k2m0 : Method := { name := "<init>", desc := "([BII)V", sig := { parameters := [(.array .byte), .int, .int], returnType := none }, accessFlags := 0, code := some k2c0 }
def k2c1 : Code := { maxStack := 4, maxLocals := 1, code := prog_9_method_5_code, exceptionTable := #[], attributes := #[] }
def k2m1 : Method := { name := "atListEnd", desc := "()Z", sig := { parameters := [], returnType := some .boolean }, accessFlags := 0, code := some k2c1 }
def k2c2 : Code := { maxStack := 5, maxLocals := 1, code := prog_9_method_9_code, exceptionTable := #[], attributes := #[] }
def k2m2 : Method := { name := "next", desc := "()Lcom/example/nestwire/nestwire/codec/RlpWalker$Step;", sig := { parameters := [], returnType := some (.object "com/example/nestwire/nestwire/codec/RlpWalker$Step") }, accessFlags := 0, code := some k2c2 }
def k2c3 : Code := { maxStack := 6, maxLocals := 1, code := prog_9_method_15_code, exceptionTable := #[], attributes := #[] }
def k2m3 : Method := { name := "readHeader", desc := "()V", sig := { parameters := [], returnType := none }, accessFlags := 2, code := some k2c3 }
/-- com/example/nestwire/nestwire/codec/EncodingWalker -/
def k2 : Class := { plain "com/example/nestwire/nestwire/codec/EncodingWalker" (some 0) with
  accessFlags := 48
  interfaces := #[]
  cf := some (fileOf pool2 2 #[.nestMembers #[97]] #[{ accessFlags := 0, nameIndex := 5, descriptorIndex := 6, attributes := #[] }, { accessFlags := 0, nameIndex := 57, descriptorIndex := 40, attributes := #[] }, { accessFlags := 0, nameIndex := 43, descriptorIndex := 44, attributes := #[] }, { accessFlags := 2, nameIndex := 69, descriptorIndex := 11, attributes := #[] }] 48 8 #[] #[{ accessFlags := 18, nameIndex := 25, descriptorIndex := 26, attributes := #[] }, { accessFlags := 18, nameIndex := 29, descriptorIndex := 30, attributes := #[] }, { accessFlags := 18, nameIndex := 17, descriptorIndex := 18, attributes := #[] }, { accessFlags := 2, nameIndex := 21, descriptorIndex := 22, attributes := #[] }, { accessFlags := 2, nameIndex := 54, descriptorIndex := 30, attributes := #[] }, { accessFlags := 2, nameIndex := 50, descriptorIndex := 51, attributes := #[] }, { accessFlags := 2, nameIndex := 33, descriptorIndex := 30, attributes := #[] }, { accessFlags := 2, nameIndex := 136, descriptorIndex := 30, attributes := #[] }, { accessFlags := 2, nameIndex := 66, descriptorIndex := 51, attributes := #[] }])
  fields := #[{ name := "encoding", type := (.array .byte), accessFlags := 18, slot := 0, constantValue := 0 }, { name := "end", type := .int, accessFlags := 18, slot := 1, constantValue := 0 }, { name := "header", type := (.object "com/example/nestwire/nestwire/codec/Header"), accessFlags := 18, slot := 2, constantValue := 0 }, { name := "ends", type := (.array .int), accessFlags := 2, slot := 3, constantValue := 0 }, { name := "depth", type := .int, accessFlags := 2, slot := 4, constantValue := 0 }, { name := "started", type := .boolean, accessFlags := 2, slot := 5, constantValue := 0 }, { name := "position", type := .int, accessFlags := 2, slot := 6, constantValue := 0 }, { name := "itemStart", type := .int, accessFlags := 2, slot := 7, constantValue := 0 }, { name := "peeked", type := .boolean, accessFlags := 2, slot := 8, constantValue := 0 }]
  methods := #[k2m0, k2m1, k2m2, k2m3]
  instanceTypes := #[(.array .byte), .int, (.object "com/example/nestwire/nestwire/codec/Header"), (.array .int), .int, .boolean, .int, .int, .boolean]
  staticTypes := #[]
  resolved := Array.replicate 154 none
  statics := none }

def pool3 : Array CpInfo := pool [(1, .methodref 2 3), (0, .class_ 4), (0, .nameAndType 5 6), (0, u "java/lang/Object"), (0, u "<init>"), (0, u "()V"), (0, .fieldref 8 9), (0, .class_ 10), (0, .nameAndType 11 12), (0, u "com/example/nestwire/nestwire/codec/Header"), (0, u "isList"), (0, u "Z"), (0, .fieldref 8 14), (0, .nameAndType 15 16), (0, u "payloadStart"), (0, u "I"), (0, .fieldref 8 18), (0, .nameAndType 19 16), (0, u "payloadLength"), (0, .methodref 8 21), (0, .nameAndType 22 23), (0, u "readLength"), (0, u "([BIIZ)J"), (0, .methodref 25 26), (0, .class_ 27), (0, .nameAndType 28 29), (0, u "java/lang/Long"), (0, u "compareUnsigned"), (0, u "(JJ)I"), (18, .long 55), (76, u "()Z"), (0, u "()I"), (0, u "payloadEnd"), (0, u "read"), (0, u "([BIIZ)V")] 30

def k3c0 : Code := { maxStack := 1, maxLocals := 1, code := prog_16_method_1_code, exceptionTable := #[], attributes := #[] }
def k3m0 : Method := { name := "<init>", desc := "()V", sig := { parameters := [], returnType := none }, accessFlags := 0, code := some k3c0 }
def k3c1 : Code := { maxStack := 1, maxLocals := 1, code := prog_16_method_2_code, exceptionTable := #[], attributes := #[] }
def k3m1 : Method := { name := "isList", desc := "()Z", sig := { parameters := [], returnType := some .boolean }, accessFlags := 0, code := some k3c1 }
def k3c2 : Code := { maxStack := 1, maxLocals := 1, code := prog_16_method_3_code, exceptionTable := #[], attributes := #[] }
def k3m2 : Method := { name := "payloadStart", desc := "()I", sig := { parameters := [], returnType := some .int }, accessFlags := 0, code := some k3c2 }
def k3c3 : Code := { maxStack := 2, maxLocals := 1, code := prog_16_method_5_code, exceptionTable := #[], attributes := #[] }
def k3m3 : Method := { name := "payloadEnd", desc := "()I", sig := { parameters := [], returnType := some .int }, accessFlags := 0, code := some k3c3 }
def k3c4 : Code := { maxStack := 5, maxLocals := 7, code := prog_16_method_6_code, exceptionTable := #[], attributes := #[] }
def k3m4 : Method := { name := "read", desc := "([BIIZ)V", sig := { parameters := [(.array .byte), .int, .int, .boolean], returnType := none }, accessFlags := 0, code := some k3c4 }
def k3c5 : Code := { maxStack := 4, maxLocals := 12, code := prog_16_method_7_code, exceptionTable := #[], attributes := #[] }
def k3m5 : Method := { name := "readLength", desc := "([BIIZ)J", sig := { parameters := [(.array .byte), .int, .int, .boolean], returnType := some .long }, accessFlags := 0, code := some k3c5 }
/-- com/example/nestwire/nestwire/codec/Header -/
def k3 : Class := { plain "com/example/nestwire/nestwire/codec/Header" (some 0) with
  accessFlags := 48
  interfaces := #[]
  cf := some (fileOf pool3 8 #[] #[{ accessFlags := 0, nameIndex := 5, descriptorIndex := 6, attributes := #[] }, { accessFlags := 0, nameIndex := 11, descriptorIndex := 125, attributes := #[] }, { accessFlags := 0, nameIndex := 15, descriptorIndex := 126, attributes := #[] }, { accessFlags := 0, nameIndex := 127, descriptorIndex := 126, attributes := #[] }, { accessFlags := 0, nameIndex := 128, descriptorIndex := 129, attributes := #[] }, { accessFlags := 0, nameIndex := 22, descriptorIndex := 23, attributes := #[] }] 48 2 #[] #[{ accessFlags := 2, nameIndex := 11, descriptorIndex := 12, attributes := #[] }, { accessFlags := 2, nameIndex := 15, descriptorIndex := 16, attributes := #[] }, { accessFlags := 2, nameIndex := 19, descriptorIndex := 16, attributes := #[] }])
  fields := #[{ name := "isList", type := .boolean, accessFlags := 2, slot := 0, constantValue := 0 }, { name := "payloadStart", type := .int, accessFlags := 2, slot := 1, constantValue := 0 }, { name := "payloadLength", type := .int, accessFlags := 2, slot := 2, constantValue := 0 }]
  methods := #[k3m0, k3m1, k3m2, k3m3, k3m4, k3m5]
  instanceTypes := #[.boolean, .int, .int]
  staticTypes := #[]
  resolved := Array.replicate 160 none
  statics := none }

def pool4 : Array CpInfo := pool [(1, .class_ 2), (0, u "java/io/Serializable"), (0, .class_ 4), (0, u "java/lang/Object")] 2

/-- java/io/Serializable -/
def k4 : Class := { plain "java/io/Serializable" (some 0) with
  accessFlags := 1537
  interfaces := #[]
  cf := some (fileOf pool4 1 #[] #[] 1537 3 #[] #[])
  fields := #[]
  methods := #[]
  instanceTypes := #[]
  staticTypes := #[]
  resolved := Array.replicate 7 none
  statics := none }

def pool5 : Array CpInfo := pool [(2, .class_ 4), (1, u "java/lang/Object"), (0, u "<init>"), (0, u "()V"), (1, .class_ 10), (1, u "java/lang/Number"), (2, .class_ 14), (0, u "java/io/Serializable"), (0, u "serialVersionUID"), (0, u "J")] 20

def k5m0 : Method := { name := "<init>", desc := "()V", sig := { parameters := [], returnType := none }, accessFlags := 1, code := none }
/-- java/lang/Number -/
def k5 : Class := { plain "java/lang/Number" (some 0) with
  accessFlags := 1057
  interfaces := #[4]
  cf := some (fileOf pool5 8 #[] #[{ accessFlags := 1, nameIndex := 5, descriptorIndex := 6, attributes := #[] }] 1057 2 #[13] #[{ accessFlags := 26, nameIndex := 15, descriptorIndex := 16, attributes := #[] }])
  fields := #[{ name := "serialVersionUID", type := .long, accessFlags := 26, slot := 0, constantValue := 0 }]
  methods := #[k5m0]
  instanceTypes := #[]
  staticTypes := #[.long]
  resolved := Array.replicate 37 none
  statics := none }

def pool6 : Array CpInfo := pool [(1, .class_ 2), (0, u "java/lang/Comparable"), (0, .class_ 4), (0, u "java/lang/Object")] 7

/-- java/lang/Comparable -/
def k6 : Class := { plain "java/lang/Comparable" (some 0) with
  accessFlags := 1537
  interfaces := #[]
  cf := some (fileOf pool6 1 #[] #[] 1537 3 #[] #[])
  fields := #[]
  methods := #[]
  instanceTypes := #[]
  staticTypes := #[]
  resolved := Array.replicate 12 none
  statics := none }

def pool7 : Array CpInfo := pool [(1, .class_ 2), (0, u "java/lang/constant/Constable"), (0, .class_ 4), (0, u "java/lang/Object")] 6

/-- java/lang/constant/Constable -/
def k7 : Class := { plain "java/lang/constant/Constable" (some 0) with
  accessFlags := 1537
  interfaces := #[]
  cf := some (fileOf pool7 1 #[] #[] 1537 3 #[] #[])
  fields := #[]
  methods := #[]
  instanceTypes := #[]
  staticTypes := #[]
  resolved := Array.replicate 11 none
  statics := none }

def pool8 : Array CpInfo := pool [(1, .class_ 2), (0, u "java/lang/constant/ConstantDesc"), (0, .class_ 4), (0, u "java/lang/Object")] 32

/-- java/lang/constant/ConstantDesc -/
def k8 : Class := { plain "java/lang/constant/ConstantDesc" (some 0) with
  accessFlags := 1537
  interfaces := #[]
  cf := some (fileOf pool8 1 #[] #[] 1537 3 #[] #[])
  fields := #[]
  methods := #[]
  instanceTypes := #[]
  staticTypes := #[]
  resolved := Array.replicate 37 none
  statics := none }

def pool9 : Array CpInfo := pool [(1, .class_ 2), (0, u "java/lang/Long"), (165, .long 9223372036854775808), (66, .class_ 237), (1, u "java/lang/Long$LongCache"), (33, .class_ 272), (0, u "java/lang/Number"), (2, u "value"), (0, u "J"), (25, .methodref 1 303), (0, .nameAndType 304 305), (0, u "compare"), (0, u "(JJ)I"), (55, u "TYPE"), (0, u "Ljava/lang/Class;"), (0, .class_ 364), (0, u "java/lang/Comparable"), (0, .class_ 366), (0, u "java/lang/constant/Constable"), (0, .class_ 368), (0, u "java/lang/constant/ConstantDesc"), (0, u "MIN_VALUE"), (1, u "MAX_VALUE"), (4, u "SIZE"), (0, u "I"), (1, u "BYTES"), (1, u "serialVersionUID"), (87, u "compareUnsigned")] 54

def k9c0 : Code := { maxStack := 4, maxLocals := 4, code := jdk_35_method_42_code, exceptionTable := #[], attributes := #[] }
def k9m0 : Method := { name := "compare", desc := "(JJ)I", sig := { parameters := [.long, .long], returnType := some .int }, accessFlags := 9, code := some k9c0 }
def k9c1 : Code := { maxStack := 6, maxLocals := 4, code := jdk_35_method_43_code, exceptionTable := #[], attributes := #[] }
def k9m1 : Method := { name := "compareUnsigned", desc := "(JJ)I", sig := { parameters := [.long, .long], returnType := some .int }, accessFlags := 9, code := some k9c1 }
/-- java/lang/Long -/
def k9 : Class := { plain "java/lang/Long" (some 5) with
  accessFlags := 49
  interfaces := #[6, 7, 8]
  cf := some (fileOf pool9 1 #[.nestMembers #[235]] #[{ accessFlags := 9, nameIndex := 304, descriptorIndex := 305, attributes := #[] }, { accessFlags := 9, nameIndex := 469, descriptorIndex := 305, attributes := #[] }] 49 271 #[363, 365, 367] #[{ accessFlags := 25, nameIndex := 369, descriptorIndex := 276, attributes := #[] }, { accessFlags := 25, nameIndex := 371, descriptorIndex := 276, attributes := #[] }, { accessFlags := 25, nameIndex := 361, descriptorIndex := 362, attributes := #[] }, { accessFlags := 18, nameIndex := 275, descriptorIndex := 276, attributes := #[] }, { accessFlags := 25, nameIndex := 376, descriptorIndex := 377, attributes := #[] }, { accessFlags := 25, nameIndex := 379, descriptorIndex := 377, attributes := #[] }, { accessFlags := 26, nameIndex := 381, descriptorIndex := 276, attributes := #[] }])
  fields := #[{ name := "MIN_VALUE", type := .long, accessFlags := 25, slot := 0, constantValue := 0 }, { name := "MAX_VALUE", type := .long, accessFlags := 25, slot := 1, constantValue := 0 }, { name := "TYPE", type := (.object "java/lang/Class"), accessFlags := 25, slot := 2, constantValue := 0 }, { name := "value", type := .long, accessFlags := 18, slot := 0, constantValue := 0 }, { name := "SIZE", type := .int, accessFlags := 25, slot := 3, constantValue := 0 }, { name := "BYTES", type := .int, accessFlags := 25, slot := 4, constantValue := 0 }, { name := "serialVersionUID", type := .long, accessFlags := 26, slot := 5, constantValue := 0 }]
  methods := #[k9m0, k9m1]
  instanceTypes := #[.long]
  staticTypes := #[.long, .long, (.object "java/lang/Class"), .int, .int, .long]
  resolved := Array.replicate 524 none
  statics := none }

def pool10 : Array CpInfo := pool [(2, .class_ 4), (1, u "java/lang/Enum"), (0, u "name"), (0, u "Ljava/lang/String;"), (2, u "ordinal"), (0, u "I"), (1, .class_ 14), (1, u "java/lang/Object"), (4, u "hash"), (86, .class_ 108), (1, u "java/lang/Enum$EnumDesc"), (2, .class_ 112), (0, u "java/lang/constant/Constable"), (0, .class_ 114), (0, u "java/lang/Comparable"), (0, .class_ 116), (0, u "java/io/Serializable")] 87

/-- java/lang/Enum -/
def k10 : Class := { plain "java/lang/Enum" (some 0) with
  accessFlags := 1057
  interfaces := #[7, 6, 4]
  cf := some (fileOf pool10 2 #[.nestMembers #[106]] #[] 1057 12 #[111, 113, 115] #[{ accessFlags := 18, nameIndex := 5, descriptorIndex := 6, attributes := #[] }, { accessFlags := 18, nameIndex := 9, descriptorIndex := 10, attributes := #[] }, { accessFlags := 2, nameIndex := 19, descriptorIndex := 10, attributes := #[] }])
  fields := #[{ name := "name", type := (.object "java/lang/String"), accessFlags := 18, slot := 0, constantValue := 0 }, { name := "ordinal", type := .int, accessFlags := 18, slot := 1, constantValue := 0 }, { name := "hash", type := .int, accessFlags := 2, slot := 2, constantValue := 0 }]
  methods := #[]
  instanceTypes := #[(.object "java/lang/String"), .int, .int]
  staticTypes := #[]
  resolved := Array.replicate 204 none
  statics := none }

def pool11 : Array CpInfo := pool [(1, .class_ 2), (0, u "com/example/nestwire/nestwire/codec/RlpWalker$Step"), (2, u "BYTES"), (0, u "Lcom/example/nestwire/nestwire/codec/RlpWalker$Step;"), (2, u "LIST_START"), (2, u "LIST_END"), (2, u "$VALUES"), (0, u "[Lcom/example/nestwire/nestwire/codec/RlpWalker$Step;"), (6, .class_ 25), (1, u "java/lang/Enum"), (26, .class_ 53), (0, u "com/example/nestwire/nestwire/codec/RlpWalker")] 2

/-- com/example/nestwire/nestwire/codec/RlpWalker$Step -/
def k11 : Class := { plain "com/example/nestwire/nestwire/codec/RlpWalker$Step" (some 10) with
  accessFlags := 16433
  interfaces := #[]
  cf := some (fileOf pool11 1 #[.nestHost 52] #[] 16433 23 #[] #[{ accessFlags := 16409, nameIndex := 5, descriptorIndex := 6, attributes := #[] }, { accessFlags := 16409, nameIndex := 9, descriptorIndex := 6, attributes := #[] }, { accessFlags := 16409, nameIndex := 12, descriptorIndex := 6, attributes := #[] }, { accessFlags := 4122, nameIndex := 15, descriptorIndex := 16, attributes := #[] }])
  fields := #[{ name := "BYTES", type := (.object "com/example/nestwire/nestwire/codec/RlpWalker$Step"), accessFlags := 16409, slot := 0, constantValue := 0 }, { name := "LIST_START", type := (.object "com/example/nestwire/nestwire/codec/RlpWalker$Step"), accessFlags := 16409, slot := 1, constantValue := 0 }, { name := "LIST_END", type := (.object "com/example/nestwire/nestwire/codec/RlpWalker$Step"), accessFlags := 16409, slot := 2, constantValue := 0 }, { name := "$VALUES", type := (.array (.object "com/example/nestwire/nestwire/codec/RlpWalker$Step")), accessFlags := 4122, slot := 3, constantValue := 0 }]
  methods := #[]
  instanceTypes := #[(.object "java/lang/String"), .int, .int]
  staticTypes := #[(.object "com/example/nestwire/nestwire/codec/RlpWalker$Step"), (.object "com/example/nestwire/nestwire/codec/RlpWalker$Step"), (.object "com/example/nestwire/nestwire/codec/RlpWalker$Step"), (.array (.object "com/example/nestwire/nestwire/codec/RlpWalker$Step"))]
  resolved := Array.replicate 56 none
  statics := some 0 }

def pool12 : Array CpInfo := pool [(1, u "java/lang/Cloneable"), (0, .class_ 1), (0, u "java/lang/Object"), (0, .class_ 3)] 3

/-- java/lang/Cloneable -/
def k12 : Class := { plain "java/lang/Cloneable" (some 0) with
  accessFlags := 1537
  interfaces := #[]
  cf := some (fileOf pool12 2 #[] #[] 1537 4 #[] #[])
  fields := #[]
  methods := #[]
  instanceTypes := #[]
  staticTypes := #[]
  resolved := Array.replicate 8 none
  statics := none }

/-- the primitive byte -/
def k13 : Class := { plain "byte" none with kind := .primitive 'B', accessFlags := 0x411 }
/-- [B -/
def k14 : Class := { plain "[B" (some 0) with kind := .array 13 .byte, interfaces := #[12, 4], accessFlags := 1041 }

/-- the primitive int -/
def k15 : Class := { plain "int" none with kind := .primitive 'I', accessFlags := 0x411 }
/-- [I -/
def k16 : Class := { plain "[I" (some 0) with kind := .array 15 .int, interfaces := #[12, 4], accessFlags := 1041 }

def heap : Heap := #[{ cls := 11, slots := #[.ref 3, .ref 1, .ref 2, .null], vm := .statics 11 },
  { cls := 11, slots := #[.null, .int 0, .int 0], vm := .none },
  { cls := 11, slots := #[.null, .int 1, .int 0], vm := .none },
  { cls := 11, slots := #[.null, .int 2, .int 0], vm := .none }]
def classes : Array Class := #[k0, k1, k2, k3, k4, k5, k6, k7, k8, k9, k10, k11, k12, k13, k14, k15, k16]
def interned : List (Array UInt16 × Addr) := []
def slotsUsed : Nat := 13
def theMethod : MethodId := ⟨1, 1⟩
def args0 : Array Value := #[.int 5, .int 7, .int 9, .int 11]
def aboutOver (below : List Frame) : State where
  vm := { classes := classes, interned := interned.toArray }
  heap := heap
  slotsUsed := slotsUsed
  threads := #[{ frames := .invoking theMethod args0 :: below }]
def below0 : List Frame := [.native { method := ⟨0, 0⟩, args := #[] }]
def about1 : State := aboutOver below0
def p0 : Program := .bare "" "" ""
def e0 : Env := launch0.env 0 0 0
theorem w_frames : about1.frames = Frame.invoking theMethod args0 :: below0 := rfl
set_option maxRecDepth 65536 in
theorem w_args : argsFit about1.vm theMethod args0 = true := by decide +kernel
set_option maxRecDepth 65536 in
theorem w_heap : heapFits about1 = true := by decide +kernel
set_option maxRecDepth 65536 in
theorem w_runnable : about1.curStatus? = some .runnable := by decide +kernel
set_option maxRecDepth 65536 in
theorem w_alone : about1.alone = true := by decide +kernel
set_option maxRecDepth 65536 in
theorem w_named : about1.methodNamed? x = some theMethod := by decide +kernel
set_option maxRecDepth 65536 in
theorem w_hears : about1.hears theMethod below0 = true := by decide +kernel
set_option maxRecDepth 65536 in
theorem w_ripe : about1.ripe theMethod args0 below0 = true := by decide +kernel
theorem w_running : about1.status = .running := rfl
set_option maxRecDepth 65536 in
theorem w_room : about1.hasRoom e0.platform room_1 = true :=
  launch0.hasRoom_least _ room_1 (by decide +kernel) (by decide +kernel) (by decide +kernel) (by decide +kernel) (by decide +kernel) (by decide +kernel)
theorem allAtoms_all (ts : List Jvm.Cond) (a : Array Jvm.Value) (st : Jvm.State) : (allAtoms ts).before a st = ts.all (fun c => c.before a st) := by
  induction ts with
  | nil => rfl
  | cons c t ih =>
    show (Jvm.Cond.and c (allAtoms t)).before a st = _
    rw [Jvm.Cond.before_and, ih, List.all_cons]
def words1 : List Jvm.Cond := Jvm.Cond.code x code maxLocals ret :: tables_1
/-- a 'code' word, met by the world's own term for the bytes: nothing is compared byte by byte -/
theorem code_word {y : MethodName} {bytes : ByteArray} {mx : Nat} {rt : Option FieldType} {a : Array Value} {s : State} {m : MethodId} {meth : Method} {c : Code} (h1 : s.methodNamed? y = some m) (h2 : s.vm.method? m = some meth) (h3 : meth.code = some c) (h4 : c.code = bytes)
    (h5 : (c.maxLocals == mx && c.exceptionTable.isEmpty && decide (c.maxStack ≤ mostOperands) && decide (meth.sig.returnType = rt) && !meth.locks && decide (parseMethodDescriptor y.desc = some meth.sig)) = true) : (Jvm.Cond.code y bytes mx rt).before a s = true := by
  simp only [Bool.and_eq_true, beq_iff_eq, Bool.not_eq_true', decide_eq_true_eq] at h5
  obtain ⟨⟨⟨⟨⟨g1, g2⟩, g3⟩, g4⟩, g5⟩, g6⟩ := h5
  simp [Cond.before, Cond.holds, Cond.value, h1, h2, h3, h4, g1, g2, g3, g4, g5, g6]
def isCode : Jvm.Cond → Bool
  | .code _ _ _ _ => true
  | _ => false
theorem all_split {L : List Jvm.Cond} {P : Jvm.Cond → Bool} (h1 : L.all (fun c => isCode c || P c) = true) (h2 : ∀ c ∈ L.filter isCode, P c = true) : L.all P = true := by
  refine List.all_eq_true.mpr fun c hc => ?_
  have h := List.all_eq_true.mp h1 c hc
  rcases Bool.eq_false_or_eq_true (isCode c) with hi | hi
  · exact h2 c (List.mem_filter.mpr ⟨hc, hi⟩)
  · simpa [hi] using h
set_option maxRecDepth 65536 in
theorem w_c0 : (Jvm.Cond.code x code maxLocals ret).before args0 about1 = true := code_word (m := ⟨1, 1⟩) (meth := k1m1) (c := k1c1) (by decide +kernel) rfl rfl rfl (by decide +kernel)
set_option maxRecDepth 65536 in
theorem w_c1 : (Jvm.Cond.code ({ cls := "com/example/nestwire/nestwire/codec/EncodingWalker", name := "<init>", desc := "([BII)V" } : Jvm.MethodName) prog_9_method_2_code (4 : Nat) (Option.none : Option Jvm.ClassFile.FieldType)).before args0 about1 = true := code_word (m := ⟨2, 0⟩) (meth := k2m0) (c := k2c0) (by decide +kernel) rfl rfl rfl (by decide +kernel)
set_option maxRecDepth 65536 in
theorem w_c2 : (Jvm.Cond.code ({ cls := "java/lang/Object", name := "<init>", desc := "()V" } : Jvm.MethodName) object_method_1_code (1 : Nat) (Option.none : Option Jvm.ClassFile.FieldType)).before args0 about1 = true := code_word (m := ⟨0, 0⟩) (meth := k0m0) (c := k0c0) (by decide +kernel) rfl rfl rfl (by decide +kernel)
set_option maxRecDepth 65536 in
theorem w_c3 : (Jvm.Cond.code ({ cls := "com/example/nestwire/nestwire/codec/Header", name := "<init>", desc := "()V" } : Jvm.MethodName) prog_16_method_1_code (1 : Nat) (Option.none : Option Jvm.ClassFile.FieldType)).before args0 about1 = true := code_word (m := ⟨3, 0⟩) (meth := k3m0) (c := k3c0) (by decide +kernel) rfl rfl rfl (by decide +kernel)
set_option maxRecDepth 65536 in
theorem w_c4 : (Jvm.Cond.code ({ cls := "com/example/nestwire/nestwire/codec/EncodingWalker", name := "atListEnd", desc := "()Z" } : Jvm.MethodName) prog_9_method_5_code (1 : Nat) (Option.some Jvm.ClassFile.FieldType.boolean)).before args0 about1 = true := code_word (m := ⟨2, 1⟩) (meth := k2m1) (c := k2c1) (by decide +kernel) rfl rfl rfl (by decide +kernel)
set_option maxRecDepth 65536 in
theorem w_c5 : (Jvm.Cond.code ({ cls := "com/example/nestwire/nestwire/codec/EncodingWalker", name := "next", desc := "()Lcom/example/nestwire/nestwire/codec/RlpWalker$Step;" } : Jvm.MethodName) prog_9_method_9_code (1 : Nat) (Option.some (Jvm.ClassFile.FieldType.object "com/example/nestwire/nestwire/codec/RlpWalker$Step"))).before args0 about1 = true := code_word (m := ⟨2, 2⟩) (meth := k2m2) (c := k2c2) (by decide +kernel) rfl rfl rfl (by decide +kernel)
set_option maxRecDepth 65536 in
theorem w_c6 : (Jvm.Cond.code ({ cls := "com/example/nestwire/nestwire/codec/EncodingWalker", name := "readHeader", desc := "()V" } : Jvm.MethodName) prog_9_method_15_code (1 : Nat) (Option.none : Option Jvm.ClassFile.FieldType)).before args0 about1 = true := code_word (m := ⟨2, 3⟩) (meth := k2m3) (c := k2c3) (by decide +kernel) rfl rfl rfl (by decide +kernel)
set_option maxRecDepth 65536 in
theorem w_c7 : (Jvm.Cond.code ({ cls := "com/example/nestwire/nestwire/codec/Header", name := "read", desc := "([BIIZ)V" } : Jvm.MethodName) prog_16_method_6_code (7 : Nat) (Option.none : Option Jvm.ClassFile.FieldType)).before args0 about1 = true := code_word (m := ⟨3, 4⟩) (meth := k3m4) (c := k3c4) (by decide +kernel) rfl rfl rfl (by decide +kernel)
set_option maxRecDepth 65536 in
theorem w_c8 : (Jvm.Cond.code ({ cls := "com/example/nestwire/nestwire/codec/Header", name := "readLength", desc := "([BIIZ)J" } : Jvm.MethodName) prog_16_method_7_code (12 : Nat) (Option.some Jvm.ClassFile.FieldType.long)).before args0 about1 = true := code_word (m := ⟨3, 5⟩) (meth := k3m5) (c := k3c5) (by decide +kernel) rfl rfl rfl (by decide +kernel)
set_option maxRecDepth 65536 in
theorem w_c9 : (Jvm.Cond.code ({ cls := "java/lang/Long", name := "compareUnsigned", desc := "(JJ)I" } : Jvm.MethodName) jdk_35_method_43_code (4 : Nat) (Option.some Jvm.ClassFile.FieldType.int)).before args0 about1 = true := code_word (m := ⟨9, 1⟩) (meth := k9m1) (c := k9c1) (by decide +kernel) rfl rfl rfl (by decide +kernel)
set_option maxRecDepth 65536 in
theorem w_c10 : (Jvm.Cond.code ({ cls := "java/lang/Long", name := "compare", desc := "(JJ)I" } : Jvm.MethodName) jdk_35_method_42_code (4 : Nat) (Option.some Jvm.ClassFile.FieldType.int)).before args0 about1 = true := code_word (m := ⟨9, 0⟩) (meth := k9m0) (c := k9c0) (by decide +kernel) rfl rfl rfl (by decide +kernel)
set_option maxRecDepth 65536 in
theorem w_c11 : (Jvm.Cond.code ({ cls := "com/example/nestwire/nestwire/codec/Header", name := "isList", desc := "()Z" } : Jvm.MethodName) prog_16_method_2_code (1 : Nat) (Option.some Jvm.ClassFile.FieldType.boolean)).before args0 about1 = true := code_word (m := ⟨3, 1⟩) (meth := k3m1) (c := k3c1) (by decide +kernel) rfl rfl rfl (by decide +kernel)
set_option maxRecDepth 65536 in
theorem w_c12 : (Jvm.Cond.code ({ cls := "com/example/nestwire/nestwire/codec/Header", name := "payloadEnd", desc := "()I" } : Jvm.MethodName) prog_16_method_5_code (1 : Nat) (Option.some Jvm.ClassFile.FieldType.int)).before args0 about1 = true := code_word (m := ⟨3, 3⟩) (meth := k3m3) (c := k3c3) (by decide +kernel) rfl rfl rfl (by decide +kernel)
set_option maxRecDepth 65536 in
theorem w_c13 : (Jvm.Cond.code ({ cls := "com/example/nestwire/nestwire/codec/Header", name := "payloadStart", desc := "()I" } : Jvm.MethodName) prog_16_method_3_code (1 : Nat) (Option.some Jvm.ClassFile.FieldType.int)).before args0 about1 = true := code_word (m := ⟨3, 2⟩) (meth := k3m2) (c := k3c2) (by decide +kernel) rfl rfl rfl (by decide +kernel)
set_option maxRecDepth 65536 in
theorem w_c14 : (Jvm.Cond.code ({ cls := "com/example/nestwire/nestwire/codec/EncodingWalkerAtListEndPinLaw", name := "put", desc := "([BIII)I" } : Jvm.MethodName) method_3_code (4 : Nat) (Option.some Jvm.ClassFile.FieldType.int)).before args0 about1 = true := code_word (m := ⟨1, 2⟩) (meth := k1m2) (c := k1c2) (by decide +kernel) rfl rfl rfl (by decide +kernel)
set_option maxRecDepth 65536 in
theorem w_c15 : (Jvm.Cond.code ({ cls := "com/example/nestwire/nestwire/codec/EncodingWalkerAtListEndPinLaw", name := "item", desc := "(Lcom/example/nestwire/nestwire/codec/EncodingWalker;IZ)Z" } : Jvm.MethodName) method_4_code (3 : Nat) (Option.some Jvm.ClassFile.FieldType.boolean)).before args0 about1 = true := code_word (m := ⟨1, 3⟩) (meth := k1m3) (c := k1c3) (by decide +kernel) rfl rfl rfl (by decide +kernel)
def codes1 : List Jvm.Cond := [Jvm.Cond.code x code maxLocals ret, Jvm.Cond.code ({ cls := "com/example/nestwire/nestwire/codec/EncodingWalker", name := "<init>", desc := "([BII)V" } : Jvm.MethodName) prog_9_method_2_code (4 : Nat) (Option.none : Option Jvm.ClassFile.FieldType), Jvm.Cond.code ({ cls := "java/lang/Object", name := "<init>", desc := "()V" } : Jvm.MethodName) object_method_1_code (1 : Nat) (Option.none : Option Jvm.ClassFile.FieldType), Jvm.Cond.code ({ cls := "com/example/nestwire/nestwire/codec/Header", name := "<init>", desc := "()V" } : Jvm.MethodName) prog_16_method_1_code (1 : Nat) (Option.none : Option Jvm.ClassFile.FieldType), Jvm.Cond.code ({ cls := "com/example/nestwire/nestwire/codec/EncodingWalker", name := "atListEnd", desc := "()Z" } : Jvm.MethodName) prog_9_method_5_code (1 : Nat) (Option.some Jvm.ClassFile.FieldType.boolean), Jvm.Cond.code ({ cls := "com/example/nestwire/nestwire/codec/EncodingWalker", name := "next", desc := "()Lcom/example/nestwire/nestwire/codec/RlpWalker$Step;" } : Jvm.MethodName) prog_9_method_9_code (1 : Nat) (Option.some (Jvm.ClassFile.FieldType.object "com/example/nestwire/nestwire/codec/RlpWalker$Step")), Jvm.Cond.code ({ cls := "com/example/nestwire/nestwire/codec/EncodingWalker", name := "readHeader", desc := "()V" } : Jvm.MethodName) prog_9_method_15_code (1 : Nat) (Option.none : Option Jvm.ClassFile.FieldType), Jvm.Cond.code ({ cls := "com/example/nestwire/nestwire/codec/Header", name := "read", desc := "([BIIZ)V" } : Jvm.MethodName) prog_16_method_6_code (7 : Nat) (Option.none : Option Jvm.ClassFile.FieldType), Jvm.Cond.code ({ cls := "com/example/nestwire/nestwire/codec/Header", name := "readLength", desc := "([BIIZ)J" } : Jvm.MethodName) prog_16_method_7_code (12 : Nat) (Option.some Jvm.ClassFile.FieldType.long), Jvm.Cond.code ({ cls := "java/lang/Long", name := "compareUnsigned", desc := "(JJ)I" } : Jvm.MethodName) jdk_35_method_43_code (4 : Nat) (Option.some Jvm.ClassFile.FieldType.int), Jvm.Cond.code ({ cls := "java/lang/Long", name := "compare", desc := "(JJ)I" } : Jvm.MethodName) jdk_35_method_42_code (4 : Nat) (Option.some Jvm.ClassFile.FieldType.int), Jvm.Cond.code ({ cls := "com/example/nestwire/nestwire/codec/Header", name := "isList", desc := "()Z" } : Jvm.MethodName) prog_16_method_2_code (1 : Nat) (Option.some Jvm.ClassFile.FieldType.boolean), Jvm.Cond.code ({ cls := "com/example/nestwire/nestwire/codec/Header", name := "payloadEnd", desc := "()I" } : Jvm.MethodName) prog_16_method_5_code (1 : Nat) (Option.some Jvm.ClassFile.FieldType.int), Jvm.Cond.code ({ cls := "com/example/nestwire/nestwire/codec/Header", name := "payloadStart", desc := "()I" } : Jvm.MethodName) prog_16_method_3_code (1 : Nat) (Option.some Jvm.ClassFile.FieldType.int), Jvm.Cond.code ({ cls := "com/example/nestwire/nestwire/codec/EncodingWalkerAtListEndPinLaw", name := "put", desc := "([BIII)I" } : Jvm.MethodName) method_3_code (4 : Nat) (Option.some Jvm.ClassFile.FieldType.int), Jvm.Cond.code ({ cls := "com/example/nestwire/nestwire/codec/EncodingWalkerAtListEndPinLaw", name := "item", desc := "(Lcom/example/nestwire/nestwire/codec/EncodingWalker;IZ)Z" } : Jvm.MethodName) method_4_code (3 : Nat) (Option.some Jvm.ClassFile.FieldType.boolean)]
set_option maxRecDepth 65536 in
theorem codes_eq : words1.filter isCode = codes1 := rfl
theorem w_codes : ∀ c ∈ words1.filter isCode, c.before args0 about1 = true := by
  rw [codes_eq]
  intro c hc
  simp only [codes1, List.mem_cons, List.not_mem_nil, or_false] at hc
  rcases hc with rfl | rfl | rfl | rfl | rfl | rfl | rfl | rfl | rfl | rfl | rfl | rfl | rfl | rfl | rfl | rfl
  · exact w_c0
  · exact w_c1
  · exact w_c2
  · exact w_c3
  · exact w_c4
  · exact w_c5
  · exact w_c6
  · exact w_c7
  · exact w_c8
  · exact w_c9
  · exact w_c10
  · exact w_c11
  · exact w_c12
  · exact w_c13
  · exact w_c14
  · exact w_c15
set_option maxRecDepth 65536 in
theorem w_t1 : (words1.take 24).all (fun c => isCode c || c.before args0 about1) = true := by decide +kernel
set_option maxRecDepth 65536 in
theorem w_t2 : ((words1.drop 24).take 24).all (fun c => isCode c || c.before args0 about1) = true := by decide +kernel
set_option maxRecDepth 65536 in
theorem w_t3 : (((words1.drop 24).drop 24).take 24).all (fun c => isCode c || c.before args0 about1) = true := by decide +kernel
set_option maxRecDepth 65536 in
theorem w_t4 : ((((words1.drop 24).drop 24).drop 24).take 24).all (fun c => isCode c || c.before args0 about1) = true := by decide +kernel
set_option maxRecDepth 65536 in
theorem w_t5 : ((((words1.drop 24).drop 24).drop 24).drop 24).all (fun c => isCode c || c.before args0 about1) = true := by decide +kernel
theorem w_tables : (allAtoms (Jvm.Cond.code x code maxLocals ret :: tables_1)).before args0 about1 = true := by
  rw [allAtoms_all]
  show words1.all (fun c => c.before args0 about1) = true
  refine all_split ?_ w_codes
  rw [← List.take_append_drop 24 words1, List.all_append, w_t1, ← List.take_append_drop 24 (words1.drop 24), List.all_append, w_t2, ← List.take_append_drop 24 ((words1.drop 24).drop 24), List.all_append, w_t3, ← List.take_append_drop 24 (((words1.drop 24).drop 24).drop 24), List.all_append, w_t4, w_t5]
  rfl
set_option maxRecDepth 65536 in
theorem w_case : (Jvm.Cond.and given_1 narrow_1).before args0 about1 = true := by decide +kernel
theorem w_applies : (headSpec (Jvm.Cond.code x code maxLocals ret :: tables_1) room_1).applies x e0.platform about1 = true :=
  (Spec.applies_iff w_frames).mpr ⟨w_running, w_runnable, w_alone, w_named, w_hears, w_ripe, w_room, w_tables⟩
theorem atStart : AtStart classFile x code maxLocals ret World_1 tables_1 room_1 Calls_1 rest_1 Pre_1 launch0 p0 e0 about1 theMethod args0 below0 :=
  ⟨lists_1, trivial, launch0.admits_env _ _ _, launch0.least_env, fairChoices_fair.cas, fairChoices_fair.clock, w_frames, w_args, w_heap, w_applies, trivial, trivial, w_case⟩
end start1
theorem witness_1 : WitnessClaimed_1 := ⟨start1.p0, start1.e0, start1.about1, start1.theMethod, start1.args0, start1.below0, start1.atStart⟩
end Jvm.Pilot.@@N@@
