import JvmDerived
import JvmDerived.Pilot.@@N@@Statement
import JvmDerived.Pilot.@@N@@Code
set_option linter.unusedVariables false
set_option linter.unusedSimpArgs false

namespace Jvm.Pilot.@@N@@
namespace Own
open Jvm Jvm.ClassFile Sem Op Lib Bundle Jvm.Free Jvm.Stand Jvm.LawKit Jvm.RoadKit
section Own
variable {l : Launch} {Z : State} {EL : List (String × Nat)} {y : MethodName} {bytes : ByteArray} {maxL : Nat} {ret : Option FieldType} {R : Room} {B0 : Addr → Prop} {Q : Option Value → Heap → (Addr → Prop) → Prop} {p : Program} {e : Env} {s : State} {m : MethodId} {args : Array Value} {below : List Frame} {meth : Method} {c : Code} {B : Addr → Prop} {T : State} {h h' : Heap} {k n : Nat} {a0 : Array Value} {pc pc' : Nat} {ls ls' : Array Slot} {st : List Value} {a b : Addr} {ws : List Addr} {ty : FieldType} {vs : List Value}
/-! facts on arrays and Strings -/
def Ar (Z : State) (h : Heap) (a : Addr) (ty : FieldType) (vs : List Value) : Prop := ∃ c : Cell, Arr Z h a c ty ∧ c.slots.toList = vs ∧ vs.length < 2 ^ 31 ∧ ∀ v ∈ vs, fits ty v = true
theorem Ar.keep (F : Ar Z h a ty vs) (K : Keep h h' ws) (q : a ∉ ws) : Ar Z h' a ty vs := by
  obtain ⟨c, A, r⟩ := F; exact ⟨c, ⟨K.2.1 a c A.1 q, A.2⟩, r⟩
theorem Ar.lt (F : Ar Z h a ty vs) : a < h.size := by obtain ⟨c, A, -⟩ := F; exact A.lt
theorem Ar.new {kc : ClassId} {z : Int32} (A : Arr Z h a (newA kc ty z) ty) (q : ¬ z < 0) : Ar Z h a ty (List.replicate z.toNatClampNeg (defaultValue ty)) :=
  ⟨_, A, by simp [newA], by simpa using (back32 q).2, fun v hv => by rw [List.eq_of_mem_replicate hv]; cases ty <;> rfl⟩
theorem len32 {n : Nat} (h : n < 2 ^ 31) : ¬ n.toInt32 < 0 ∧ n.toInt32.toNatClampNeg = n ∧ n.toInt32.toInt = n := by
  have e3 : n.toInt32.toInt = n := len_toInt h
  have e0 : (0 : Int32).toInt = 0 := rfl
  refine ⟨by rw [Int32.lt_iff_toInt_lt, e3, e0]; omega, by simp only [Int32.toNatClampNeg, e3]; omega, e3⟩
theorem Ar.toArv {z : Int32} (F : Ar Z h a ty vs) (hz : vs.length.toInt32 = z) (d : Value) : ∃ k, Arv Z h a k ty z vs d := by
  obtain ⟨c, A, e, hl, hf⟩ := F
  subst hz
  obtain ⟨q1, q2, -⟩ := len32 hl
  have e2 : c.slots.size = vs.length := by rw [← e]; simp
  refine ⟨c.cls, c, A, rfl, by rw [e2, q2], q1, fun i hi => ?_, fun i hi => ?_⟩
  · have hi' : i < vs.length := by omega
    rw [← Array.getElem?_toList, e, List.getD_eq_getElem?_getD, List.getElem?_eq_getElem hi']; rfl
  · have hi' : i < vs.length := by omega
    rw [List.getD_eq_getElem?_getD, List.getElem?_eq_getElem hi']; exact hf _ (List.getElem_mem _)
theorem Ar.ofArv {kc : ClassId} {z : Int32} {d : Value} (F : Arv Z h a kc ty z vs d) (hl : z.toNatClampNeg = vs.length) : Ar Z h a ty vs := by
  obtain ⟨c, A, -, S, q, H, G⟩ := F
  have e2 : c.slots.size = vs.length := by rw [S, hl]
  have e3 : c.slots.toList = vs := by
    apply List.ext_getElem?
    intro i
    by_cases hi : i < vs.length
    · rw [Array.getElem?_toList, H i (by omega), List.getD_eq_getElem?_getD, List.getElem?_eq_getElem hi]; rfl
    · rw [List.getElem?_eq_none (by rw [Array.length_toList]; omega), List.getElem?_eq_none (by omega)]
  refine ⟨c, A, e3, by rw [← hl]; exact (back32 q).2, fun v hv => ?_⟩
  obtain ⟨i, hi, rfl⟩ := List.getElem_of_mem hv
  have := G i (by omega)
  rwa [List.getD_eq_getElem?_getD, List.getElem?_eq_getElem hi] at this
theorem Ar.len_lt (F : Ar Z h a ty vs) : vs.length < 2 ^ 31 := by obtain ⟨c, A, e, hl, hf⟩ := F; exact hl
theorem Ar.fit (F : Ar Z h a ty vs) : ∀ v ∈ vs, fits ty v = true := by obtain ⟨c, A, e, hl, hf⟩ := F; exact hf
abbrev ST : String := "java/lang/String"
/-- bytes of Latin-1 chars -/
abbrev by8 (cs : List Int32) : List Value := cs.map fun c => Value.int c.toInt8.toInt32
def Lat (cs : List Int32) : Prop := ∀ c ∈ cs, 0 ≤ c.toInt ∧ c.toInt ≤ 255
/-- a is a String of the Latin-1 chars cs, its bytes in b -/
def Str (Z : State) (h : Heap) (a b : Addr) (cs : List Int32) : Prop := Exa Z h a ST ∧ Fld Z h a ST "coder" "B" (.int 0) ∧ Fld Z h a ST "value" "[B" (.ref b) ∧ Ar Z h b .byte (by8 cs) ∧ Lat cs
theorem Str.keep {cs : List Int32} (F : Str Z h a b cs) (K : Keep h h' ws) (q : a ∉ ws) (q' : b ∉ ws) : Str Z h' a b cs := ⟨F.1.keep K, F.2.1.keep K q, F.2.2.1.keep K q, F.2.2.2.1.keep K q', F.2.2.2.2⟩
theorem Str.exa {cs : List Int32} (F : Str Z h a b cs) : Exa Z h a ST := F.1
theorem Str.cod {cs : List Int32} (F : Str Z h a b cs) : Fld Z h a ST "coder" "B" (.int 0) := F.2.1
theorem Str.val {cs : List Int32} (F : Str Z h a b cs) : Fld Z h a ST "value" "[B" (.ref b) := F.2.2.1
theorem Str.arr {cs : List Int32} (F : Str Z h a b cs) : Ar Z h b .byte (by8 cs) := F.2.2.2.1
theorem Str.lat {cs : List Int32} (F : Str Z h a b cs) : Lat cs := F.2.2.2.2
theorem Str.lt {cs : List Int32} (F : Str Z h a b cs) : a < h.size := F.1.lt
theorem Str.ltb {cs : List Int32} (F : Str Z h a b cs) : b < h.size := F.arr.lt
theorem Str.len_lt {cs : List Int32} (F : Str Z h a b cs) : cs.length < 2 ^ 31 := by simpa using F.arr.len_lt
theorem strc {cs ds : List Int32} (F : Str Z h a b cs) (q : cs = ds) : Str Z h a b ds := q ▸ F
theorem Ar.ext (E : Ext h h') (F : Ar Z h a ty vs) : Ar Z h' a ty vs := by obtain ⟨c, A, r⟩ := F; exact ⟨c, A.ext E, r⟩
theorem Str.ext {cs : List Int32} (E : Ext h h') (F : Str Z h a b cs) : Str Z h' a b cs := ⟨F.1.ext E, F.2.1.ext E, F.2.2.1.ext E, F.2.2.2.1.ext E, F.2.2.2.2⟩
abbrev ASB : String := "java/lang/AbstractStringBuilder"
/-- a is a StringBuilder that holds the Latin-1 chars cs, in the array v of length cap -/
def Sb (Z : State) (h : Heap) (a v : Addr) (cs : List Int32) (cap : Nat) : Prop := Exa Z h a "java/lang/StringBuilder" ∧ Fld Z h a ASB "value" "[B" (.ref v) ∧ Fld Z h a ASB "coder" "B" (.int 0) ∧ Fld Z h a ASB "count" "I" (.int cs.length.toInt32) ∧ Lat cs ∧ cs.length ≤ cap ∧ ∃ vs, Ar Z h v .byte vs ∧ vs.length = cap ∧ vs.take cs.length = by8 cs
theorem Sb.keep {v : Addr} {cs : List Int32} {cap : Nat} (F : Sb Z h a v cs cap) (K : Keep h h' ws) (q : a ∉ ws) (q' : v ∉ ws) : Sb Z h' a v cs cap := by
  obtain ⟨h1, h2, h3, h4, h5, h6, vs, h7, h8⟩ := F
  exact ⟨h1.keep K, h2.keep K q, h3.keep K q, h4.keep K q, h5, h6, vs, h7.keep K q', h8⟩
theorem Sb.exa {v : Addr} {cs : List Int32} {cap : Nat} (F : Sb Z h a v cs cap) : Exa Z h a "java/lang/StringBuilder" := F.1
theorem Sb.val {v : Addr} {cs : List Int32} {cap : Nat} (F : Sb Z h a v cs cap) : Fld Z h a ASB "value" "[B" (.ref v) := F.2.1
theorem Sb.cod {v : Addr} {cs : List Int32} {cap : Nat} (F : Sb Z h a v cs cap) : Fld Z h a ASB "coder" "B" (.int 0) := F.2.2.1
theorem Sb.cnt {v : Addr} {cs : List Int32} {cap : Nat} (F : Sb Z h a v cs cap) : Fld Z h a ASB "count" "I" (.int cs.length.toInt32) := F.2.2.2.1
theorem Sb.lat {v : Addr} {cs : List Int32} {cap : Nat} (F : Sb Z h a v cs cap) : Lat cs := F.2.2.2.2.1
theorem Sb.lt {v : Addr} {cs : List Int32} {cap : Nat} (F : Sb Z h a v cs cap) : a < h.size := F.1.lt
theorem Sb.ltb {v : Addr} {cs : List Int32} {cap : Nat} (F : Sb Z h a v cs cap) : v < h.size := by obtain ⟨h1, h2, h3, h4, h5, h6, vs, h7, h8⟩ := F; exact h7.lt
/-- the array at a takes objects of class C -/
def Tk (Z : State) (h : Heap) (a : Addr) (C : String) : Prop := ∃ (c : Cell) (ty : FieldType), Arr Z h a c ty ∧ Ovr Z c.cls C
theorem Tk.keep {C : String} (F : Tk Z h a C) (K : Keep h h' ws) : Tk Z h' a C := by
  obtain ⟨c, ty, ⟨h1, ⟨s1, k1, s2, comp, s3⟩, h3⟩, O⟩ := F
  obtain ⟨c', q1, q2, q3, q4⟩ := K.2.2 a c h1
  exact ⟨c', ty, ⟨q1, ⟨by rw [q3]; exact s1, k1, by rw [q2]; exact s2, comp, s3⟩, by rw [q3]; exact h3⟩, by rw [q2]; exact O⟩
theorem exa_ne_ar {C : String} {kI : Nat} (E : Exa Z h a C) (wi : (Jvm.Cond.instantiable C kI).before a0 Z = true) (A : Ar Z h b ty vs) : a ≠ b := by obtain ⟨c, A, -⟩ := A; exact ne_arr E wi A
theorem ar_ne {ty' : FieldType} {vs' : List Value} (A : Ar Z h a ty vs) (A' : Ar Z h b ty' vs') (ht : ty ≠ ty') : a ≠ b := fun q => by
  subst q
  obtain ⟨c, ⟨h1, ⟨-, k1, h2, c1, h3⟩, -⟩, -⟩ := A
  obtain ⟨c', ⟨g1, ⟨-, k2, g2, c2, g3⟩, -⟩, -⟩ := A'
  cases h1.symm.trans g1
  cases h2.symm.trans g2
  have := h3.symm.trans g3
  injection this with _ e
  exact ht e
theorem ltb {a b : Nat} (q : Nat.ble (a + 1) b = true) : a < b := Nat.le_of_ble_eq_true q
theorem leb {a b : Nat} (q : Nat.ble a b = true) : a ≤ b := Nat.le_of_ble_eq_true q
/-! where the walk stands -/
def En (Z : State) (B : Addr → Prop) (h : Heap) : Prop := Ext Z.heap h ∧ ∀ x, B x → x < h.size
def Wk (l : Launch) (Z : State) (EL : List (String × Nat)) (y : MethodName) (bytes : ByteArray) (maxL : Nat) (ret : Option FieldType) (R : Room) (B0 : Addr → Prop) (p : Program) (e : Env) (s : State) (m : MethodId) (args : Array Value) (below : List Frame) (meth : Method) (c : Code) (B : Addr → Prop) (T : State) (h : Heap) (k n : Nat) : Prop :=
  (p.tables.exec = Jvm.exec ∧ c.code = bytes ∧ c.maxLocals = maxL ∧ meth.sig.returnType = ret ∧ meth.locks = false ∧ meth.name = y.name ∧ ∃ a1, EW Z a1 EL) ∧
  En Z B h ∧ s.heap.size ≤ h.size ∧ (∀ x, B x → B0 x ∨ s.heap.size ≤ x) ∧
  ∃ (V : Vm) (locs : List Loc) (q : Nat), Stand p l e R (s.setVm V) m args below meth c T locs k n ∧ T.heap = h ∧ Z.Warmed39 V ∧ V.findClass y.cls = some m.cls ∧ s.Since V q ∧ q ≤ h.size ∧ Fr Z.heap.size locs ∧ CHv Z EL V h ∧ (∀ x, Bk Z EL V h x → B x)
def Go (l : Launch) (Z : State) (EL : List (String × Nat)) (R : Room) (B0 : Addr → Prop) (Q : Option Value → Heap → (Addr → Prop) → Prop) (p : Program) (e : Env) (s : State) (m : MethodId) (below : List Frame) (T : State) (pc : Nat) (ls : Array Slot) (st : List Value) : Prop :=
  ∃ s₂ o, Steps p.tables e below (T.setTop (mkF m pc ls st)) s₂ ∧ s₂.status = .running ∧ Ended s₂ below o ∧ ∃ v L B', o = .returned v ∧ Fr Z.heap.size L ∧ CHv Z EL s₂.vm s₂.heap ∧ (∀ x, Bk Z EL s₂.vm s₂.heap x → B' x) ∧ (∀ x, B' x → B0 x ∨ s.heap.size ≤ x) ∧ En Z B' s₂.heap ∧ s.heap.size ≤ s₂.heap.size ∧ Q v s₂.heap B' ∧ ReturnedEndW s o s₂ L R.cells R.slots
def Con (l : Launch) (Z : State) (EL : List (String × Nat)) (wl : List Jvm.Cond) (y : MethodName) (bytes : ByteArray) (maxL : Nat) (ret : Option FieldType) (rm : Room) (B : Addr → Prop) (h : Heap) (as' : Array Value) (Q : Option Value → Heap → (Addr → Prop) → Prop) : Prop :=
  MetFree l y (head1 (Jvm.Cond.code y bytes maxL ret :: wl) rm) (fun a U => a = as' ∧ Z.Warmed39 U.vm ∧ U.heap = h ∧ CHv Z EL U.vm h ∧ ∀ x, Bk Z EL U.vm h x → B x) (fun _ _ _ _ _ => True)
    (fun _ U o U' => ∃ v L B', o = .returned v ∧ Fr Z.heap.size L ∧ CHv Z EL U'.vm U'.heap ∧ (∀ x, Bk Z EL U'.vm U'.heap x → B' x) ∧ (∀ x, B' x → B x ∨ h.size ≤ x) ∧ En Z B' U'.heap ∧ h.size ≤ U'.heap.size ∧ Q v U'.heap B' ∧ ReturnedEndW U o U' L rm.cells rm.slots)
theorem Wk.hx (X : Wk l Z EL y bytes maxL ret R B0 p e s m args below meth c B T h k n) : p.tables.exec = Jvm.exec := X.1.1
theorem Wk.dec (X : Wk l Z EL y bytes maxL ret R B0 p e s m args below meth c B T h k n) {r : Except DecodeError (Instr × Nat)} (hd : decode bytes pc = r) : decode c.code pc = r := X.1.2.1 ▸ hd
theorem Wk.en (X : Wk l Z EL y bytes maxL ret R B0 p e s m args below meth c B T h k n) : En Z B h := X.2.1
theorem Wk.old (X : Wk l Z EL y bytes maxL ret R B0 p e s m args below meth c B T h k n) : Ext Z.heap h := X.2.1.1
theorem Wk.z0 (X : Wk l Z EL y bytes maxL ret R B0 p e s m args below meth c B T h k n) : Z.heap.size ≤ h.size := X.2.1.1.1
theorem Wk.zs (X : Wk l Z EL y bytes maxL ret R B0 p e s m args below meth c B T h k n) : s.heap.size ≤ h.size := X.2.2.1
theorem Wk.nb (X : Wk l Z EL y bytes maxL ret R B0 p e s m args below meth c B T h k n) (q : h.size ≤ a) : ¬ B a := fun r => absurd (X.2.1.2 a r) (Nat.not_lt.mpr q)
theorem Wk.here (X : Wk l Z EL y bytes maxL ret R B0 p e s m args below meth c B T h k n) : At T m c below := by obtain ⟨-, -, -, -, V, locs, q, X1, -⟩ := X; exact X1.here
theorem Wk.mono (X : Wk l Z EL y bytes maxL ret R B0 p e s m args below meth c B T h k n) {k' n' : Nat} (q : k ≤ k') (r : n ≤ n') : Wk l Z EL y bytes maxL ret R B0 p e s m args below meth c B T h k' n' := by
  obtain ⟨i, hE, hz, hB, V, locs, q0, X1, rest⟩ := X; exact ⟨i, hE, hz, hB, V, locs, q0, X1.mono q r, rest⟩
theorem Go.step {T' : State} {st' : List Value} (hst : ∀ t, Steps p.tables e below (T'.setTop (mkF m pc' ls' st')) t → Steps p.tables e below (T.setTop (mkF m pc ls st)) t) (g : Go l Z EL R B0 Q p e s m below T' pc' ls' st') : Go l Z EL R B0 Q p e s m below T pc ls st := by
  obtain ⟨s₂, o, h1, r⟩ := g
  exact ⟨s₂, o, hst _ h1, r⟩
theorem Go.via {T' : State} {st' : List Value} (hst : Steps p.tables e below (T.setTop (mkF m pc ls st)) (T'.setTop (mkF m pc' ls' st'))) (g : Go l Z EL R B0 Q p e s m below T' pc' ls' st') : Go l Z EL R B0 Q p e s m below T pc ls st := Go.step (fun _ r => hst.trans r) g
theorem gh (e1 : Go l Z EL R B0 Q p e s m below T pc ls st) (e2 : st = vs) : Go l Z EL R B0 Q p e s m below T pc ls vs := e2 ▸ e1

theorem W.iload (X : Wk l Z EL y bytes maxL ret R B0 p e s m args below meth c B T h k n) {j : Nat} {v : Int32} (hd : decode bytes pc = .ok (.iload j, 2)) (hl : ls[j]? = some (.val (.int v))) (hp : pc + 2 = pc') (g : Go l Z EL R B0 Q p e s m below T pc' ls (.int v :: st)) : Go l Z EL R B0 Q p e s m below T pc ls st := by
  subst hp; exact Go.step (fun t hr => XS.iload X.here X.hx rfl (X.dec hd) hl hr) g
theorem W.iloadN (X : Wk l Z EL y bytes maxL ret R B0 p e s m args below meth c B T h k n) {j : Fin 4} {v : Int32} (hd : decode bytes pc = .ok (.iload_n j, 1)) (hl : ls[j.val]? = some (.val (.int v))) (hp : pc + 1 = pc') (g : Go l Z EL R B0 Q p e s m below T pc' ls (.int v :: st)) : Go l Z EL R B0 Q p e s m below T pc ls st := by
  subst hp; exact Go.step (fun t hr => XS.iloadN X.here X.hx rfl (X.dec hd) hl hr) g
theorem W.istore (X : Wk l Z EL y bytes maxL ret R B0 p e s m args below meth c B T h k n) {j : Nat} {v : Int32} (hd : decode bytes pc = .ok (.istore j, 2)) (hl : storeLocals ls j (.int v) = some ls') (hp : pc + 2 = pc') (g : Go l Z EL R B0 Q p e s m below T pc' ls' st) : Go l Z EL R B0 Q p e s m below T pc ls (.int v :: st) := by
  subst hp; exact Go.step (fun t hr => XS.istore X.here X.hx rfl (X.dec hd) rfl hl hr) g
theorem W.istoreN (X : Wk l Z EL y bytes maxL ret R B0 p e s m args below meth c B T h k n) {j : Fin 4} {v : Int32} (hd : decode bytes pc = .ok (.istore_n j, 1)) (hl : storeLocals ls j.val (.int v) = some ls') (hp : pc + 1 = pc') (g : Go l Z EL R B0 Q p e s m below T pc' ls' st) : Go l Z EL R B0 Q p e s m below T pc ls (.int v :: st) := by
  subst hp; exact Go.step (fun t hr => XS.istoreN X.here X.hx rfl (X.dec hd) rfl hl hr) g
theorem W.lload (X : Wk l Z EL y bytes maxL ret R B0 p e s m args below meth c B T h k n) {j : Nat} {v : Int64} (hd : decode bytes pc = .ok (.lload j, 2)) (hl : ls[j]? = some (.val (.long v))) (hp : pc + 2 = pc') (g : Go l Z EL R B0 Q p e s m below T pc' ls (.long v :: st)) : Go l Z EL R B0 Q p e s m below T pc ls st := by
  subst hp; exact Go.step (fun t hr => XT.lload X.here X.hx rfl (X.dec hd) hl hr) g
theorem W.lloadN (X : Wk l Z EL y bytes maxL ret R B0 p e s m args below meth c B T h k n) {j : Fin 4} {v : Int64} (hd : decode bytes pc = .ok (.lload_n j, 1)) (hl : ls[j.val]? = some (.val (.long v))) (hp : pc + 1 = pc') (g : Go l Z EL R B0 Q p e s m below T pc' ls (.long v :: st)) : Go l Z EL R B0 Q p e s m below T pc ls st := by
  subst hp; exact Go.step (fun t hr => XT.lloadN X.here X.hx rfl (X.dec hd) hl hr) g
theorem W.lstore (X : Wk l Z EL y bytes maxL ret R B0 p e s m args below meth c B T h k n) {j : Nat} {v : Int64} (hd : decode bytes pc = .ok (.lstore j, 2)) (hl : storeLocals ls j (.long v) = some ls') (hp : pc + 2 = pc') (g : Go l Z EL R B0 Q p e s m below T pc' ls' st) : Go l Z EL R B0 Q p e s m below T pc ls (.long v :: st) := by
  subst hp; exact Go.step (fun t hr => XT.lstore X.here X.hx rfl (X.dec hd) rfl hl hr) g
theorem W.lstoreN (X : Wk l Z EL y bytes maxL ret R B0 p e s m args below meth c B T h k n) {j : Fin 4} {v : Int64} (hd : decode bytes pc = .ok (.lstore_n j, 1)) (hl : storeLocals ls j.val (.long v) = some ls') (hp : pc + 1 = pc') (g : Go l Z EL R B0 Q p e s m below T pc' ls' st) : Go l Z EL R B0 Q p e s m below T pc ls (.long v :: st) := by
  subst hp; exact Go.step (fun t hr => XT.lstoreN X.here X.hx rfl (X.dec hd) rfl hl hr) g
theorem W.aload (X : Wk l Z EL y bytes maxL ret R B0 p e s m args below meth c B T h k n) {j : Nat} {v : Value} (hd : decode bytes pc = .ok (.aload j, 2)) (hl : ls[j]? = some (.val v)) (hv : v.isRef = true) (hp : pc + 2 = pc') (g : Go l Z EL R B0 Q p e s m below T pc' ls (v :: st)) : Go l Z EL R B0 Q p e s m below T pc ls st := by
  subst hp; exact Go.step (fun t hr => XS.aload X.here X.hx rfl (X.dec hd) hl hv hr) g
theorem W.aloadN (X : Wk l Z EL y bytes maxL ret R B0 p e s m args below meth c B T h k n) {j : Fin 4} {v : Value} (hd : decode bytes pc = .ok (.aload_n j, 1)) (hl : ls[j.val]? = some (.val v)) (hv : v.isRef = true) (hp : pc + 1 = pc') (g : Go l Z EL R B0 Q p e s m below T pc' ls (v :: st)) : Go l Z EL R B0 Q p e s m below T pc ls st := by
  subst hp; exact Go.step (fun t hr => XS.aloadN X.here X.hx rfl (X.dec hd) hl hv hr) g
theorem W.astore (X : Wk l Z EL y bytes maxL ret R B0 p e s m args below meth c B T h k n) {j : Nat} {v : Value} (hd : decode bytes pc = .ok (.astore j, 2)) (hv : v.isRef = true) (hl : storeLocals ls j v = some ls') (hp : pc + 2 = pc') (g : Go l Z EL R B0 Q p e s m below T pc' ls' st) : Go l Z EL R B0 Q p e s m below T pc ls (v :: st) := by
  subst hp; exact Go.step (fun t hr => XS.astore X.here X.hx rfl (X.dec hd) rfl hv hl hr) g
theorem W.astoreN (X : Wk l Z EL y bytes maxL ret R B0 p e s m args below meth c B T h k n) {j : Fin 4} {v : Value} (hd : decode bytes pc = .ok (.astore_n j, 1)) (hv : v.isRef = true) (hl : storeLocals ls j.val v = some ls') (hp : pc + 1 = pc') (g : Go l Z EL R B0 Q p e s m below T pc' ls' st) : Go l Z EL R B0 Q p e s m below T pc ls (v :: st) := by
  subst hp; exact Go.step (fun t hr => XS.astoreN X.here X.hx rfl (X.dec hd) rfl hv hl hr) g
theorem W.iconst (X : Wk l Z EL y bytes maxL ret R B0 p e s m args below meth c B T h k n) {i : Int} (v : Int32) (hd : decode bytes pc = .ok (.iconst i, 1)) (hv : Int32.ofInt i = v) (hp : pc + 1 = pc') (g : Go l Z EL R B0 Q p e s m below T pc' ls (.int v :: st)) : Go l Z EL R B0 Q p e s m below T pc ls st := by
  subst hp; exact Go.step (fun t hr => XT.iconstV X.here X.hx rfl v (X.dec hd) hv hr) g
theorem W.bipush (X : Wk l Z EL y bytes maxL ret R B0 p e s m args below meth c B T h k n) {i : Int} (v : Int32) (hd : decode bytes pc = .ok (.bipush i, 2)) (hv : (Int8.ofInt i).toInt32 = v) (hp : pc + 2 = pc') (g : Go l Z EL R B0 Q p e s m below T pc' ls (.int v :: st)) : Go l Z EL R B0 Q p e s m below T pc ls st := by
  subst hp; exact Go.step (fun t hr => XT.bipushV X.here X.hx rfl v (X.dec hd) hv hr) g
theorem W.sipush (X : Wk l Z EL y bytes maxL ret R B0 p e s m args below meth c B T h k n) {i : Int} (v : Int32) (hd : decode bytes pc = .ok (.sipush i, 3)) (hv : (Int16.ofInt i).toInt32 = v) (hp : pc + 3 = pc') (g : Go l Z EL R B0 Q p e s m below T pc' ls (.int v :: st)) : Go l Z EL R B0 Q p e s m below T pc ls st := by
  subst hp; exact Go.step (fun t hr => XT.sipushV X.here X.hx rfl v (X.dec hd) hv hr) g
theorem W.lconst (X : Wk l Z EL y bytes maxL ret R B0 p e s m args below meth c B T h k n) {i : Fin 2} (v : Int64) (hd : decode bytes pc = .ok (.lconst i, 1)) (hv : Int64.ofNat i = v) (hp : pc + 1 = pc') (g : Go l Z EL R B0 Q p e s m below T pc' ls (.long v :: st)) : Go l Z EL R B0 Q p e s m below T pc ls st := by
  subst hp; exact Go.step (fun t hr => XT.lconstV X.here X.hx rfl v (X.dec hd) hv hr) g
theorem W.aconst_null (X : Wk l Z EL y bytes maxL ret R B0 p e s m args below meth c B T h k n)  (hd : decode bytes pc = .ok (.aconst_null, 1))  (hp : pc + 1 = pc') (g : Go l Z EL R B0 Q p e s m below T pc' ls (.null :: st)) : Go l Z EL R B0 Q p e s m below T pc ls st := by
  subst hp; exact Go.step (fun t hr => XS.aconstNull X.here X.hx rfl (X.dec hd) hr) g
theorem W.iadd (X : Wk l Z EL y bytes maxL ret R B0 p e s m args below meth c B T h k n) {x z : Int32} {w : Int32} (hd : decode bytes pc = .ok (.iadd, 1)) (hw : x + z = w) (hp : pc + 1 = pc') (g : Go l Z EL R B0 Q p e s m below T pc' ls (.int w :: st)) : Go l Z EL R B0 Q p e s m below T pc ls (.int z :: .int x :: st) := by
  subst hp; exact Go.step (fun t hr => by subst hw; exact XS.iadd X.here X.hx rfl (X.dec hd) rfl hr) g
theorem W.isub (X : Wk l Z EL y bytes maxL ret R B0 p e s m args below meth c B T h k n) {x z : Int32} {w : Int32} (hd : decode bytes pc = .ok (.isub, 1)) (hw : x - z = w) (hp : pc + 1 = pc') (g : Go l Z EL R B0 Q p e s m below T pc' ls (.int w :: st)) : Go l Z EL R B0 Q p e s m below T pc ls (.int z :: .int x :: st) := by
  subst hp; exact Go.step (fun t hr => by subst hw; exact XS.isub X.here X.hx rfl (X.dec hd) rfl hr) g
theorem W.iand (X : Wk l Z EL y bytes maxL ret R B0 p e s m args below meth c B T h k n) {x z : Int32} {w : Int32} (hd : decode bytes pc = .ok (.iand, 1)) (hw : x &&& z = w) (hp : pc + 1 = pc') (g : Go l Z EL R B0 Q p e s m below T pc' ls (.int w :: st)) : Go l Z EL R B0 Q p e s m below T pc ls (.int z :: .int x :: st) := by
  subst hp; exact Go.step (fun t hr => by subst hw; exact XS.iand X.here X.hx rfl (X.dec hd) rfl hr) g
theorem W.imul (X : Wk l Z EL y bytes maxL ret R B0 p e s m args below meth c B T h k n) {x z : Int32} {w : Int32} (hd : decode bytes pc = .ok (.imul, 1)) (hw : x * z = w) (hp : pc + 1 = pc') (g : Go l Z EL R B0 Q p e s m below T pc' ls (.int w :: st)) : Go l Z EL R B0 Q p e s m below T pc ls (.int z :: .int x :: st) := by
  subst hp; exact Go.step (fun t hr => by subst hw; exact XS.imul X.here X.hx rfl (X.dec hd) rfl hr) g
theorem W.ixor (X : Wk l Z EL y bytes maxL ret R B0 p e s m args below meth c B T h k n) {x z : Int32} {w : Int32} (hd : decode bytes pc = .ok (.ixor, 1)) (hw : x ^^^ z = w) (hp : pc + 1 = pc') (g : Go l Z EL R B0 Q p e s m below T pc' ls (.int w :: st)) : Go l Z EL R B0 Q p e s m below T pc ls (.int z :: .int x :: st) := by
  subst hp; exact Go.step (fun t hr => by subst hw; exact XT.ixor X.here X.hx rfl (X.dec hd) rfl hr) g
theorem W.ior (X : Wk l Z EL y bytes maxL ret R B0 p e s m args below meth c B T h k n) {x z : Int32} {w : Int32} (hd : decode bytes pc = .ok (.ior, 1)) (hw : x ||| z = w) (hp : pc + 1 = pc') (g : Go l Z EL R B0 Q p e s m below T pc' ls (.int w :: st)) : Go l Z EL R B0 Q p e s m below T pc ls (.int z :: .int x :: st) := by
  subst hp; exact Go.step (fun t hr => by subst hw; exact XT.ior X.here X.hx rfl (X.dec hd) rfl hr) g
theorem W.ishl (X : Wk l Z EL y bytes maxL ret R B0 p e s m args below meth c B T h k n) {x z : Int32} {w : Int32} (hd : decode bytes pc = .ok (.ishl, 1)) (hw : x <<< (z &&& 31) = w) (hp : pc + 1 = pc') (g : Go l Z EL R B0 Q p e s m below T pc' ls (.int w :: st)) : Go l Z EL R B0 Q p e s m below T pc ls (.int z :: .int x :: st) := by
  subst hp; exact Go.step (fun t hr => by subst hw; exact XT.ishl X.here X.hx rfl (X.dec hd) rfl hr) g
theorem W.ishr (X : Wk l Z EL y bytes maxL ret R B0 p e s m args below meth c B T h k n) {x z : Int32} {w : Int32} (hd : decode bytes pc = .ok (.ishr, 1)) (hw : x >>> (z &&& 31) = w) (hp : pc + 1 = pc') (g : Go l Z EL R B0 Q p e s m below T pc' ls (.int w :: st)) : Go l Z EL R B0 Q p e s m below T pc ls (.int z :: .int x :: st) := by
  subst hp; exact Go.step (fun t hr => by subst hw; exact XT.ishr X.here X.hx rfl (X.dec hd) rfl hr) g
theorem W.iushr (X : Wk l Z EL y bytes maxL ret R B0 p e s m args below meth c B T h k n) {x z : Int32} {w : Int32} (hd : decode bytes pc = .ok (.iushr, 1)) (hw : XT.ushr x z = w) (hp : pc + 1 = pc') (g : Go l Z EL R B0 Q p e s m below T pc' ls (.int w :: st)) : Go l Z EL R B0 Q p e s m below T pc ls (.int z :: .int x :: st) := by
  subst hp; exact Go.step (fun t hr => by subst hw; exact XT.iushr X.here X.hx rfl (X.dec hd) rfl hr) g
theorem W.idiv (X : Wk l Z EL y bytes maxL ret R B0 p e s m args below meth c B T h k n) {x z : Int32} {w : Int32} (hd : decode bytes pc = .ok (.idiv, 1)) (hz : z ≠ 0) (hw : x / z = w) (hp : pc + 1 = pc') (g : Go l Z EL R B0 Q p e s m below T pc' ls (.int w :: st)) : Go l Z EL R B0 Q p e s m below T pc ls (.int z :: .int x :: st) := by
  subst hp; exact Go.step (fun t hr => by subst hw; exact XS.idiv X.here X.hx rfl (X.dec hd) rfl hz hr) g
theorem W.irem (X : Wk l Z EL y bytes maxL ret R B0 p e s m args below meth c B T h k n) {x z : Int32} {w : Int32} (hd : decode bytes pc = .ok (.irem, 1)) (hz : z ≠ 0) (hw : x % z = w) (hp : pc + 1 = pc') (g : Go l Z EL R B0 Q p e s m below T pc' ls (.int w :: st)) : Go l Z EL R B0 Q p e s m below T pc ls (.int z :: .int x :: st) := by
  subst hp; exact Go.step (fun t hr => by subst hw; exact XS.irem X.here X.hx rfl (X.dec hd) rfl hz (by rw [Jvm.irem_eq_mod]; exact hr)) g
theorem W.ineg (X : Wk l Z EL y bytes maxL ret R B0 p e s m args below meth c B T h k n) {x : Int32} {w : Int32} (hd : decode bytes pc = .ok (.ineg, 1)) (hw : -x = w) (hp : pc + 1 = pc') (g : Go l Z EL R B0 Q p e s m below T pc' ls (.int w :: st)) : Go l Z EL R B0 Q p e s m below T pc ls (.int x :: st) := by
  subst hp; exact Go.step (fun t hr => by subst hw; exact XS.ineg X.here X.hx rfl (X.dec hd) rfl hr) g
theorem W.ladd (X : Wk l Z EL y bytes maxL ret R B0 p e s m args below meth c B T h k n) {x z : Int64} {w : Int64} (hd : decode bytes pc = .ok (.ladd, 1)) (hw : x + z = w) (hp : pc + 1 = pc') (g : Go l Z EL R B0 Q p e s m below T pc' ls (.long w :: st)) : Go l Z EL R B0 Q p e s m below T pc ls (.long z :: .long x :: st) := by
  subst hp; exact Go.step (fun t hr => by subst hw; exact XT.ladd X.here X.hx rfl (X.dec hd) rfl hr) g
theorem W.lsub (X : Wk l Z EL y bytes maxL ret R B0 p e s m args below meth c B T h k n) {x z : Int64} {w : Int64} (hd : decode bytes pc = .ok (.lsub, 1)) (hw : x - z = w) (hp : pc + 1 = pc') (g : Go l Z EL R B0 Q p e s m below T pc' ls (.long w :: st)) : Go l Z EL R B0 Q p e s m below T pc ls (.long z :: .long x :: st) := by
  subst hp; exact Go.step (fun t hr => by subst hw; exact XT.lsub X.here X.hx rfl (X.dec hd) rfl hr) g
theorem W.land (X : Wk l Z EL y bytes maxL ret R B0 p e s m args below meth c B T h k n) {x z : Int64} {w : Int64} (hd : decode bytes pc = .ok (.land, 1)) (hw : x &&& z = w) (hp : pc + 1 = pc') (g : Go l Z EL R B0 Q p e s m below T pc' ls (.long w :: st)) : Go l Z EL R B0 Q p e s m below T pc ls (.long z :: .long x :: st) := by
  subst hp; exact Go.step (fun t hr => by subst hw; exact XT.land X.here X.hx rfl (X.dec hd) rfl hr) g
theorem W.lmul (X : Wk l Z EL y bytes maxL ret R B0 p e s m args below meth c B T h k n) {x z : Int64} {w : Int64} (hd : decode bytes pc = .ok (.lmul, 1)) (hw : x * z = w) (hp : pc + 1 = pc') (g : Go l Z EL R B0 Q p e s m below T pc' ls (.long w :: st)) : Go l Z EL R B0 Q p e s m below T pc ls (.long z :: .long x :: st) := by
  subst hp; exact Go.step (fun t hr => by subst hw; exact XT.lmul X.here X.hx rfl (X.dec hd) rfl hr) g
theorem W.lor (X : Wk l Z EL y bytes maxL ret R B0 p e s m args below meth c B T h k n) {x z : Int64} {w : Int64} (hd : decode bytes pc = .ok (.lor, 1)) (hw : x ||| z = w) (hp : pc + 1 = pc') (g : Go l Z EL R B0 Q p e s m below T pc' ls (.long w :: st)) : Go l Z EL R B0 Q p e s m below T pc ls (.long z :: .long x :: st) := by
  subst hp; exact Go.step (fun t hr => by subst hw; exact XT.lor X.here X.hx rfl (X.dec hd) rfl hr) g
theorem W.ldiv (X : Wk l Z EL y bytes maxL ret R B0 p e s m args below meth c B T h k n) {x z : Int64} {w : Int64} (hd : decode bytes pc = .ok (.ldiv, 1)) (hz : z ≠ 0) (hw : x / z = w) (hp : pc + 1 = pc') (g : Go l Z EL R B0 Q p e s m below T pc' ls (.long w :: st)) : Go l Z EL R B0 Q p e s m below T pc ls (.long z :: .long x :: st) := by
  subst hp; exact Go.step (fun t hr => by subst hw; exact XT.ldiv X.here X.hx rfl (X.dec hd) rfl hz hr) g
theorem W.lrem (X : Wk l Z EL y bytes maxL ret R B0 p e s m args below meth c B T h k n) {x z : Int64} {w : Int64} (hd : decode bytes pc = .ok (.lrem, 1)) (hz : z ≠ 0) (hw : x - (x / z) * z = w) (hp : pc + 1 = pc') (g : Go l Z EL R B0 Q p e s m below T pc' ls (.long w :: st)) : Go l Z EL R B0 Q p e s m below T pc ls (.long z :: .long x :: st) := by
  subst hp; exact Go.step (fun t hr => by subst hw; exact XT.lrem X.here X.hx rfl (X.dec hd) rfl hz hr) g
theorem W.lneg (X : Wk l Z EL y bytes maxL ret R B0 p e s m args below meth c B T h k n) {x : Int64} {w : Int64} (hd : decode bytes pc = .ok (.lneg, 1)) (hw : -x = w) (hp : pc + 1 = pc') (g : Go l Z EL R B0 Q p e s m below T pc' ls (.long w :: st)) : Go l Z EL R B0 Q p e s m below T pc ls (.long x :: st) := by
  subst hp; exact Go.step (fun t hr => by subst hw; exact XT.lneg X.here X.hx rfl (X.dec hd) rfl hr) g
theorem W.lushr (X : Wk l Z EL y bytes maxL ret R B0 p e s m args below meth c B T h k n) {x : Int64} {z : Int32} {w : Int64} (hd : decode bytes pc = .ok (.lushr, 1)) (hw : XT.ushrL x z = w) (hp : pc + 1 = pc') (g : Go l Z EL R B0 Q p e s m below T pc' ls (.long w :: st)) : Go l Z EL R B0 Q p e s m below T pc ls (.int z :: .long x :: st) := by
  subst hp; exact Go.step (fun t hr => by subst hw; exact XT.lushr X.here X.hx rfl (X.dec hd) rfl hr) g
theorem W.lcmp (X : Wk l Z EL y bytes maxL ret R B0 p e s m args below meth c B T h k n) {x z : Int64} {w : Int32} (hd : decode bytes pc = .ok (.lcmp, 1)) (hw : XT.cmpL x z = w) (hp : pc + 1 = pc') (g : Go l Z EL R B0 Q p e s m below T pc' ls (.int w :: st)) : Go l Z EL R B0 Q p e s m below T pc ls (.long z :: .long x :: st) := by
  subst hp; exact Go.step (fun t hr => by subst hw; exact XT.lcmp X.here X.hx rfl (X.dec hd) rfl hr) g
theorem W.i2l (X : Wk l Z EL y bytes maxL ret R B0 p e s m args below meth c B T h k n) {x : Int32} {w : Int64} (hd : decode bytes pc = .ok (.i2l, 1)) (hw : x.toInt64 = w) (hp : pc + 1 = pc') (g : Go l Z EL R B0 Q p e s m below T pc' ls (.long w :: st)) : Go l Z EL R B0 Q p e s m below T pc ls (.int x :: st) := by
  subst hp; exact Go.step (fun t hr => by subst hw; exact XT.i2l X.here X.hx rfl (X.dec hd) rfl hr) g
theorem W.l2i (X : Wk l Z EL y bytes maxL ret R B0 p e s m args below meth c B T h k n) {x : Int64} {w : Int32} (hd : decode bytes pc = .ok (.l2i, 1)) (hw : x.toInt32 = w) (hp : pc + 1 = pc') (g : Go l Z EL R B0 Q p e s m below T pc' ls (.int w :: st)) : Go l Z EL R B0 Q p e s m below T pc ls (.long x :: st) := by
  subst hp; exact Go.step (fun t hr => by subst hw; exact XT.l2i X.here X.hx rfl (X.dec hd) rfl hr) g
theorem W.i2b (X : Wk l Z EL y bytes maxL ret R B0 p e s m args below meth c B T h k n) {x : Int32} {w : Int32} (hd : decode bytes pc = .ok (.i2b, 1)) (hw : x.toInt8.toInt32 = w) (hp : pc + 1 = pc') (g : Go l Z EL R B0 Q p e s m below T pc' ls (.int w :: st)) : Go l Z EL R B0 Q p e s m below T pc ls (.int x :: st) := by
  subst hp; exact Go.step (fun t hr => by subst hw; exact XT.i2b X.here X.hx rfl (X.dec hd) rfl hr) g
theorem W.i2c (X : Wk l Z EL y bytes maxL ret R B0 p e s m args below meth c B T h k n) {x : Int32} {w : Int32} (hd : decode bytes pc = .ok (.i2c, 1)) (hw : x.toUInt32.toUInt16.toUInt32.toInt32 = w) (hp : pc + 1 = pc') (g : Go l Z EL R B0 Q p e s m below T pc' ls (.int w :: st)) : Go l Z EL R B0 Q p e s m below T pc ls (.int x :: st) := by
  subst hp; exact Go.step (fun t hr => by subst hw; exact XT.i2c X.here X.hx rfl (X.dec hd) rfl hr) g
theorem W.iinc (X : Wk l Z EL y bytes maxL ret R B0 p e s m args below meth c B T h k n) {j : Nat} {cst : Int} {x : Int32} (v : Int32) {w : Int32} (hd : decode bytes pc = .ok (.iinc j cst, 3)) (hv : Int32.ofInt cst = v) (hl : ls[j]? = some (.val (.int x))) (hw : x + v = w) (hl' : storeLocals ls j (.int w) = some ls') (hp : pc + 3 = pc') (g : Go l Z EL R B0 Q p e s m below T pc' ls' st) : Go l Z EL R B0 Q p e s m below T pc ls st := by
  subst hp; exact Go.step (fun t hr => by subst hw; exact XT.iincV X.here X.hx rfl v (X.dec hd) hv hl hl' hr) g
theorem W.popV (X : Wk l Z EL y bytes maxL ret R B0 p e s m args below meth c B T h k n) {v : Value} (hd : decode bytes pc = .ok (.pop, 1)) (hc : v.category = 1) (hp : pc + 1 = pc') (g : Go l Z EL R B0 Q p e s m below T pc' ls st) : Go l Z EL R B0 Q p e s m below T pc ls (v :: st) := by
  subst hp; exact Go.step (fun t hr => XT.pop X.here X.hx rfl (X.dec hd) rfl hc hr) g
theorem W.dup (X : Wk l Z EL y bytes maxL ret R B0 p e s m args below meth c B T h k n) {v : Value} (hd : decode bytes pc = .ok (.dup, 1)) (hc : v.category = 1) (hp : pc + 1 = pc') (g : Go l Z EL R B0 Q p e s m below T pc' ls (v :: v :: st)) : Go l Z EL R B0 Q p e s m below T pc ls (v :: st) := by
  subst hp; exact Go.step (fun t hr => XS.dup X.here X.hx rfl (X.dec hd) rfl hc hr) g
theorem W.dup_x1 (X : Wk l Z EL y bytes maxL ret R B0 p e s m args below meth c B T h k n) {v w : Value} (hd : decode bytes pc = .ok (.dup_x1, 1)) (hc : v.category = 1) (hc' : w.category = 1) (hp : pc + 1 = pc') (g : Go l Z EL R B0 Q p e s m below T pc' ls (v :: w :: v :: st)) : Go l Z EL R B0 Q p e s m below T pc ls (v :: w :: st) := by
  subst hp; exact Go.step (fun t hr => XT.dupX1 X.here X.hx rfl (X.dec hd) rfl hc hc' hr) g
theorem W.dup2 (X : Wk l Z EL y bytes maxL ret R B0 p e s m args below meth c B T h k n) {v w : Value} (hd : decode bytes pc = .ok (.dup2, 1)) (hc : v.category = 1) (hc' : w.category = 1) (hp : pc + 1 = pc') (g : Go l Z EL R B0 Q p e s m below T pc' ls (v :: w :: v :: w :: st)) : Go l Z EL R B0 Q p e s m below T pc ls (v :: w :: st) := by
  subst hp; exact Go.step (fun t hr => XT.dup2 X.here X.hx rfl (X.dec hd) rfl hc hc' hr) g
theorem W.dup2L (X : Wk l Z EL y bytes maxL ret R B0 p e s m args below meth c B T h k n) {v : Int64} (hd : decode bytes pc = .ok (.dup2, 1))  (hp : pc + 1 = pc') (g : Go l Z EL R B0 Q p e s m below T pc' ls (.long v :: .long v :: st)) : Go l Z EL R B0 Q p e s m below T pc ls (.long v :: st) := by
  subst hp; exact Go.step (fun t hr => XT.dup2L X.here X.hx rfl (X.dec hd) rfl hr) g
theorem W.goto (X : Wk l Z EL y bytes maxL ret R B0 p e s m args below meth c B T h k n)  {o : Int} (hd : decode bytes pc = .ok (.goto o, 3))  (ho : 0 ≤ (pc : Int) + o) (hp : ((pc : Int) + o).toNat = pc') (g : Go l Z EL R B0 Q p e s m below T pc' ls st) : Go l Z EL R B0 Q p e s m below T pc ls st :=
  Go.step (fun t hr => XS.goto X.here X.hx rfl rfl (X.dec hd) ho hp hr) g
theorem W.ifT (X : Wk l Z EL y bytes maxL ret R B0 p e s m args below meth c B T h k n) {cd : ClassFile.Cond} {x : Int32} {o : Int} (hd : decode bytes pc = .ok (.ifCond cd o, 3)) (hc : ifCond.holds cd x = true) (ho : 0 ≤ (pc : Int) + o) (hp : ((pc : Int) + o).toNat = pc') (g : Go l Z EL R B0 Q p e s m below T pc' ls st) : Go l Z EL R B0 Q p e s m below T pc ls (.int x :: st) :=
  Go.step (fun t hr => XS.ifYes X.here X.hx rfl rfl (X.dec hd) rfl hc ho hp hr) g
theorem W.ifF (X : Wk l Z EL y bytes maxL ret R B0 p e s m args below meth c B T h k n) {cd : ClassFile.Cond} {o : Int} {x : Int32} (hd : decode bytes pc = .ok (.ifCond cd o, 3)) (hc : ifCond.holds cd x = false) (hp : pc + 3 = pc') (g : Go l Z EL R B0 Q p e s m below T pc' ls st) : Go l Z EL R B0 Q p e s m below T pc ls (.int x :: st) := by
  subst hp; exact Go.step (fun t hr => XS.ifNo X.here X.hx rfl (X.dec hd) rfl hc hr) g
theorem W.icT (X : Wk l Z EL y bytes maxL ret R B0 p e s m args below meth c B T h k n) {cd : ClassFile.Cond} {x z : Int32} {o : Int} (hd : decode bytes pc = .ok (.if_icmp cd o, 3)) (hc : if_icmp.holds cd x z = true) (ho : 0 ≤ (pc : Int) + o) (hp : ((pc : Int) + o).toNat = pc') (g : Go l Z EL R B0 Q p e s m below T pc' ls st) : Go l Z EL R B0 Q p e s m below T pc ls (.int z :: .int x :: st) :=
  Go.step (fun t hr => XS.icmpYes X.here X.hx rfl rfl (X.dec hd) rfl hc ho hp hr) g
theorem W.icF (X : Wk l Z EL y bytes maxL ret R B0 p e s m args below meth c B T h k n) {cd : ClassFile.Cond} {o : Int} {x z : Int32} (hd : decode bytes pc = .ok (.if_icmp cd o, 3)) (hc : if_icmp.holds cd x z = false) (hp : pc + 3 = pc') (g : Go l Z EL R B0 Q p e s m below T pc' ls st) : Go l Z EL R B0 Q p e s m below T pc ls (.int z :: .int x :: st) := by
  subst hp; exact Go.step (fun t hr => XS.icmpNo X.here X.hx rfl (X.dec hd) rfl hc hr) g
theorem W.acT (X : Wk l Z EL y bytes maxL ret R B0 p e s m args below meth c B T h k n) {cd : ClassFile.ACond} {x z : Value} {o : Int} (hd : decode bytes pc = .ok (.if_acmp cd o, 3)) (h1 : x.isRef = true) (h2 : z.isRef = true) (hc : XT.acmp cd x z = true) (ho : 0 ≤ (pc : Int) + o) (hp : ((pc : Int) + o).toNat = pc') (g : Go l Z EL R B0 Q p e s m below T pc' ls st) : Go l Z EL R B0 Q p e s m below T pc ls (z :: x :: st) :=
  Go.step (fun t hr => XT.acmpYes X.here X.hx rfl rfl (X.dec hd) rfl h1 h2 hc ho hp hr) g
theorem W.acF (X : Wk l Z EL y bytes maxL ret R B0 p e s m args below meth c B T h k n) {cd : ClassFile.ACond} {o : Int} {x z : Value} (hd : decode bytes pc = .ok (.if_acmp cd o, 3)) (h1 : x.isRef = true) (h2 : z.isRef = true) (hc : XT.acmp cd x z = false) (hp : pc + 3 = pc') (g : Go l Z EL R B0 Q p e s m below T pc' ls st) : Go l Z EL R B0 Q p e s m below T pc ls (z :: x :: st) := by
  subst hp; exact Go.step (fun t hr => XT.acmpNo X.here X.hx rfl (X.dec hd) rfl h1 h2 hc hr) g
theorem W.nullT (X : Wk l Z EL y bytes maxL ret R B0 p e s m args below meth c B T h k n)  {o : Int} (hd : decode bytes pc = .ok (.ifnull o, 3))  (ho : 0 ≤ (pc : Int) + o) (hp : ((pc : Int) + o).toNat = pc') (g : Go l Z EL R B0 Q p e s m below T pc' ls st) : Go l Z EL R B0 Q p e s m below T pc ls (.null :: st) :=
  Go.step (fun t hr => XS.ifnullYes X.here X.hx rfl rfl (X.dec hd) rfl ho hp hr) g
theorem W.nullF (X : Wk l Z EL y bytes maxL ret R B0 p e s m args below meth c B T h k n) {o : Int} {r : Addr} (hd : decode bytes pc = .ok (.ifnull o, 3))  (hp : pc + 3 = pc') (g : Go l Z EL R B0 Q p e s m below T pc' ls st) : Go l Z EL R B0 Q p e s m below T pc ls (.ref r :: st) := by
  subst hp; exact Go.step (fun t hr => XS.ifnullNo X.here X.hx rfl (X.dec hd) rfl hr) g
theorem W.nonnullT (X : Wk l Z EL y bytes maxL ret R B0 p e s m args below meth c B T h k n) {r : Addr} {o : Int} (hd : decode bytes pc = .ok (.ifnonnull o, 3))  (ho : 0 ≤ (pc : Int) + o) (hp : ((pc : Int) + o).toNat = pc') (g : Go l Z EL R B0 Q p e s m below T pc' ls st) : Go l Z EL R B0 Q p e s m below T pc ls (.ref r :: st) :=
  Go.step (fun t hr => XT.ifnonnullYes X.here X.hx rfl rfl (X.dec hd) rfl ho hp hr) g
theorem W.nonnullF (X : Wk l Z EL y bytes maxL ret R B0 p e s m args below meth c B T h k n) {o : Int} (hd : decode bytes pc = .ok (.ifnonnull o, 3))  (hp : pc + 3 = pc') (g : Go l Z EL R B0 Q p e s m below T pc' ls st) : Go l Z EL R B0 Q p e s m below T pc ls (.null :: st) := by
  subst hp; exact Go.step (fun t hr => XT.ifnonnullNo X.here X.hx rfl (X.dec hd) rfl hr) g
theorem W.tsw (X : Wk l Z EL y bytes maxL ret R B0 p e s m args below meth c B T h k n) {dflt low high : Int} {offs : Array Int} {len : Nat} {o : Int} {i : Int32} (hd : decode bytes pc = .ok (.tableswitch dflt low high offs, len)) (hin : ¬ (i.toInt < low ∨ i.toInt > high)) (hoff : offs[(i.toInt - low).toNat]? = some o) (ho : 0 ≤ (pc : Int) + o) (hp : ((pc : Int) + o).toNat = pc') (g : Go l Z EL R B0 Q p e s m below T pc' ls st) : Go l Z EL R B0 Q p e s m below T pc ls (.int i :: st) :=
  Go.step (fun t hr => XS.tswIn X.here X.hx rfl rfl (X.dec hd) rfl hin hoff ho hp hr) g
theorem W.ldcI (X : Wk l Z EL y bytes maxL ret R B0 p e s m args below meth c B T h k n) {index : Nat} {v : Int32} (w : (Jvm.Cond.constant y.cls index v).before a0 Z = true) (hd : decode bytes pc = .ok (.ldc index, 2)) (hp : pc + 2 = pc') (g : Go l Z EL R B0 Q p e s m below T pc' ls (.int v :: st)) : Go l Z EL R B0 Q p e s m below T pc ls st := by
  obtain ⟨i0, hE, hz, hB, V, locs, q0, X1, eT, hZ, hown, hS, hq, hF, hC, hK⟩ := X
  subst hp
  exact Go.step (fun t hr => Jvm.Stand.ldcI (g := mkF m pc ls st) X1 i0.1 hown (mv (s := s.setVm V) hZ w) rfl (i0.2.1 ▸ hd) hr) g
theorem W.ldcJ (X : Wk l Z EL y bytes maxL ret R B0 p e s m args below meth c B T h k n) {index : Nat} {v : Int64} (w : (Jvm.Cond.constantLong y.cls index v).before a0 Z = true) (hd : decode bytes pc = .ok (.ldc2_w index, 3)) (hp : pc + 3 = pc') (g : Go l Z EL R B0 Q p e s m below T pc' ls (.long v :: st)) : Go l Z EL R B0 Q p e s m below T pc ls st := by
  obtain ⟨i0, hE, hz, hB, V, locs, q0, X1, eT, hZ, hown, hS, hq, hF, hC, hK⟩ := X
  subst hp
  exact Go.step (fun t hr => Jvm.Stand.ldc2J (g := mkF m pc ls st) X1 i0.1 hown (mv (s := s.setVm V) hZ w) rfl (i0.2.1 ▸ hd) hr) g
theorem W.getF (X : Wk l Z EL y bytes maxL ret R B0 p e s m args below meth c B T h k n) {index : Nat} {R0 O nm d : String} {v : Value} (w : (Jvm.Cond.fieldLink y.cls index R0 nm d).before a0 Z = true) (via : Via Z R0 O nm d) (F : Fld Z h a O nm d v) (hd : decode bytes pc = .ok (.getfield index, 3)) (hp : pc + 3 = pc') (g : ∀ T', Wk l Z EL y bytes maxL ret R B0 p e s m args below meth c B T' h k n → Go l Z EL R B0 Q p e s m below T' pc' ls (v :: st)) : Go l Z EL R B0 Q p e s m below T pc ls (.ref a :: st) := by
  obtain ⟨i0, hE, hz, hB, V, locs, q0, X1, eT, hZ, hown, hS, hq, hF, hC, hK⟩ := X
  obtain ⟨T', X', e', st'⟩ := RoadKit.getF X1 i0.1 hZ hown (host := "") (Or.inl w) via eT F (g := mkF m pc ls (.ref a :: st)) rfl rfl (i0.2.1 ▸ hd)
  subst hp
  exact Go.step st' (g T' ⟨i0, hE, hz, hB, V, locs, q0, X', e', hZ, hown, hS, hq, hF, hC, hK⟩)
theorem W.getS (X : Wk l Z EL y bytes maxL ret R B0 p e s m args below meth c B T h k n) {index : Nat} {R0 O nm d host : String} {v : Value} (w : (Jvm.Cond.fieldLink y.cls index R0 nm d).before a0 Z = true ∨ (Jvm.Cond.fieldLinkNest y.cls index R0 nm d host).before a0 Z = true) (via : Via Z R0 O nm d) (F : Sta Z Z.heap O nm d v) (hd : decode bytes pc = .ok (.getstatic index, 3)) (hp : pc + 3 = pc') (g : ∀ T', Wk l Z EL y bytes maxL ret R B0 p e s m args below meth c B T' h k n → Go l Z EL R B0 Q p e s m below T' pc' ls (v :: st)) : Go l Z EL R B0 Q p e s m below T pc ls st := by
  obtain ⟨i0, hE, hz, hB, V, locs, q0, X1, eT, hZ, hown, hS, hq, hF, hC, hK⟩ := X
  obtain ⟨T', X', e', st'⟩ := RoadKit.getS2 X1 i0.1 hZ hown w via eT (F.ext hE.1) (g := mkF m pc ls st) rfl (i0.2.1 ▸ hd)
  subst hp
  exact Go.step st' (g T' ⟨i0, hE, hz, hB, V, locs, q0, X', e', hZ, hown, hS, hq, hF, hC, hK⟩)
theorem En.wr {sl : Nat} {v : Value} (E : En Z B h) (W : Wr h h' a sl v) (q : Z.heap.size ≤ a) : En Z B h' := ⟨(Old.wr (n0 := Z.heap.size) ⟨rfl, E.1⟩ W q).2, fun x r => by rw [W.size]; exact E.2 x r⟩
theorem W.putF (X : Wk l Z EL y bytes maxL ret R B0 p e s m args below meth c B T h k n) {index kk : Nat} {R0 O nm d C : String} {v old : Value} {ty : FieldType} (w : (Jvm.Cond.fieldLink y.cls index R0 nm d).before a0 Z = true) (via : Via Z R0 O nm d) (F : Fld Z h a O nm d old) (E : Exa Z h a C) (L : (Jvm.Cond.lays C O nm d).before a0 Z = true ∨ ((Jvm.Cond.laysFinal C O nm d).before a0 Z = true ∧ y.cls = O ∧ y.name = "<init>")) (wi : (Jvm.Cond.instantiable C kk).before a0 Z = true)
    (hty : parseFieldDescriptor d = some ty) (hn : narrow ty v = v) (hf : fits ty v = true) (ha : Z.heap.size ≤ a) (hnb : ¬ B a) (hd : decode bytes pc = .ok (.putfield index, 3)) (hp : pc + 3 = pc') (g : ∀ T' h', Wk l Z EL y bytes maxL ret R B0 p e s m args below meth c B T' h' k n → Wr h h' a (RoadKit.slotOf Z O nm d) v → Go l Z EL R B0 Q p e s m below T' pc' ls st) : Go l Z EL R B0 Q p e s m below T pc ls (v :: .ref a :: st) := by
  obtain ⟨i0, hE, hz, hB, V, locs, q0, X1, eT, hZ, hown, hS, hq, hF, hC, hK⟩ := X
  obtain ⟨T', h', X', e', W, st'⟩ := RoadKit.putF X1 i0.1 hZ hown (host := "") (Or.inl w) via eT F E (L.imp id fun q => ⟨q.1, q.2.1, i0.2.2.2.2.2.1.trans q.2.2⟩) wi hty hn hf (g := mkF m pc ls (v :: .ref a :: st)) rfl rfl (i0.2.1 ▸ hd)
  subst hp
  have S : Safe Z EL V h a := fun r => hnb (hK a r)
  exact Go.step st' (g T' h' ⟨i0, hE.wr W ha, by rw [W.size]; exact hz, hB, V, _, q0, X', e', hZ, hown, hS, by rw [W.size]; exact hq, Fr.snoc X' hF ha, hC.wr W S, fun x r => hK x ((hC.wrStep W S).2 x r)⟩ W)
theorem W.cast (X : Wk l Z EL y bytes maxL ret R B0 p e s m args below meth c B T h k n) {index : Nat} {K : String} (w : (Jvm.Cond.classLink y.cls index K).before a0 Z = true) (F : Ins Z h a K true) (hd : decode bytes pc = .ok (.checkcast index, 3)) (hp : pc + 3 = pc') (g : ∀ T', Wk l Z EL y bytes maxL ret R B0 p e s m args below meth c B T' h k n → Go l Z EL R B0 Q p e s m below T' pc' ls (.ref a :: st)) : Go l Z EL R B0 Q p e s m below T pc ls (.ref a :: st) := by
  obtain ⟨i0, hE, hz, hB, V, locs, q0, X1, eT, hZ, hown, hS, hq, hF, hC, hK⟩ := X
  obtain ⟨T', X', e', st'⟩ := RoadKit.castY X1 i0.1 hZ hown w eT F (g := mkF m pc ls (.ref a :: st)) rfl rfl (i0.2.1 ▸ hd)
  subst hp
  exact Go.step st' (g T' ⟨i0, hE, hz, hB, V, locs, q0, X', e', hZ, hown, hS, hq, hF, hC, hK⟩)
theorem W.instY (X : Wk l Z EL y bytes maxL ret R B0 p e s m args below meth c B T h k n) {index : Nat} {K : String} (w : (Jvm.Cond.classLink y.cls index K).before a0 Z = true) (F : Ins Z h a K true) (hd : decode bytes pc = .ok (.instanceof index, 3)) (hp : pc + 3 = pc') (g : ∀ T', Wk l Z EL y bytes maxL ret R B0 p e s m args below meth c B T' h k n → Go l Z EL R B0 Q p e s m below T' pc' ls (.int 1 :: st)) : Go l Z EL R B0 Q p e s m below T pc ls (.ref a :: st) := by
  obtain ⟨i0, hE, hz, hB, V, locs, q0, X1, eT, hZ, hown, hS, hq, hF, hC, hK⟩ := X
  obtain ⟨T', X', e', st'⟩ := RoadKit.instY X1 i0.1 hZ hown w eT F (g := mkF m pc ls (.ref a :: st)) rfl rfl (i0.2.1 ▸ hd)
  subst hp
  exact Go.step st' (g T' ⟨i0, hE, hz, hB, V, locs, q0, X', e', hZ, hown, hS, hq, hF, hC, hK⟩)
theorem W.instN (X : Wk l Z EL y bytes maxL ret R B0 p e s m args below meth c B T h k n) {index : Nat} {K C : String} (w : (Jvm.Cond.classLink y.cls index K).before a0 Z = true) (E : Exa Z h a C) (F : ∃ c t, Z.vm.findClass C = some c ∧ Z.vm.findClass K = some t ∧ Z.vm.assignable c t = false) (hd : decode bytes pc = .ok (.instanceof index, 3)) (hp : pc + 3 = pc') (g : ∀ T', Wk l Z EL y bytes maxL ret R B0 p e s m args below meth c B T' h k n → Go l Z EL R B0 Q p e s m below T' pc' ls (.int 0 :: st)) : Go l Z EL R B0 Q p e s m below T pc ls (.ref a :: st) := by
  obtain ⟨i0, hE, hz, hB, V, locs, q0, X1, eT, hZ, hown, hS, hq, hF, hC, hK⟩ := X
  obtain ⟨T', X', e', st'⟩ := RoadKit.instNo X1 i0.1 hZ hown w eT E F (g := mkF m pc ls (.ref a :: st)) rfl rfl (i0.2.1 ▸ hd)
  subst hp
  exact Go.step st' (g T' ⟨i0, hE, hz, hB, V, locs, q0, X', e', hZ, hown, hS, hq, hF, hC, hK⟩)
theorem W.instNull (X : Wk l Z EL y bytes maxL ret R B0 p e s m args below meth c B T h k n) {index : Nat} (hd : decode bytes pc = .ok (.instanceof index, 3)) (hp : pc + 3 = pc') (g : Go l Z EL R B0 Q p e s m below T pc' ls (.int 0 :: st)) : Go l Z EL R B0 Q p e s m below T pc ls (.null :: st) := by
  obtain ⟨i0, hE, hz, hB, V, locs, q0, X1, eT, hZ, hown, hS, hq, hF, hC, hK⟩ := X
  subst hp
  exact Go.step (fun t hr => Jvm.Stand.instanceofNull X1 i0.1 (g := mkF m pc ls (.null :: st)) rfl rfl (i0.2.1 ▸ hd) t hr) g
theorem inst_ord {K : String} {n : Nat} (w : (Jvm.Cond.instantiable K n).before a0 Z = true) : ∃ t k, Z.vm.findClass K = some t ∧ Z.vm.classes[t]? = some k ∧ k.kind = .ordinary ∧ k.isInterface = false := by
  simp only [Cond.before, Cond.holds, Cond.value] at w
  cases ht : Z.vm.findClass K with
  | none => simp [ht] at w
  | some t =>
    cases hk : Z.vm.classes[t]? with
    | none => simp [ht, hk] at w
    | some k =>
      simp [ht, hk] at w
      exact ⟨t, k, rfl, hk, w.1.1.1, w.1.1.2.1⟩
theorem nsRoot {O K : String} {n : Nat} (wo : (Jvm.Cond.noSuperclass O).before a0 Z = true) (wk : (Jvm.Cond.instantiable K n).before a0 Z = true) (hn' : O ≠ K) : NS Z O K := by
  obtain ⟨t, kt, g0, g2, g5, g7⟩ := inst_ord wk
  obtain ⟨c, k, h1, h2, h3, -, -⟩ := Cond.noSuperclass_spec wo
  have ne := ids_ne h1 g0 hn'
  refine ⟨c, t, h1, g0, fun fuel => ?_⟩
  cases fuel with
  | zero => rfl
  | succ f => simp [Vm.isSubclassAux, ne, h2, h3]
theorem nsNo {C S K : String} {n : Nat} (w : (Jvm.Cond.superclass C S).before a0 Z = true) (wk : (Jvm.Cond.instantiable K n).before a0 Z = true) (N : NS Z S K) (hn : C ≠ K) : ∃ c t, Z.vm.findClass C = some c ∧ Z.vm.findClass K = some t ∧ Z.vm.assignable c t = false := by
  obtain ⟨t, kt, g0, g2, g5, g7⟩ := inst_ord wk
  obtain ⟨c, t', h0, g0', n3⟩ := NS.step w N hn
  cases g0.symm.trans g0'
  obtain ⟨p, k, kp, h1, h2, h3, h4, h5, -, h7⟩ := Cond.superclass_spec h0 w
  have ne := ids_ne h0 g0 hn
  refine ⟨c, t, h0, g0, ?_⟩
  show Z.vm.assignableAux (255 + 1) c t = false
  simp [Vm.assignableAux, ne, h2, g2, h5, g5, g7, Vm.isSubclass, n3]
theorem En.ext (E : En Z B h) (W : Ext h h') : En Z B h' := ⟨⟨Nat.le_trans E.1.1 W.1, fun x c q => W.2 x c (E.1.2 x c q)⟩, fun x r => Nat.lt_of_lt_of_le (E.2 x r) W.1⟩
theorem keepE (E : Ext h h') : Keep h h' [] := (Keep.refl h []).ext E
theorem W.new (X : Wk l Z EL y bytes maxL ret R B0 p e s m args below meth c B T h k n) {index sz : Nat} {C : String} (w : (Jvm.Cond.classLink y.cls index C).before a0 Z = true) (wi : (Jvm.Cond.instantiable C sz).before a0 Z = true) (wz : (Jvm.Cond.initialized C).before a0 Z = true) (hd : decode bytes pc = .ok (.new index, 3)) (hp : pc + 3 = pc') {k' n' : Nat} (hk : k + 1 ≤ k') (hn : n + sz ≤ n') (hk' : k' ≤ R.cells) (hn' : n' ≤ R.slots)
    (g : ∀ T' h' a, Wk l Z EL y bytes maxL ret R B0 p e s m args below meth c B T' h' k' n' → Keep h h' [] → h.size ≤ a → Z.heap.size ≤ a → ¬ B a → Exa Z h' a C → (∀ {O nm d : String} {ty : FieldType}, Laid Z a0 C O nm d → parseFieldDescriptor d = some ty → Fld Z h' a O nm d (defaultValue ty)) → Go l Z EL R B0 Q p e s m below T' pc' ls (.ref a :: st)) : Go l Z EL R B0 Q p e s m below T pc ls st := by
  have X0 := X
  obtain ⟨i0, hE, hz, hB, V, locs, q0, X1, eT, hZ, hown, hS, hq, hF, hC, hK⟩ := X
  obtain ⟨T', h', X', e', E, A, D, -, st'⟩ := RoadKit.newO X1 i0.1 hZ hown w wi wz eT (g := mkF m pc ls st) rfl (i0.2.1 ▸ hd) (Nat.le_trans hk hk') (Nat.le_trans hn hn')
  subst hp
  exact Go.step st' (g T' h' h.size ⟨i0, hE.ext E, Nat.le_trans hz E.1, hB, V, locs, q0, X'.mono hk hn, e', hZ, hown, hS, Nat.le_trans hq E.1, hF, hC.ext E, fun x r => hK x ((hC.step fun _ _ _ q => E.2 _ _ q).2 x r)⟩ (keepE E) (Nat.le_refl _) X0.z0 (X0.nb (Nat.le_refl _)) A D)
theorem W.newA (X : Wk l Z EL y bytes maxL ret R B0 p e s m args below meth c B T h k n) {aty : ArrayType} {z : Int32} {cap : Nat} (w : (Jvm.Cond.arrayClass (newarray.typeOf aty)).before a0 Z = true) (hd : decode bytes pc = .ok (.newarray aty, 2)) (hz0 : ¬ z < 0) (hcap : z.toNatClampNeg ≤ cap) (hcb : cap * 8 ≤ 536870912) (hp : pc + 2 = pc') {k' n' : Nat} (hk : k + 1 ≤ k') (hn : n + cap ≤ n') (hk' : k' ≤ R.cells) (hn' : n' ≤ R.slots)
    (g : ∀ T' h' a, Wk l Z EL y bytes maxL ret R B0 p e s m args below meth c B T' h' k' n' → Keep h h' [] → h.size ≤ a → Z.heap.size ≤ a → ¬ B a → Ar Z h' a (newarray.typeOf aty) (List.replicate z.toNatClampNeg (defaultValue (newarray.typeOf aty))) → Go l Z EL R B0 Q p e s m below T' pc' ls (.ref a :: st)) : Go l Z EL R B0 Q p e s m below T pc ls (.int z :: st) := by
  have X0 := X
  obtain ⟨i0, hE, hz, hB, V, locs, q0, X1, eT, hZ, hown, hS, hq, hF, hC, hK⟩ := X
  obtain ⟨T', h', cA, X', e', E, A, st'⟩ := RoadKit.newP X1 i0.1 hZ w eT (g := mkF m pc ls (.int z :: st)) rfl (i0.2.1 ▸ hd) rfl hz0 hcap hcb (Nat.le_trans hk hk') (Nat.le_trans hn hn')
  subst hp
  exact Go.step st' (g T' h' h.size ⟨i0, hE.ext E, Nat.le_trans hz E.1, hB, V, locs, q0, X'.mono hk hn, e', hZ, hown, hS, Nat.le_trans hq E.1, hF, hC.ext E, fun x r => hK x ((hC.step fun _ _ _ q => E.2 _ _ q).2 x r)⟩ (keepE E) (Nat.le_refl _) X0.z0 (X0.nb (Nat.le_refl _)) (Ar.new A hz0))
theorem W.newR (X : Wk l Z EL y bytes maxL ret R B0 p e s m args below meth c B T h k n) {index : Nat} {C : String} {z : Int32} {cap : Nat} (w1 : (Jvm.Cond.classLink y.cls index C).before a0 Z = true) (w2 : (Jvm.Cond.arrayOver (.object C)).before a0 Z = true) (hd : decode bytes pc = .ok (.anewarray index, 3)) (hz0 : ¬ z < 0) (hcap : z.toNatClampNeg ≤ cap) (hcb : cap * 8 ≤ 536870912) (hp : pc + 3 = pc') {k' n' : Nat} (hk : k + 1 ≤ k') (hn : n + cap ≤ n') (hk' : k' ≤ R.cells) (hn' : n' ≤ R.slots)
    (g : ∀ T' h' a, Wk l Z EL y bytes maxL ret R B0 p e s m args below meth c B T' h' k' n' → Keep h h' [] → h.size ≤ a → Z.heap.size ≤ a → ¬ B a → Ar Z h' a (.object C) (List.replicate z.toNatClampNeg .null) → Tk Z h' a C → Go l Z EL R B0 Q p e s m below T' pc' ls (.ref a :: st)) : Go l Z EL R B0 Q p e s m below T pc ls (.int z :: st) := by
  have X0 := X
  obtain ⟨i0, hE, hz, hB, V, locs, q0, X1, eT, hZ, hown, hS, hq, hF, hC, hK⟩ := X
  obtain ⟨T', h', cA, X', e', E, A, O, st'⟩ := RoadKit.newR X1 i0.1 hZ hown w1 w2 eT (g := mkF m pc ls (.int z :: st)) rfl (i0.2.1 ▸ hd) rfl hz0 hcap hcb (Nat.le_trans hk hk') (Nat.le_trans hn hn')
  subst hp
  exact Go.step st' (g T' h' h.size ⟨i0, hE.ext E, Nat.le_trans hz E.1, hB, V, locs, q0, X'.mono hk hn, e', hZ, hown, hS, Nat.le_trans hq E.1, hF, hC.ext E, fun x r => hK x ((hC.step fun _ _ _ q => E.2 _ _ q).2 x r)⟩ (keepE E) (Nat.le_refl _) X0.z0 (X0.nb (Nat.le_refl _)) (Ar.new A hz0) ⟨_, _, A, O⟩)
theorem W.alen (X : Wk l Z EL y bytes maxL ret R B0 p e s m args below meth c B T h k n) {z : Int32} (A : Ar Z h a ty vs) (hv : vs.length.toInt32 = z) (hd : decode bytes pc = .ok (.arraylength, 1)) (hp : pc + 1 = pc') (g : Go l Z EL R B0 Q p e s m below T pc' ls (.int z :: st)) : Go l Z EL R B0 Q p e s m below T pc ls (.ref a :: st) := by
  obtain ⟨i0, hE, hz, hB, V, locs, q0, X1, eT, hZ, hown, hS, hq, hF, hC, hK⟩ := X
  obtain ⟨cl, A, e1, -, -⟩ := A
  have e2 : cl.slots.size = vs.length := by rw [← e1]; simp
  subst hp hv
  rw [← e2] at g
  exact Go.step (fun t hr => X1.arraylength i0.1 (by rw [eT]; exact A.1) (State.isArrayOf_alike hZ.alike A.2.1) (g := mkF m pc ls (.ref a :: st)) rfl rfl (i0.2.1 ▸ hd) t hr) g
theorem W.caload (X : Wk l Z EL y bytes maxL ret R B0 p e s m args below meth c B T h k n) {j : Int32} {v : Value} (A : Ar Z h a .char vs) (hj : ¬ j < 0) (hv : vs[j.toNatClampNeg]? = some v) (hd : decode bytes pc = .ok (.caload, 1)) (hp : pc + 1 = pc') (g : Go l Z EL R B0 Q p e s m below T pc' ls (v :: st)) : Go l Z EL R B0 Q p e s m below T pc ls (.int j :: .ref a :: st) := by
  obtain ⟨i0, hE, hz, hB, V, locs, q0, X1, eT, hZ, hown, hS, hq, hF, hC, hK⟩ := X
  obtain ⟨cl, A, e1, -, -⟩ := A
  have e2 : cl.slots.size = vs.length := by rw [← e1]; simp
  have hlt : j.toNatClampNeg < vs.length := (List.getElem?_eq_some_iff.mp hv).1
  subst hp
  exact Go.step (fun t hr => X1.caload i0.1 (by rw [eT]; exact A.1) (State.isArrayOf_alike hZ.alike A.2.1) A.2.2 (fun r => r.elim hj fun z => by omega) (by rw [← Array.getElem?_toList, e1]; exact hv) (g := mkF m pc ls (.int j :: .ref a :: st)) rfl rfl (i0.2.1 ▸ hd) t hr) g
theorem W.baload (X : Wk l Z EL y bytes maxL ret R B0 p e s m args below meth c B T h k n) {j : Int32} {v : Value} (A : Ar Z h a .byte vs) (hj : ¬ j < 0) (hv : vs[j.toNatClampNeg]? = some v) (hd : decode bytes pc = .ok (.baload, 1)) (hp : pc + 1 = pc') (g : Go l Z EL R B0 Q p e s m below T pc' ls (v :: st)) : Go l Z EL R B0 Q p e s m below T pc ls (.int j :: .ref a :: st) := by
  obtain ⟨i0, hE, hz, hB, V, locs, q0, X1, eT, hZ, hown, hS, hq, hF, hC, hK⟩ := X
  obtain ⟨cl, A, e1, -, -⟩ := A
  have e2 : cl.slots.size = vs.length := by rw [← e1]; simp
  have hlt : j.toNatClampNeg < vs.length := (List.getElem?_eq_some_iff.mp hv).1
  subst hp
  exact Go.step (fun t hr => X1.baloadBytes i0.1 (by rw [eT]; exact A.1) (State.isArrayOf_alike hZ.alike A.2.1) A.2.2 (fun r => r.elim hj fun z => by omega) (by rw [← Array.getElem?_toList, e1]; exact hv) (g := mkF m pc ls (.int j :: .ref a :: st)) rfl rfl (i0.2.1 ▸ hd) t hr) g
theorem W.iaload (X : Wk l Z EL y bytes maxL ret R B0 p e s m args below meth c B T h k n) {j : Int32} {v : Value} (A : Ar Z h a .int vs) (hj : ¬ j < 0) (hv : vs[j.toNatClampNeg]? = some v) (hd : decode bytes pc = .ok (.iaload, 1)) (hp : pc + 1 = pc') (g : Go l Z EL R B0 Q p e s m below T pc' ls (v :: st)) : Go l Z EL R B0 Q p e s m below T pc ls (.int j :: .ref a :: st) := by
  obtain ⟨i0, hE, hz, hB, V, locs, q0, X1, eT, hZ, hown, hS, hq, hF, hC, hK⟩ := X
  obtain ⟨cl, A, e1, -, -⟩ := A
  have e2 : cl.slots.size = vs.length := by rw [← e1]; simp
  have hlt : j.toNatClampNeg < vs.length := (List.getElem?_eq_some_iff.mp hv).1
  subst hp
  exact Go.step (fun t hr => X1.iaload i0.1 (by rw [eT]; exact A.1) (State.isArrayOf_alike hZ.alike A.2.1) A.2.2 (fun r => r.elim hj fun z => by omega) (by rw [← Array.getElem?_toList, e1]; exact hv) (g := mkF m pc ls (.int j :: .ref a :: st)) rfl rfl (i0.2.1 ▸ hd) t hr) g
theorem W.laload (X : Wk l Z EL y bytes maxL ret R B0 p e s m args below meth c B T h k n) {j : Int32} {v : Value} (A : Ar Z h a .long vs) (hj : ¬ j < 0) (hv : vs[j.toNatClampNeg]? = some v) (hd : decode bytes pc = .ok (.laload, 1)) (hp : pc + 1 = pc') (g : Go l Z EL R B0 Q p e s m below T pc' ls (v :: st)) : Go l Z EL R B0 Q p e s m below T pc ls (.int j :: .ref a :: st) := by
  obtain ⟨i0, hE, hz, hB, V, locs, q0, X1, eT, hZ, hown, hS, hq, hF, hC, hK⟩ := X
  obtain ⟨cl, A, e1, -, -⟩ := A
  have e2 : cl.slots.size = vs.length := by rw [← e1]; simp
  have hlt : j.toNatClampNeg < vs.length := (List.getElem?_eq_some_iff.mp hv).1
  subst hp
  exact Go.step (fun t hr => X1.laload i0.1 (by rw [eT]; exact A.1) (State.isArrayOf_alike hZ.alike A.2.1) A.2.2 (fun r => r.elim hj fun z => by omega) (by rw [← Array.getElem?_toList, e1]; exact hv) (g := mkF m pc ls (.int j :: .ref a :: st)) rfl rfl (i0.2.1 ▸ hd) t hr) g
theorem W.zaload (X : Wk l Z EL y bytes maxL ret R B0 p e s m args below meth c B T h k n) {j : Int32} {v : Value} (A : Ar Z h a .boolean vs) (hj : ¬ j < 0) (hv : vs[j.toNatClampNeg]? = some v) (hd : decode bytes pc = .ok (.baload, 1)) (hp : pc + 1 = pc') (g : Go l Z EL R B0 Q p e s m below T pc' ls (v :: st)) : Go l Z EL R B0 Q p e s m below T pc ls (.int j :: .ref a :: st) := by
  obtain ⟨i0, hE, hz, hB, V, locs, q0, X1, eT, hZ, hown, hS, hq, hF, hC, hK⟩ := X
  obtain ⟨cl, A, e1, -, -⟩ := A
  have e2 : cl.slots.size = vs.length := by rw [← e1]; simp
  have hlt : j.toNatClampNeg < vs.length := (List.getElem?_eq_some_iff.mp hv).1
  subst hp
  exact Go.step (fun t hr => X1.baloadBooleans i0.1 (by rw [eT]; exact A.1) (State.isArrayOf_alike hZ.alike A.2.1) A.2.2 (fun r => r.elim hj fun z => by omega) (by rw [← Array.getElem?_toList, e1]; exact hv) (g := mkF m pc ls (.int j :: .ref a :: st)) rfl rfl (i0.2.1 ▸ hd) t hr) g
theorem W.aaload (X : Wk l Z EL y bytes maxL ret R B0 p e s m args below meth c B T h k n) {j : Int32} {v : Value} (A : Ar Z h a ty vs) (hty : ty.isReference = true) (hj : ¬ j < 0) (hv : vs[j.toNatClampNeg]? = some v) (hd : decode bytes pc = .ok (.aaload, 1)) (hp : pc + 1 = pc') (g : Go l Z EL R B0 Q p e s m below T pc' ls (v :: st)) : Go l Z EL R B0 Q p e s m below T pc ls (.int j :: .ref a :: st) := by
  obtain ⟨i0, hE, hz, hB, V, locs, q0, X1, eT, hZ, hown, hS, hq, hF, hC, hK⟩ := X
  obtain ⟨cl, A, e1, -, -⟩ := A
  have e2 : cl.slots.size = vs.length := by rw [← e1]; simp
  have hlt : j.toNatClampNeg < vs.length := (List.getElem?_eq_some_iff.mp hv).1
  subst hp
  exact Go.step (fun t hr => X1.aaload i0.1 (by rw [eT]; exact A.1) (State.isArrayOf_alike hZ.alike A.2.1) hty A.2.2 (fun r => r.elim hj fun z => by omega) (by rw [← Array.getElem?_toList, e1]; exact hv) (g := mkF m pc ls (.int j :: .ref a :: st)) rfl rfl (i0.2.1 ▸ hd) t hr) g
theorem Ar.set {cl : Cell} {i : Nat} {v : Value} (A : Arr Z h a cl ty) (e1 : cl.slots.toList = vs) (hl : vs.length < 2 ^ 31) (hf : ∀ v ∈ vs, fits ty v = true) (hv : fits ty v = true) (W : Wr h h' a i v) : Ar Z h' a ty (vs.set i v) :=
  ⟨_, A.same W, by simp [Cell.setSlot, ← e1], by simpa using hl, fun w hw => (List.mem_or_eq_of_mem_set hw).elim (hf w) fun q => q ▸ hv⟩
theorem W.castore (X : Wk l Z EL y bytes maxL ret R B0 p e s m args below meth c B T h k n) {j : Int32} {x x' : Int32} {i : Nat} (A : Ar Z h a .char vs) (hj : ¬ j < 0) (hi : j.toNatClampNeg = i) (hl : i < vs.length) (hx : nar .char x = x') (ha : Z.heap.size ≤ a) (hnb : ¬ B a) (hd : decode bytes pc = .ok (.castore, 1)) (hp : pc + 1 = pc') (g : ∀ T' h', Wk l Z EL y bytes maxL ret R B0 p e s m args below meth c B T' h' k n → Keep h h' [a] → Ar Z h' a .char (vs.set i (.int x')) → Go l Z EL R B0 Q p e s m below T' pc' ls st) : Go l Z EL R B0 Q p e s m below T pc ls (.int x :: .int j :: .ref a :: st) := by
  obtain ⟨i0, hE, hz, hB, V, locs, q0, X1, eT, hZ, hown, hS, hq, hF, hC, hK⟩ := X
  obtain ⟨cl, A, e1, hl31, hfit⟩ := A
  have e2 : cl.slots.size = vs.length := by rw [← e1]; simp
  subst hi hx
  obtain ⟨T', h', X', e', W, st'⟩ := RoadKit.stC X1 i0.1 hZ eT A (fun r => r.elim hj fun z => by omega) (g := mkF m pc ls (.int x :: .int j :: .ref a :: st)) rfl rfl (i0.2.1 ▸ hd)
  subst hp
  have S : Safe Z EL V h a := fun r => hnb (hK a r)
  exact Go.step st' (g T' h' ⟨i0, hE.wr W ha, by rw [W.size]; exact hz, hB, V, _, q0, X', e', hZ, hown, hS, by rw [W.size]; exact hq, Fr.snoc X' hF ha, hC.wr W S, fun x r => hK x ((hC.wrStep W S).2 x r)⟩ (Keep.of_wr W) (Ar.set A e1 hl31 hfit (fits_nar_char x) W))
theorem W.bastore (X : Wk l Z EL y bytes maxL ret R B0 p e s m args below meth c B T h k n) {j : Int32} {x x' : Int32} {i : Nat} (A : Ar Z h a .byte vs) (hj : ¬ j < 0) (hi : j.toNatClampNeg = i) (hl : i < vs.length) (hx : nar .byte x = x') (ha : Z.heap.size ≤ a) (hnb : ¬ B a) (hd : decode bytes pc = .ok (.bastore, 1)) (hp : pc + 1 = pc') (g : ∀ T' h', Wk l Z EL y bytes maxL ret R B0 p e s m args below meth c B T' h' k n → Keep h h' [a] → Ar Z h' a .byte (vs.set i (.int x')) → Go l Z EL R B0 Q p e s m below T' pc' ls st) : Go l Z EL R B0 Q p e s m below T pc ls (.int x :: .int j :: .ref a :: st) := by
  obtain ⟨i0, hE, hz, hB, V, locs, q0, X1, eT, hZ, hown, hS, hq, hF, hC, hK⟩ := X
  obtain ⟨cl, A, e1, hl31, hfit⟩ := A
  have e2 : cl.slots.size = vs.length := by rw [← e1]; simp
  subst hi hx
  obtain ⟨T', h', X', e', W, st'⟩ := RoadKit.stB X1 i0.1 hZ eT A (fun r => r.elim hj fun z => by omega) (g := mkF m pc ls (.int x :: .int j :: .ref a :: st)) rfl rfl (i0.2.1 ▸ hd)
  subst hp
  have S : Safe Z EL V h a := fun r => hnb (hK a r)
  exact Go.step st' (g T' h' ⟨i0, hE.wr W ha, by rw [W.size]; exact hz, hB, V, _, q0, X', e', hZ, hown, hS, by rw [W.size]; exact hq, Fr.snoc X' hF ha, hC.wr W S, fun x r => hK x ((hC.wrStep W S).2 x r)⟩ (Keep.of_wr W) (Ar.set A e1 hl31 hfit (fits_nar_byte x) W))
theorem W.iastore (X : Wk l Z EL y bytes maxL ret R B0 p e s m args below meth c B T h k n) {j : Int32} {x x' : Int32} {i : Nat} (A : Ar Z h a .int vs) (hj : ¬ j < 0) (hi : j.toNatClampNeg = i) (hl : i < vs.length) (hx : x = x') (ha : Z.heap.size ≤ a) (hnb : ¬ B a) (hd : decode bytes pc = .ok (.iastore, 1)) (hp : pc + 1 = pc') (g : ∀ T' h', Wk l Z EL y bytes maxL ret R B0 p e s m args below meth c B T' h' k n → Keep h h' [a] → Ar Z h' a .int (vs.set i (.int x')) → Go l Z EL R B0 Q p e s m below T' pc' ls st) : Go l Z EL R B0 Q p e s m below T pc ls (.int x :: .int j :: .ref a :: st) := by
  obtain ⟨i0, hE, hz, hB, V, locs, q0, X1, eT, hZ, hown, hS, hq, hF, hC, hK⟩ := X
  obtain ⟨cl, A, e1, hl31, hfit⟩ := A
  have e2 : cl.slots.size = vs.length := by rw [← e1]; simp
  subst hi hx
  obtain ⟨T', h', X', e', W, st'⟩ := RoadKit.stI X1 i0.1 hZ eT A (fun r => r.elim hj fun z => by omega) (g := mkF m pc ls (.int x :: .int j :: .ref a :: st)) rfl rfl (i0.2.1 ▸ hd)
  subst hp
  have S : Safe Z EL V h a := fun r => hnb (hK a r)
  exact Go.step st' (g T' h' ⟨i0, hE.wr W ha, by rw [W.size]; exact hz, hB, V, _, q0, X', e', hZ, hown, hS, by rw [W.size]; exact hq, Fr.snoc X' hF ha, hC.wr W S, fun x r => hK x ((hC.wrStep W S).2 x r)⟩ (Keep.of_wr W) (Ar.set A e1 hl31 hfit (rfl) W))
theorem W.lastore (X : Wk l Z EL y bytes maxL ret R B0 p e s m args below meth c B T h k n) {j : Int32} {x x' : Int64} {i : Nat} (A : Ar Z h a .long vs) (hj : ¬ j < 0) (hi : j.toNatClampNeg = i) (hl : i < vs.length) (hx : x = x') (ha : Z.heap.size ≤ a) (hnb : ¬ B a) (hd : decode bytes pc = .ok (.lastore, 1)) (hp : pc + 1 = pc') (g : ∀ T' h', Wk l Z EL y bytes maxL ret R B0 p e s m args below meth c B T' h' k n → Keep h h' [a] → Ar Z h' a .long (vs.set i (.long x')) → Go l Z EL R B0 Q p e s m below T' pc' ls st) : Go l Z EL R B0 Q p e s m below T pc ls (.long x :: .int j :: .ref a :: st) := by
  obtain ⟨i0, hE, hz, hB, V, locs, q0, X1, eT, hZ, hown, hS, hq, hF, hC, hK⟩ := X
  obtain ⟨cl, A, e1, hl31, hfit⟩ := A
  have e2 : cl.slots.size = vs.length := by rw [← e1]; simp
  subst hi hx
  obtain ⟨T', h', X', e', W, st'⟩ := RoadKit.stJ X1 i0.1 hZ eT A (fun r => r.elim hj fun z => by omega) (g := mkF m pc ls (.long x :: .int j :: .ref a :: st)) rfl rfl (i0.2.1 ▸ hd)
  subst hp
  have S : Safe Z EL V h a := fun r => hnb (hK a r)
  exact Go.step st' (g T' h' ⟨i0, hE.wr W ha, by rw [W.size]; exact hz, hB, V, _, q0, X', e', hZ, hown, hS, by rw [W.size]; exact hq, Fr.snoc X' hF ha, hC.wr W S, fun x r => hK x ((hC.wrStep W S).2 x r)⟩ (Keep.of_wr W) (Ar.set A e1 hl31 hfit (rfl) W))
theorem W.aastore (X : Wk l Z EL y bytes maxL ret R B0 p e s m args below meth c B T h k n) {j : Int32} {v : Value} {i : Nat} (A : Ar Z h a ty vs) (hj : ¬ j < 0) (hi : j.toNatClampNeg = i) (hl : i < vs.length) (hty : ty.isReference = true) (F : Sto Z h a v) (hvf : fits ty v = true) (ha : Z.heap.size ≤ a) (hnb : ¬ B a) (hd : decode bytes pc = .ok (.aastore, 1)) (hp : pc + 1 = pc') (g : ∀ T' h', Wk l Z EL y bytes maxL ret R B0 p e s m args below meth c B T' h' k n → Keep h h' [a] → Ar Z h' a ty (vs.set i v) → Go l Z EL R B0 Q p e s m below T' pc' ls st) : Go l Z EL R B0 Q p e s m below T pc ls (v :: .int j :: .ref a :: st) := by
  obtain ⟨i0, hE, hz, hB, V, locs, q0, X1, eT, hZ, hown, hS, hq, hF, hC, hK⟩ := X
  obtain ⟨cl, A, e1, hl31, hfit⟩ := A
  have e2 : cl.slots.size = vs.length := by rw [← e1]; simp
  subst hi
  obtain ⟨T', h', X', e', W, st'⟩ := RoadKit.stR X1 i0.1 hZ eT A (fun r => r.elim hj fun z => by omega) hty F (g := mkF m pc ls (v :: .int j :: .ref a :: st)) rfl rfl (i0.2.1 ▸ hd)
  subst hp
  have S : Safe Z EL V h a := fun r => hnb (hK a r)
  exact Go.step st' (g T' h' ⟨i0, hE.wr W ha, by rw [W.size]; exact hz, hB, V, _, q0, X', e', hZ, hown, hS, by rw [W.size]; exact hq, Fr.snoc X' hF ha, hC.wr W S, fun x r => hK x ((hC.wrStep W S).2 x r)⟩ (Keep.of_wr W) (Ar.set A e1 hl31 hfit hvf W))
theorem Sto.tk {C : String} (F : Tk Z h a C) (I : Ins Z h b C true) : Sto Z h a (.ref b) := by obtain ⟨c, ty, A, O⟩ := F; exact Sto.of A O I
/-! Object.<init> -/
theorem W.initO (X : Wk l Z EL y bytes maxL ret R B0 p e s m args below meth c B T h k n) {idx W : Nat} (w1 : (Jvm.Cond.methodLink y.cls idx Lib.objectInit).before a0 Z = true) (w2 : (Jvm.Cond.instanceMethod Lib.objectInit).before a0 Z = true) (w3 : (Jvm.Cond.code Lib.objectInit ⟨#[0xb1]⟩ 1 none).before a0 Z = true) (hd : decode bytes pc = .ok (.invokespecial idx, 3)) (hsize : ls.size = maxL) (hf : 1 ≤ R.frames) (hW : (st.map fun v => v.category).sum ≤ W) (hl : W + 12 ≤ R.locals) (hp : pc + 3 = pc') (g : ∀ T', Wk l Z EL y bytes maxL ret R B0 p e s m args below meth c B T' h k n → Go l Z EL R B0 Q p e s m below T' pc' ls st) : Go l Z EL R B0 Q p e s m below T pc ls (.ref a :: st) := by
  obtain ⟨i0, hE, hz, hB, V, locs, q0, X1, eT, hZ, hown, hS, hq, hF, hC, hK⟩ := X
  obtain ⟨T', X', e', st'⟩ := RoadKit.initO X1 i0.1 hZ hown w1 w2 w3 eT (g := mkF m pc ls (.ref a :: st)) rfl (hsize.trans i0.2.2.1.symm) rfl (i0.2.1 ▸ hd) hf (W := W) (by show 2 * 0 + _ ≤ _; omega) hl
  subst hp
  exact Go.step st' (g T' ⟨i0, hE, hz, hB, V, locs, q0, X', e', hZ, hown, hS, hq, hF, hC, hK⟩)
theorem sameM {C : String} {z z' : MethodName} (hc : z.cls = z'.cls) (hy : z.cls ≠ "java/lang/invoke/MethodHandle" ∧ z.cls ≠ "java/lang/invoke/VarHandle") (wi : (Jvm.Cond.instanceMethod z).before a0 Z = true) (ws : (Jvm.Cond.selects C z' z').before a0 Z = true) : (Jvm.Cond.sameMethod z.cls z.cls z.name z.desc).before a0 Z = true := by
  obtain ⟨mk, methM, hnamed, -, -, -⟩ := Cond.instanceMethod_spec wi
  obtain ⟨c2, r2, m2, q1, q2, q3, q4, kP, hkP, hkPi⟩ := Cond.selects_spec ws
  have f1 := findClass_of_methodNamed hnamed
  have f2 := findClass_of_methodNamed q3
  rw [← hc, f1] at f2
  have e : mk.cls = m2.cls := Option.some.inj f2
  have hf : Z.methodFound? z.cls z.name z.desc = some mk := State.methodFound?_of_named hnamed hy
  have hn' : Z.methodNamed? ⟨z.cls, z.name, z.desc⟩ = some mk := hnamed
  simp [Cond.before, Cond.holds, Cond.value, f1, hf, hn', e, hkP, hkPi]
theorem nfM {C : String} {z z' : MethodName} (hc : z.cls = z'.cls) (ws : (Jvm.Cond.selects C z' z').before a0 Z = true) : NotFace Z z := fun r0 h0 => by
  obtain ⟨c2, r2, m2, q1, q2, q3, q4, kP, hkP, hkPi⟩ := Cond.selects_spec ws
  have f1 := findClass_of_methodNamed h0
  have f2 := findClass_of_methodNamed q3
  rw [← hc, f1] at f2
  have e : r0.cls = m2.cls := Option.some.inj f2
  exact ⟨kP, by rw [e]; exact hkP, hkPi⟩
/-! calls -/
theorem BackS.con {z : MethodName} {zb : ByteArray} {zl len W : Nat} {zr : Option FieldType} {rm : Room} {as' : Array Value} {Qc : Option Value → Heap → (Addr → Prop) → Prop} {V : Vm} (K : Con l Z EL [] z zb zl zr rm B h as' Qc) (hZ : Z.Warmed39 V) (wc : (Jvm.Cond.code z zb zl zr).before a0 Z = true) (wz : (Jvm.Cond.initialized z.cls).before a0 Z = true) (hf : rm.frames + 1 ≤ R.frames) (hl : W + (zl + 11) + rm.locals ≤ R.locals) {a1 : Array Value} (hEL : EW Z a1 EL) (H : CHv Z EL V h) (hK : ∀ x, Bk Z EL V h x → B x) :
    BackS l R p e below (s.setVm V) args z len W (fun A a => a = as' ∧ A.U.heap = h ∧ A.cells + rm.cells ≤ R.cells ∧ A.slots + rm.slots ≤ R.slots)
      (fun A _ v B1 => ∃ L B', B1.locs = A.locs ++ L ∧ B1.cells = A.cells + rm.cells ∧ B1.slots = A.slots + rm.slots ∧ Fr Z.heap.size L ∧ CHv Z EL B1.U.vm B1.U.heap ∧ (∀ x, Bk Z EL B1.U.vm B1.U.heap x → B' x) ∧ (∀ x, B' x → B x ∨ h.size ≤ x) ∧ En Z B' B1.U.heap ∧ h.size ≤ B1.U.heap.size ∧ Qc v B1.U.heap B') :=
  BackS.of_freeW (bytes := zb) (maxL := zl) (ret := zr) (E := fun _ first o t L k n => k = rm.cells ∧ n = rm.slots ∧ ∃ v B', o = .returned v ∧ Fr Z.heap.size L ∧ CHv Z EL t.vm t.heap ∧ (∀ x, Bk Z EL t.vm t.heap x → B' x) ∧ (∀ x, B' x → B x ∨ h.size ≤ x) ∧ En Z B' t.heap ∧ h.size ≤ t.heap.size ∧ Qc v t.heap B') K hf hl
    (fun m meth c A a Y hp => have hU : Z.Warmed39 A.U.vm := wtrans (s := s.setVm V) hZ Y.warmed
      ⟨by show (Jvm.Cond.and _ .tt).before a A.U = true; rw [Cond.before_and, mv hU wc]; rfl, mv hU wc, mv hU wz, hp.2.2.1, hp.2.2.2⟩)
    (fun m meth c A a g mk Y hp => ⟨hp.1, wtrans (s := s.setVm V) hZ Y.warmed, hp.2.1, (CHv.at Y hZ hEL H).1, fun x r => by
      rcases (CHv.at Y hZ hEL H).2.2 x r with q | q
      · exact hK x q
      · obtain ⟨cell, q2⟩ := r.there
        exact absurd (Array.getElem?_eq_some_iff.mp q2).1 (Nat.not_lt.mpr q)⟩) (fun _ _ _ _ _ _ _ _ _ => trivial)
    (fun _ _ _ _ ⟨v, L, B', h1, h2, h3, h4, h5, h6, h7, h8, h9⟩ => ⟨L, _, _, h9, rfl, rfl, v, B', h1, h2, h3, h4, h5, h6, h7, h8⟩)
    (fun m meth c A a g mk v t L k n Y hp _ _ ⟨e1, e2, v', B', e3, e4, e5, e6, e7, e8, e9, e10⟩ => by
      cases e3; subst e1 e2
      exact ⟨L, B', rfl, rfl, rfl, e4, e5, e6, e7, e8, e9, e10⟩)
/-- behind a call -/
theorem Wk.after {V : Vm} {q0 : Nat} {locs : List Loc} {U : State} {L : List Loc} {B' : Addr → Prop} {k1 n1 : Nat} (i0 : p.tables.exec = Jvm.exec ∧ c.code = bytes ∧ c.maxLocals = maxL ∧ meth.sig.returnType = ret ∧ meth.locks = false ∧ meth.name = y.name ∧ ∃ a1, EW Z a1 EL) (hz : s.heap.size ≤ h.size) (hB : ∀ x, B x → B0 x ∨ s.heap.size ≤ x) (hZ : Z.Warmed39 V) (hown : V.findClass y.cls = some m.cls) (hS : s.Since V q0) (hq : q0 ≤ h.size) (hF : Fr Z.heap.size locs)
    (X2 : Stand p l e R ((s.setVm V).setVm U.vm) m args below meth c U (locs ++ L) k1 n1) (hS2 : (s.setVm V).Since U.vm U.heap.size) (r1 : Fr Z.heap.size L) (r2 : CHv Z EL U.vm U.heap) (r3 : ∀ x, Bk Z EL U.vm U.heap x → B' x) (r4 : ∀ x, B' x → B x ∨ h.size ≤ x) (r5 : En Z B' U.heap) (r6 : h.size ≤ U.heap.size) : Wk l Z EL y bytes maxL ret R B0 p e s m args below meth c B' U U.heap k1 n1 :=
  ⟨i0, r5, Nat.le_trans hz r6, fun x r => (r4 x r).elim (hB x) fun q => Or.inr (Nat.le_trans hz q), U.vm, locs ++ L, U.heap.size, X2, rfl, State.Warmed39.trans (t := s.setVm V) hZ hS2.1, (hS2.1.alike.findClass _ _).trans hown, hS.trans hS2 (Nat.le_trans hq r6), Nat.le_refl _, hF.app r1, r2, r3⟩
theorem W.callS (X : Wk l Z EL y bytes maxL ret R B0 p e s m args below meth c B T h k n) {index : Nat} {z : MethodName} {zb : ByteArray} {zl W : Nat} {zr : Option FieldType} {rm : Room} {as' : Array Value} {Qc : Option Value → Heap → (Addr → Prop) → Prop} {argsL stk : List Value} (K : Con l Z EL [] z zb zl zr rm B h as' Qc) (w1 : (Jvm.Cond.methodLink y.cls index z).before a0 Z = true) (w2 : (Jvm.Cond.static z).before a0 Z = true) (wc : (Jvm.Cond.code z zb zl zr).before a0 Z = true) (wz : (Jvm.Cond.initialized z.cls).before a0 Z = true) (hy : z.cls ≠ "java/lang/invoke/MethodHandle" ∧ z.cls ≠ "java/lang/invoke/VarHandle") (hf : rm.frames + 1 ≤ R.frames) (hl : W + (zl + 11) + rm.locals ≤ R.locals) (hsize : ls.size = maxL)
    (hlen : ∀ sig, parseMethodDescriptor z.desc = some sig → argsL.length = sig.parameters.length) (has : argsL.toArray = as') (hstk : stk = argsL.reverse ++ st) (hW : (st.map fun v => v.category).sum ≤ W) (hd : decode bytes pc = .ok (.invokestatic index, 3)) (hp : pc + 3 = pc') {k' n' : Nat} (hk1 : k + rm.cells ≤ k') (hn1 : n + rm.slots ≤ n') (hk2 : k' ≤ R.cells) (hn2 : n' ≤ R.slots)
    (g : ∀ T' h' B' v, Wk l Z EL y bytes maxL ret R B0 p e s m args below meth c B' T' h' k' n' → h.size ≤ h'.size → (∀ x, B' x → B x ∨ h.size ≤ x) → Qc v h' B' → Go l Z EL R B0 Q p e s m below T' pc' ls (v.toList ++ st)) : Go l Z EL R B0 Q p e s m below T pc ls stk := by
  obtain ⟨i0, hE, hz, hB, V, locs, q0, X1, eT, hZ, hown, hS, hq, hF, hC, hK⟩ := X
  obtain ⟨a1, hEL⟩ := i0.2.2.2.2.2.2
  obtain ⟨v, vm₁, ⟨U, Lu, ku, nu⟩, hWv, X2, hS2, hgr, ⟨L, B', e1, e2, e3, r1, r2, r3, r4, r5, r6, r7⟩, st'⟩ := Jvm.RoadKit.callSS X1 i0.1 (y := z) hown (mv (s := s.setVm V) hZ w1) (mv (s := s.setVm V) hZ w2) (mv (s := s.setVm V) hZ wz) (mv (s := s.setVm V) hZ wc) hy (BackS.con K hZ wc wz hf hl hEL hC hK) (g := mkF m pc ls stk) rfl (hsize.trans i0.2.2.1.symm) (argsL := argsL) (rest := st) hlen hstk (by show 2 * 0 + _ ≤ _; omega) (i0.2.1 ▸ hd) (fun _ _ => ⟨has, eT, by show k + _ ≤ _; omega, by show n + _ ≤ _; omega⟩)
  dsimp only [Pt.U, Pt.locs, Pt.cells, Pt.slots] at X2 hS2 hgr e1 e2 e3 r2 r3 r5 r6 r7 st'
  subst e1 e2 e3 hp
  exact Go.via st' (g U U.heap B' v ((Wk.after i0 hz hB hZ hown hS hq hF X2 hS2 r1 r2 r3 r4 r5 r6).mono hk1 hn1) r6 r4 r7)
theorem W.callV (X : Wk l Z EL y bytes maxL ret R B0 p e s m args below meth c B T h k n) {index : Nat} {z : MethodName} {zi : MethodName} {C : String} {zb : ByteArray} {zl W : Nat} {zr : Option FieldType} {rm : Room} {as' : Array Value} {Qc : Option Value → Heap → (Addr → Prop) → Prop} {argsL stk : List Value} (K : Con l Z EL [] z zb zl zr rm B h as' Qc) (w1 : (Jvm.Cond.methodLink y.cls index zi).before a0 Z = true) (w2 : (Jvm.Cond.declares zi).before a0 Z = true) (w3 : NotFace Z zi) (w4 : (Jvm.Cond.selects C zi z).before a0 Z = true) (w5 : (Jvm.Cond.instanceMethod z).before a0 Z = true) (E : Exa Z h a C) (wc : (Jvm.Cond.code z zb zl zr).before a0 Z = true) (wz : (Jvm.Cond.initialized z.cls).before a0 Z = true) (hy : zi.cls ≠ "java/lang/invoke/MethodHandle" ∧ zi.cls ≠ "java/lang/invoke/VarHandle") (hf : rm.frames + 1 ≤ R.frames) (hl : W + (zl + 11) + rm.locals ≤ R.locals) (hsize : ls.size = maxL)
    (hlen : ∀ sig, parseMethodDescriptor zi.desc = some sig → argsL.length = sig.parameters.length) (has : (.ref a :: argsL).toArray = as') (hstk : stk = argsL.reverse ++ .ref a :: st) (hW : (st.map fun v => v.category).sum ≤ W) (hd : decode bytes pc = .ok (.invokevirtual index, 3)) (hp : pc + 3 = pc') {k' n' : Nat} (hk1 : k + rm.cells ≤ k') (hn1 : n + rm.slots ≤ n') (hk2 : k' ≤ R.cells) (hn2 : n' ≤ R.slots)
    (g : ∀ T' h' B' v, Wk l Z EL y bytes maxL ret R B0 p e s m args below meth c B' T' h' k' n' → h.size ≤ h'.size → (∀ x, B' x → B x ∨ h.size ≤ x) → Qc v h' B' → Go l Z EL R B0 Q p e s m below T' pc' ls (v.toList ++ st)) : Go l Z EL R B0 Q p e s m below T pc ls stk := by
  obtain ⟨i0, hE, hz, hB, V, locs, q0, X1, eT, hZ, hown, hS, hq, hF, hC, hK⟩ := X
  obtain ⟨a1, hEL⟩ := i0.2.2.2.2.2.2
  obtain ⟨cB, kB, j1, j2, j3⟩ := isOf (s := s.setVm V) hZ eT E
  have w3' : NotFace (s.setVm V) zi := fun r0 h0 => by
    have h0' : (Z.setVm V).methodNamed? zi = some r0 := h0
    rw [State.methodNamed?_setVm hZ.alike] at h0'
    obtain ⟨kr, q1, q2⟩ := w3 r0 h0'
    obtain ⟨k2, q3, q4⟩ := hZ.alike.2.2 _ _ q1
    exact ⟨k2, q3, by rw [q4]; exact q2⟩
  obtain ⟨v, vm₁, ⟨U, Lu, ku, nu⟩, hWv, X2, hS2, hgr, ⟨L, B', e1, e2, e3, r1, r2, r3, r4, r5, r6, r7⟩, st'⟩ := X1.virtualBackS i0.1 (y := zi) (z := z) hown (mv (s := s.setVm V) hZ w1) (mv (s := s.setVm V) hZ w2) w3' (mv (s := s.setVm V) hZ w4) (mv (s := s.setVm V) hZ w5) hy (BackS.con K hZ wc wz hf hl hEL hC hK) j1 j3 (g := mkF m pc ls stk) rfl (hsize.trans i0.2.2.1.symm) (Steps.refl _) (argsL := argsL) (rest := st) hlen hstk (by show 2 * 0 + _ ≤ _; omega) (i0.2.1 ▸ hd) (fun _ _ => ⟨has, eT, by show k + _ ≤ _; omega, by show n + _ ≤ _; omega⟩)
  dsimp only [Pt.U, Pt.locs, Pt.cells, Pt.slots] at X2 hS2 hgr e1 e2 e3 r2 r3 r5 r6 r7 st'
  subst e1 e2 e3 hp
  exact Go.via st' (g U U.heap B' v ((Wk.after i0 hz hB hZ hown hS hq hF X2 hS2 r1 r2 r3 r4 r5 r6).mono hk1 hn1) r6 r4 r7)
theorem W.callI (X : Wk l Z EL y bytes maxL ret R B0 p e s m args below meth c B T h k n) {index : Nat} {count : Nat} {z : MethodName} {zi : MethodName} {C : String} {zb : ByteArray} {zl W : Nat} {zr : Option FieldType} {rm : Room} {as' : Array Value} {Qc : Option Value → Heap → (Addr → Prop) → Prop} {argsL stk : List Value} (K : Con l Z EL [] z zb zl zr rm B h as' Qc) (w1 : (Jvm.Cond.methodLink y.cls index zi).before a0 Z = true) (w2 : (Jvm.Cond.declares zi).before a0 Z = true) (w3 : (Jvm.Cond.interfaceMethod zi.cls zi.cls zi.name zi.desc).before a0 Z = true) (w4 : (Jvm.Cond.selects C zi z).before a0 Z = true) (w5 : (Jvm.Cond.instanceMethod z).before a0 Z = true) (w6 : (Jvm.Cond.publicMethod z).before a0 Z = true) (w7 : (Jvm.Cond.unhidden C zi.name zi.desc).before a0 Z = true) (w8 : (Jvm.Cond.castable C zi.cls).before a0 Z = true) (E : Exa Z h a C) (wc : (Jvm.Cond.code z zb zl zr).before a0 Z = true) (wz : (Jvm.Cond.initialized z.cls).before a0 Z = true) (hy : zi.cls ≠ "java/lang/invoke/MethodHandle" ∧ zi.cls ≠ "java/lang/invoke/VarHandle") (hf : rm.frames + 1 ≤ R.frames) (hl : W + (zl + 11) + rm.locals ≤ R.locals) (hsize : ls.size = maxL)
    (hlen : ∀ sig, parseMethodDescriptor zi.desc = some sig → argsL.length = sig.parameters.length) (has : (.ref a :: argsL).toArray = as') (hstk : stk = argsL.reverse ++ .ref a :: st) (hW : (st.map fun v => v.category).sum ≤ W) (hd : decode bytes pc = .ok (.invokeinterface index count, 5)) (hp : pc + 5 = pc') {k' n' : Nat} (hk1 : k + rm.cells ≤ k') (hn1 : n + rm.slots ≤ n') (hk2 : k' ≤ R.cells) (hn2 : n' ≤ R.slots)
    (g : ∀ T' h' B' v, Wk l Z EL y bytes maxL ret R B0 p e s m args below meth c B' T' h' k' n' → h.size ≤ h'.size → (∀ x, B' x → B x ∨ h.size ≤ x) → Qc v h' B' → Go l Z EL R B0 Q p e s m below T' pc' ls (v.toList ++ st)) : Go l Z EL R B0 Q p e s m below T pc ls stk := by
  obtain ⟨i0, hE, hz, hB, V, locs, q0, X1, eT, hZ, hown, hS, hq, hF, hC, hK⟩ := X
  obtain ⟨a1, hEL⟩ := i0.2.2.2.2.2.2
  obtain ⟨cB, kB, j1, j2, j3⟩ := isOf (s := s.setVm V) hZ eT E
  obtain ⟨v, vm₁, ⟨U, Lu, ku, nu⟩, hWv, X2, hS2, hgr, ⟨L, B', e1, e2, e3, r1, r2, r3, r4, r5, r6, r7⟩, st'⟩ := X1.interfaceBackS i0.1 (xi := zi) (y := z) hown (mv (s := s.setVm V) hZ w1) (mv (s := s.setVm V) hZ w2) (mv (s := s.setVm V) hZ w3 (by simp [Cond.onTables, Cond.keepsFace, Cond.keeps, Cond.steady, Cond.faceAtom, hy.1, hy.2])) (mv (s := s.setVm V) hZ w4) (mv (s := s.setVm V) hZ w5) (mv (s := s.setVm V) hZ w6) (mv (s := s.setVm V) hZ w7) (mv (s := s.setVm V) hZ w8) hy (BackS.con K hZ wc wz hf hl hEL hC hK) j1 j2 j3 (g := mkF m pc ls stk) rfl (hsize.trans i0.2.2.1.symm) (Steps.refl _) (argsL := argsL) (rest := st) hlen hstk (by show 2 * 0 + _ ≤ _; omega) (i0.2.1 ▸ hd) (fun _ _ => ⟨has, eT, by show k + _ ≤ _; omega, by show n + _ ≤ _; omega⟩)
  dsimp only [Pt.U, Pt.locs, Pt.cells, Pt.slots] at X2 hS2 hgr e1 e2 e3 r2 r3 r5 r6 r7 st'
  subst e1 e2 e3 hp
  exact Go.via st' (g U U.heap B' v ((Wk.after i0 hz hB hZ hown hS hq hF X2 hS2 r1 r2 r3 r4 r5 r6).mono hk1 hn1) r6 r4 r7)
theorem W.callN (X : Wk l Z EL y bytes maxL ret R B0 p e s m args below meth c B T h k n) {index : Nat} {z : MethodName} {zb : ByteArray} {zl W : Nat} {rm : Room} {as' : Array Value} {Qc : Option Value → Heap → (Addr → Prop) → Prop} {argsL stk : List Value} (K : Con l Z EL [] z zb zl none rm B h as' Qc) (hn : z.name = "<init>") (w1 : (Jvm.Cond.methodLink y.cls index z).before a0 Z = true) (w2 : (Jvm.Cond.instanceMethod z).before a0 Z = true) (wc : (Jvm.Cond.code z zb zl none).before a0 Z = true) (wz : (Jvm.Cond.initialized z.cls).before a0 Z = true) (hy : z.cls ≠ "java/lang/invoke/MethodHandle" ∧ z.cls ≠ "java/lang/invoke/VarHandle") (hf : rm.frames + 1 ≤ R.frames) (hl : W + (zl + 11) + rm.locals ≤ R.locals) (hsize : ls.size = maxL)
    (hlen : ∀ sig, parseMethodDescriptor z.desc = some sig → argsL.length = sig.parameters.length) (has : (.ref a :: argsL).toArray = as') (hstk : stk = argsL.reverse ++ .ref a :: st) (hW : (st.map fun v => v.category).sum ≤ W) (hd : decode bytes pc = .ok (.invokespecial index, 3)) (hp : pc + 3 = pc') {k' n' : Nat} (hk1 : k + rm.cells ≤ k') (hn1 : n + rm.slots ≤ n') (hk2 : k' ≤ R.cells) (hn2 : n' ≤ R.slots)
    (g : ∀ T' h' B' v, Wk l Z EL y bytes maxL ret R B0 p e s m args below meth c B' T' h' k' n' → h.size ≤ h'.size → (∀ x, B' x → B x ∨ h.size ≤ x) → Qc v h' B' → Go l Z EL R B0 Q p e s m below T' pc' ls (v.toList ++ st)) : Go l Z EL R B0 Q p e s m below T pc ls stk := by
  obtain ⟨i0, hE, hz, hB, V, locs, q0, X1, eT, hZ, hown, hS, hq, hF, hC, hK⟩ := X
  obtain ⟨a1, hEL⟩ := i0.2.2.2.2.2.2
  obtain ⟨v, vm₁, ⟨U, Lu, ku, nu⟩, hWv, X2, hS2, hgr, ⟨L, B', e1, e2, e3, r1, r2, r3, r4, r5, r6, r7⟩, st'⟩ := X1.specialBackS i0.1 (y := z) hn hown (mv (s := s.setVm V) hZ w1) (mv (s := s.setVm V) hZ w2) (mv (s := s.setVm V) hZ wc) hy (BackS.con K hZ wc wz hf hl hEL hC hK) (g := mkF m pc ls stk) rfl (hsize.trans i0.2.2.1.symm) (Steps.refl _) (a := a) (argsL := argsL) (rest := st) hlen hstk (by show 2 * 0 + _ ≤ _; omega) (i0.2.1 ▸ hd) (fun _ _ => ⟨has, eT, by show k + _ ≤ _; omega, by show n + _ ≤ _; omega⟩)
  dsimp only [Pt.U, Pt.locs, Pt.cells, Pt.slots] at X2 hS2 hgr e1 e2 e3 r2 r3 r5 r6 r7 st'
  subst e1 e2 e3 hp
  exact Go.via st' (g U U.heap B' v ((Wk.after i0 hz hB hZ hown hS hq hF X2 hS2 r1 r2 r3 r4 r5 r6).mono hk1 hn1) r6 r4 r7)
theorem W.callU (X : Wk l Z EL y bytes maxL ret R B0 p e s m args below meth c B T h k n) {index : Nat} {z : MethodName} {zi : MethodName} {C : String} {owner : String} {zb : ByteArray} {zl W : Nat} {zr : Option FieldType} {rm : Room} {as' : Array Value} {Qc : Option Value → Heap → (Addr → Prop) → Prop} {argsL stk : List Value} (K : Con l Z EL [] z zb zl zr rm B h as' Qc) (w1 : (Jvm.Cond.methodLink y.cls index zi).before a0 Z = true) (w2 : (Jvm.Cond.sameMethod zi.cls owner zi.name zi.desc).before a0 Z = true) (w3 : (Jvm.Cond.declares ⟨owner, zi.name, zi.desc⟩).before a0 Z = true) (ho : owner ≠ "java/lang/invoke/MethodHandle" ∧ owner ≠ "java/lang/invoke/VarHandle") (w4 : (Jvm.Cond.selects C zi z).before a0 Z = true) (w5 : (Jvm.Cond.instanceMethod z).before a0 Z = true) (E : Exa Z h a C) (wc : (Jvm.Cond.code z zb zl zr).before a0 Z = true) (wz : (Jvm.Cond.initialized z.cls).before a0 Z = true)  (hf : rm.frames + 1 ≤ R.frames) (hl : W + (zl + 11) + rm.locals ≤ R.locals) (hsize : ls.size = maxL)
    (hlen : ∀ sig, parseMethodDescriptor zi.desc = some sig → argsL.length = sig.parameters.length) (has : (.ref a :: argsL).toArray = as') (hstk : stk = argsL.reverse ++ .ref a :: st) (hW : (st.map fun v => v.category).sum ≤ W) (hd : decode bytes pc = .ok (.invokevirtual index, 3)) (hp : pc + 3 = pc') {k' n' : Nat} (hk1 : k + rm.cells ≤ k') (hn1 : n + rm.slots ≤ n') (hk2 : k' ≤ R.cells) (hn2 : n' ≤ R.slots)
    (g : ∀ T' h' B' v, Wk l Z EL y bytes maxL ret R B0 p e s m args below meth c B' T' h' k' n' → h.size ≤ h'.size → (∀ x, B' x → B x ∨ h.size ≤ x) → Qc v h' B' → Go l Z EL R B0 Q p e s m below T' pc' ls (v.toList ++ st)) : Go l Z EL R B0 Q p e s m below T pc ls stk := by
  obtain ⟨i0, hE, hz, hB, V, locs, q0, X1, eT, hZ, hown, hS, hq, hF, hC, hK⟩ := X
  obtain ⟨a1, hEL⟩ := i0.2.2.2.2.2.2
  obtain ⟨cB, kB, j1, j2, j3⟩ := isOf (s := s.setVm V) hZ eT E
  obtain ⟨v, vm₁, ⟨U, Lu, ku, nu⟩, hWv, X2, hS2, hgr, ⟨L, B', e1, e2, e3, r1, r2, r3, r4, r5, r6, r7⟩, st'⟩ := X1.virtualBackUpS i0.1 (x := zi) (y := z) (owner := owner) hown (mv (s := s.setVm V) hZ w1) (mv (s := s.setVm V) hZ w2) (mv (s := s.setVm V) hZ w3) ho (mv (s := s.setVm V) hZ w4) (mv (s := s.setVm V) hZ w5) (BackS.con K hZ wc wz hf hl hEL hC hK) j1 j3 (g := mkF m pc ls stk) rfl (hsize.trans i0.2.2.1.symm) (Steps.refl _) (argsL := argsL) (rest := st) hlen hstk (by show 2 * 0 + _ ≤ _; omega) (i0.2.1 ▸ hd) (fun _ _ => ⟨has, eT, by show k + _ ≤ _; omega, by show n + _ ≤ _; omega⟩)
  dsimp only [Pt.U, Pt.locs, Pt.cells, Pt.slots] at X2 hS2 hgr e1 e2 e3 r2 r3 r5 r6 r7 st'
  subst e1 e2 e3 hp
  exact Go.via st' (g U U.heap B' v ((Wk.after i0 hz hB hZ hown hS hq hF X2 hS2 r1 r2 r3 r4 r5 r6).mono hk1 hn1) r6 r4 r7)
theorem privAt {s : State} {z : MethodName} (hZ : Z.Warmed39 s.vm) (w : (Jvm.Cond.privateMethod z).before a0 Z = true) : s.PrivateAt z := Cond.privateMethod_at (mvP (args := #[]) hZ w)
theorem W.callP (X : Wk l Z EL y bytes maxL ret R B0 p e s m args below meth c B T h k n) {index : Nat} {z : MethodName} {C : String} {zb : ByteArray} {zl W : Nat} {zr : Option FieldType} {rm : Room} {as' : Array Value} {Qc : Option Value → Heap → (Addr → Prop) → Prop} {argsL stk : List Value} (K : Con l Z EL [] z zb zl zr rm B h as' Qc) (w1 : (Jvm.Cond.methodLink y.cls index z).before a0 Z = true) (w2 : (Jvm.Cond.instanceMethod z).before a0 Z = true) (w3 : NotFace Z z) (w4 : (Jvm.Cond.privateMethod z).before a0 Z = true) (E : Exa Z h a C) (wc : (Jvm.Cond.code z zb zl zr).before a0 Z = true) (wz : (Jvm.Cond.initialized z.cls).before a0 Z = true) (hy : z.cls ≠ "java/lang/invoke/MethodHandle" ∧ z.cls ≠ "java/lang/invoke/VarHandle") (hf : rm.frames + 1 ≤ R.frames) (hl : W + (zl + 11) + rm.locals ≤ R.locals) (hsize : ls.size = maxL)
    (hlen : ∀ sig, parseMethodDescriptor z.desc = some sig → argsL.length = sig.parameters.length) (has : (.ref a :: argsL).toArray = as') (hstk : stk = argsL.reverse ++ .ref a :: st) (hW : (st.map fun v => v.category).sum ≤ W) (hd : decode bytes pc = .ok (.invokevirtual index, 3)) (hp : pc + 3 = pc') {k' n' : Nat} (hk1 : k + rm.cells ≤ k') (hn1 : n + rm.slots ≤ n') (hk2 : k' ≤ R.cells) (hn2 : n' ≤ R.slots)
    (g : ∀ T' h' B' v, Wk l Z EL y bytes maxL ret R B0 p e s m args below meth c B' T' h' k' n' → h.size ≤ h'.size → (∀ x, B' x → B x ∨ h.size ≤ x) → Qc v h' B' → Go l Z EL R B0 Q p e s m below T' pc' ls (v.toList ++ st)) : Go l Z EL R B0 Q p e s m below T pc ls stk := by
  obtain ⟨i0, hE, hz, hB, V, locs, q0, X1, eT, hZ, hown, hS, hq, hF, hC, hK⟩ := X
  obtain ⟨a1, hEL⟩ := i0.2.2.2.2.2.2
  have w3' : NotFace (s.setVm V) z := fun r0 h0 => by
    have h0' : (Z.setVm V).methodNamed? z = some r0 := h0
    rw [State.methodNamed?_setVm hZ.alike] at h0'
    obtain ⟨kr, q1, q2⟩ := w3 r0 h0'
    obtain ⟨k2, q3, q4⟩ := hZ.alike.2.2 _ _ q1
    exact ⟨k2, q3, by rw [q4]; exact q2⟩
  obtain ⟨cellP, hcP, hobj⟩ := Exa.cell E
  have hcell : T.heap[a]? = some cellP := by rw [eT]; exact hcP
  obtain ⟨mkP, methP, hnP, -⟩ := Cond.instanceMethod_spec (mv (args := args) (s := s.setVm V) hZ w2)
  obtain ⟨kP, hkP, hkPi⟩ := w3' mkP hnP
  have hsel : (Jvm.Cond.selects z.cls z z).before args (s.setVm V) = true := Jvm.Stand.selects_self_of_private (findClass_of_methodNamed hnP) hkP hkPi (privAt (s := s.setVm V) hZ w4) (mv (s := s.setVm V) hZ w2) hy
  obtain ⟨v, vm₁, ⟨U, Lu, ku, nu⟩, hWv, X2, hS2, hgr, ⟨L, B', e1, e2, e3, r1, r2, r3, r4, r5, r6, r7⟩, st'⟩ := X1.privateBackS i0.1 (y := z) hown (mv (s := s.setVm V) hZ w1) (mv (s := s.setVm V) hZ w2) hsel (privAt (s := s.setVm V) hZ w4) (mv (s := s.setVm V) hZ wc) hy (BackS.con K hZ wc wz hf hl hEL hC hK) (g := mkF m pc ls stk) rfl (hsize.trans i0.2.2.1.symm) (Steps.refl _) hcell hobj (argsL := argsL) (rest := st) hlen hstk (by show 2 * 0 + _ ≤ _; omega) (i0.2.1 ▸ hd) (fun _ _ => ⟨has, eT, by show k + _ ≤ _; omega, by show n + _ ≤ _; omega⟩)
  dsimp only [Pt.U, Pt.locs, Pt.cells, Pt.slots] at X2 hS2 hgr e1 e2 e3 r2 r3 r5 r6 r7 st'
  subst e1 e2 e3 hp
  exact Go.via st' (g U U.heap B' v ((Wk.after i0 hz hB hZ hown hS hq hF X2 hS2 r1 r2 r3 r4 r5 r6).mono hk1 hn1) r6 r4 r7)
theorem W.callX (X : Wk l Z EL y bytes maxL ret R B0 p e s m args below meth c B T h k n) {index : Nat} {z : MethodName} {C : String} {zb : ByteArray} {zl W : Nat} {zr : Option FieldType} {rm : Room} {as' : Array Value} {Qc : Option Value → Heap → (Addr → Prop) → Prop} {argsL stk : List Value} (K : Con l Z EL [] z zb zl zr rm B h as' Qc) (w1 : (Jvm.Cond.methodLink y.cls index z).before a0 Z = true) (w2 : (Jvm.Cond.sameMethod z.cls z.cls z.name z.desc).before a0 Z = true) (w3 : (Jvm.Cond.instanceMethod z).before a0 Z = true) (w4 : (Jvm.Cond.superclass y.cls z.cls).before a0 Z = true) (hn : z.name ≠ "<init>") (E : Exa Z h a C) (wc : (Jvm.Cond.code z zb zl zr).before a0 Z = true) (wz : (Jvm.Cond.initialized z.cls).before a0 Z = true)  (hf : rm.frames + 1 ≤ R.frames) (hl : W + (zl + 11) + rm.locals ≤ R.locals) (hsize : ls.size = maxL)
    (hlen : ∀ sig, parseMethodDescriptor z.desc = some sig → argsL.length = sig.parameters.length) (has : (.ref a :: argsL).toArray = as') (hstk : stk = argsL.reverse ++ .ref a :: st) (hW : (st.map fun v => v.category).sum ≤ W) (hd : decode bytes pc = .ok (.invokespecial index, 3)) (hp : pc + 3 = pc') {k' n' : Nat} (hk1 : k + rm.cells ≤ k') (hn1 : n + rm.slots ≤ n') (hk2 : k' ≤ R.cells) (hn2 : n' ≤ R.slots)
    (g : ∀ T' h' B' v, Wk l Z EL y bytes maxL ret R B0 p e s m args below meth c B' T' h' k' n' → h.size ≤ h'.size → (∀ x, B' x → B x ∨ h.size ≤ x) → Qc v h' B' → Go l Z EL R B0 Q p e s m below T' pc' ls (v.toList ++ st)) : Go l Z EL R B0 Q p e s m below T pc ls stk := by
  obtain ⟨i0, hE, hz, hB, V, locs, q0, X1, eT, hZ, hown, hS, hq, hF, hC, hK⟩ := X
  obtain ⟨a1, hEL⟩ := i0.2.2.2.2.2.2
  obtain ⟨v, vm₁, ⟨U, Lu, ku, nu⟩, hWv, X2, hS2, hgr, ⟨L, B', e1, e2, e3, r1, r2, r3, r4, r5, r6, r7⟩, st'⟩ := Jvm.RoadKit.superBackS X1 i0.1 hZ hown w1 w2 w3 w4 hn (BackS.con K hZ wc wz hf hl hEL hC hK) eT (Ins.self E) (g := mkF m pc ls stk) rfl (hsize.trans i0.2.2.1.symm) wc (argsL := argsL) (rest := st) hlen hstk (by show 2 * 0 + _ ≤ _; omega) (i0.2.1 ▸ hd) (fun _ _ => ⟨has, eT, by show k + _ ≤ _; omega, by show n + _ ≤ _; omega⟩)
  dsimp only [Pt.U, Pt.locs, Pt.cells, Pt.slots] at X2 hS2 hgr e1 e2 e3 r2 r3 r5 r6 r7 st'
  subst e1 e2 e3 hp
  exact Go.via st' (g U U.heap B' v ((Wk.after i0 hz hB hZ hown hS hq hF X2 hS2 r1 r2 r3 r4 r5 r6).mono hk1 hn1) r6 r4 r7)
theorem kp {xv : Value} (g : ∀ T', Wk l Z EL y bytes maxL ret R B0 p e s m args below meth c B T' h k n → Go l Z EL R B0 Q p e s m below T' pc' ls (xv :: st)) : ∀ T' h' B' v, Wk l Z EL y bytes maxL ret R B0 p e s m args below meth c B' T' h' k n → h.size ≤ h'.size → (∀ x, B' x → B x ∨ h.size ≤ x) → (v = some xv ∧ h' = h ∧ B' = B) → Go l Z EL R B0 Q p e s m below T' pc' ls (v.toList ++ st) := by
  rintro T' h' B' v X - - ⟨rfl, rfl, rfl⟩; exact g T' X
theorem kpv (g : ∀ T', Wk l Z EL y bytes maxL ret R B0 p e s m args below meth c B T' h k n → Go l Z EL R B0 Q p e s m below T' pc' ls st) : ∀ T' h' B' v, Wk l Z EL y bytes maxL ret R B0 p e s m args below meth c B' T' h' k n → h.size ≤ h'.size → (∀ x, B' x → B x ∨ h.size ≤ x) → (v = none ∧ h' = h ∧ B' = B) → Go l Z EL R B0 Q p e s m below T' pc' ls (v.toList ++ st) := by
  rintro T' h' B' v X - - ⟨rfl, rfl, rfl⟩; exact g T' X
theorem kr {Qc : Value → Heap → Prop} (g : ∀ T' h' x, Wk l Z EL y bytes maxL ret R B0 p e s m args below meth c B T' h' k n → h.size ≤ h'.size → Qc x h' → Go l Z EL R B0 Q p e s m below T' pc' ls (x :: st)) : ∀ T' h' B' v, Wk l Z EL y bytes maxL ret R B0 p e s m args below meth c B' T' h' k n → h.size ≤ h'.size → (∀ x, B' x → B x ∨ h.size ≤ x) → (∃ x, v = some x ∧ B' = B ∧ Qc x h') → Go l Z EL R B0 Q p e s m below T' pc' ls (v.toList ++ st) := by
  rintro T' h' B' v X z - ⟨x, rfl, rfl, q⟩; exact g T' h' x X z q
theorem kv {Qc : Heap → Prop} (g : ∀ T' h', Wk l Z EL y bytes maxL ret R B0 p e s m args below meth c B T' h' k n → h.size ≤ h'.size → Qc h' → Go l Z EL R B0 Q p e s m below T' pc' ls st) : ∀ T' h' B' v, Wk l Z EL y bytes maxL ret R B0 p e s m args below meth c B' T' h' k n → h.size ≤ h'.size → (∀ x, B' x → B x ∨ h.size ≤ x) → (v = none ∧ B' = B ∧ Qc h') → Go l Z EL R B0 Q p e s m below T' pc' ls (v.toList ++ st) := by
  rintro T' h' B' v X z - ⟨rfl, rfl, q⟩; exact g T' h' X z q
theorem kri {Qc : Value → Heap → (Addr → Prop) → Prop} (g : ∀ T' h' B' x, Wk l Z EL y bytes maxL ret R B0 p e s m args below meth c B' T' h' k n → h.size ≤ h'.size → (∀ x, B' x → B x ∨ h.size ≤ x) → Qc x h' B' → Go l Z EL R B0 Q p e s m below T' pc' ls (x :: st)) : ∀ T' h' B' v, Wk l Z EL y bytes maxL ret R B0 p e s m args below meth c B' T' h' k n → h.size ≤ h'.size → (∀ x, B' x → B x ∨ h.size ≤ x) → (∃ x, v = some x ∧ Qc x h' B') → Go l Z EL R B0 Q p e s m below T' pc' ls (v.toList ++ st) := by
  rintro T' h' B' v X z zb ⟨x, rfl, q⟩; exact g T' h' B' x X z zb q
theorem kvi {Qc : Heap → (Addr → Prop) → Prop} (g : ∀ T' h' B', Wk l Z EL y bytes maxL ret R B0 p e s m args below meth c B' T' h' k n → h.size ≤ h'.size → (∀ x, B' x → B x ∨ h.size ≤ x) → Qc h' B' → Go l Z EL R B0 Q p e s m below T' pc' ls st) : ∀ T' h' B' v, Wk l Z EL y bytes maxL ret R B0 p e s m args below meth c B' T' h' k n → h.size ≤ h'.size → (∀ x, B' x → B x ∨ h.size ≤ x) → (v = none ∧ Qc h' B') → Go l Z EL R B0 Q p e s m below T' pc' ls (v.toList ++ st) := by
  rintro T' h' B' v X z zb ⟨rfl, q⟩; exact g T' h' B' X z zb q
/-! System.arraycopy -/
theorem range_getD {vs : List Value} {i len : Nat} (d : Value) (hl : i + len ≤ vs.length) : (List.range len).map (fun q => vs.getD (i + q) d) = (vs.drop i).take len := by
  apply List.ext_getElem?
  intro j
  by_cases hj : j < len
  · rw [List.getElem?_map, List.getElem?_range hj, List.getElem?_take_of_lt hj, List.getElem?_drop]
    simp only [Option.map_some, List.getD_eq_getElem?_getD]
    rw [List.getElem?_eq_getElem (by omega : i + j < vs.length)]; rfl
  · rw [List.getElem?_eq_none (by simpa using hj), List.getElem?_eq_none (by simp; omega)]
theorem W.acopy (X : Wk l Z EL y bytes maxL ret R B0 p e s m args below meth c B T h k n) {index W : Nat} {sp dp nn : Int32} {i j len : Nat} {us : List Value} (A : Ar Z h a ty vs) (D : Ar Z h b ty us) (w1 : (Jvm.Cond.methodLink y.cls index Jvm.Stand.acN).before a0 Z = true) (w2 : (Jvm.Cond.native Jvm.Stand.acN).before a0 Z = true) (w3 : (Jvm.Cond.static Jvm.Stand.acN).before a0 Z = true) (w4 : (Jvm.Cond.initialized "java/lang/System").before a0 Z = true) (hty : refKind ty = false)
    (h1 : i.toInt32 = sp) (h2 : j.toInt32 = dp) (h3 : len.toInt32 = nn) (h4 : i + len ≤ vs.length) (h5 : j + len ≤ us.length) (ha : Z.heap.size ≤ b) (hnb : ¬ B b) (hsize : ls.size = maxL) (hf : 1 ≤ R.frames) (hW : (st.map fun v => v.category).sum ≤ W) (hlo : W + (nativeFrameWords "java/lang/System" "arraycopy" 5 + 11) ≤ R.locals) (hd : decode bytes pc = .ok (.invokestatic index, 3)) (hp : pc + 3 = pc')
    (g : ∀ T' h', Wk l Z EL y bytes maxL ret R B0 p e s m args below meth c B T' h' k n → Keep h h' [b] → Ar Z h' b ty (us.take j ++ (vs.drop i).take len ++ us.drop (j + len)) → Go l Z EL R B0 Q p e s m below T' pc' ls st) : Go l Z EL R B0 Q p e s m below T pc ls (.int nn :: .int dp :: .ref b :: .int sp :: .ref a :: st) := by
  obtain ⟨i0, hE, hz, hB, V, locs, q0, X1, eT, hZ, hown, hS, hq, hF, hC, hK⟩ := X
  have hv := A.len_lt
  have hu := D.len_lt
  subst h1 h2 h3 hp
  obtain ⟨n1, e1, -⟩ := len32 (show i < 2 ^ 31 by omega)
  obtain ⟨n2, e2, -⟩ := len32 (show j < 2 ^ 31 by omega)
  obtain ⟨n3, e3, -⟩ := len32 (show len < 2 ^ 31 by omega)
  obtain ⟨n4, e4, -⟩ := len32 hv
  obtain ⟨n5, e5, -⟩ := len32 hu
  obtain ⟨ka, A'⟩ := A.toArv rfl (.int 0)
  obtain ⟨kb, D'⟩ := D.toArv rfl (.int 0)
  obtain ⟨T', h', L, X', e', N', K', R', st'⟩ := RoadKit.cpA X1 i0.1 hZ hown w1 w2 w3 w4 eT A' D' (us := (List.range len).map fun q => vs.getD (i + q) (.int 0)) (Or.inl ⟨rfl, hty⟩) n1 n2 n3 (by rw [e1, e3, e4]; exact h4) (by rw [e2, e3, e5]; exact h5) (by rw [e1, e3]) (by rw [e2, e3]; exact h5) hF ha (g := mkF m pc ls (.int len.toInt32 :: .int j.toInt32 :: .ref b :: .int i.toInt32 :: .ref a :: st)) rfl (hsize.trans i0.2.2.1.symm) rfl (i0.2.1 ▸ hd) hf (W := W) (by show 2 * 0 + _ ≤ _; omega) hlo
  rw [range_getD _ h4, e2, e3] at R'
  have S : ∀ x ∈ [b], Safe Z EL V h x := fun x hx => by cases List.mem_singleton.mp hx; exact fun r => hnb (hK b r)
  have hO := (Old.keep (n0 := Z.heap.size) ⟨rfl, hE.1⟩ K' (allS ha all0)).2
  exact Go.step st' (g T' h' ⟨i0, ⟨hO, fun x r => Nat.lt_of_lt_of_le (hE.2 x r) K'.1⟩, Nat.le_trans hz K'.1, hB, V, L, q0, X', e', hZ, hown, hS, Nat.le_trans hq K'.1, N', hC.keep K' S, fun x r => hK x ((hC.keepStep K' S).2 x r)⟩ K' (Ar.ofArv R' (by rw [e5]; simp; omega)))
/-! the end -/
theorem W.fin (X : Wk l Z EL y bytes maxL ret R B0 p e s m args below meth c B T h k n) {v : Option Value} (hv : ret = none → v = none) (hk : k ≤ R.cells) (hn : n ≤ R.slots) (q : Q v h B) (run : ∀ fs, (∀ (f : JFrame) (acts : List Action), f.method = m → f.locked = none → f.entered = [] → (doReturn e (T.setTop f) acts v).1 = T.setFrames fs) → Steps p.tables e below (T.setTop (mkF m pc ls st)) (T.setFrames fs)) : Go l Z EL R B0 Q p e s m below T pc ls st := by
  obtain ⟨i0, hE, hz, hB, V, locs, q0, X1, eT, hZ, hown, hS, hq, hF, hC, hK⟩ := X
  obtain ⟨a1, hEL⟩ := i0.2.2.2.2.2.2
  obtain ⟨fs, hr, hrun, hend, hW⟩ := X1.leaveW hS (by rw [eT]; exact hq) (v := v) (fun z => hv (i0.2.2.2.1.symm.trans z)) i0.2.2.2.2.1
  have eh : (T.setFrames fs).heap = h := eT
  have q1 := CHv.at X1 hZ hEL hC
  refine ⟨T.setFrames fs, _, run fs hr, hrun, hend, v, locs, B, rfl, hF, by rw [eh]; exact q1.1, fun x r => ?_, hB, by rw [eh]; exact hE, by rw [eh]; exact hz, by rw [eh]; exact q, hW.1, hW.2.1, hW.2.2.1, hW.2.2.2.mono hk hn⟩
  rw [eh] at r
  rcases q1.2.2 x r with z | z
  · exact hK x z
  · obtain ⟨cell, q2⟩ := r.there
    exact absurd (Array.getElem?_eq_some_iff.mp q2).1 (Nat.not_lt.mpr z)
theorem W.ireturn (X : Wk l Z EL y bytes maxL ret R B0 p e s m args below meth c B T h k n) {t : FieldType} {x : Int32} (hd : decode bytes pc = .ok (.ireturn, 1)) (hret : ret = some t) (ht : t = .int ∨ t = .boolean ∨ t = .byte ∨ t = .char ∨ t = .short) (hnw : narrow t (.int x) = .int x) (hk : k ≤ R.cells) (hn : n ≤ R.slots) (q : Q (some (.int x)) h B) : Go l Z EL R B0 Q p e s m below T pc ls (.int x :: st) := by
  have X0 := X
  obtain ⟨i0, hE, hz, hB, V, locs, q0, X1, eT, hZ, hown, hS, hq, hF, hC, hK⟩ := X
  exact W.fin X0 (fun z => by rw [hret] at z; cases z) hk hn q fun fs hl => RoadKit.retOut (i := .ireturn) X1 i0.1 (i0.2.2.2.1.trans hret) hnw (Or.inl ⟨rfl, ht, x, rfl⟩) (i0.2.1 ▸ hd) hl
theorem W.lreturn (X : Wk l Z EL y bytes maxL ret R B0 p e s m args below meth c B T h k n) {x : Int64} (hd : decode bytes pc = .ok (.lreturn, 1)) (hret : ret = some .long) (hk : k ≤ R.cells) (hn : n ≤ R.slots) (q : Q (some (.long x)) h B) : Go l Z EL R B0 Q p e s m below T pc ls (.long x :: st) := by
  have X0 := X
  obtain ⟨i0, hE, hz, hB, V, locs, q0, X1, eT, hZ, hown, hS, hq, hF, hC, hK⟩ := X
  exact W.fin X0 (fun z => by rw [hret] at z; cases z) hk hn q fun fs hl => RoadKit.retOut (i := .lreturn) X1 i0.1 (i0.2.2.2.1.trans hret) rfl (Or.inr (Or.inl ⟨rfl, rfl, x, rfl⟩)) (i0.2.1 ▸ hd) hl
theorem W.areturn (X : Wk l Z EL y bytes maxL ret R B0 p e s m args below meth c B T h k n) {t : FieldType} {v : Value} (hd : decode bytes pc = .ok (.areturn, 1)) (hret : ret = some t) (ht : t.isReference = true) (hv : v.isRef = true) (hnw : narrow t v = v) (hk : k ≤ R.cells) (hn : n ≤ R.slots) (q : Q (some v) h B) : Go l Z EL R B0 Q p e s m below T pc ls (v :: st) := by
  have X0 := X
  obtain ⟨i0, hE, hz, hB, V, locs, q0, X1, eT, hZ, hown, hS, hq, hF, hC, hK⟩ := X
  exact W.fin X0 (fun z => by rw [hret] at z; cases z) hk hn q fun fs hl => RoadKit.retOut (i := .areturn) X1 i0.1 (i0.2.2.2.1.trans hret) hnw (Or.inr (Or.inr (Or.inr (Or.inr ⟨rfl, ht, hv⟩)))) (i0.2.1 ▸ hd) hl
theorem W.vreturn (X : Wk l Z EL y bytes maxL ret R B0 p e s m args below meth c B T h k n) (hd : decode bytes pc = .ok (.return_, 1)) (hret : ret = none) (hk : k ≤ R.cells) (hn : n ≤ R.slots) (q : Q none h B) : Go l Z EL R B0 Q p e s m below T pc ls [] := by
  have X0 := X
  obtain ⟨i0, hE, hz, hB, V, locs, q0, X1, eT, hZ, hown, hS, hq, hF, hC, hK⟩ := X
  exact W.fin X0 (fun _ => rfl) hk hn q fun fs hl => X1.returnOut i0.1 (i0.2.2.2.1.trans hret) (i0.2.1 ▸ hd) hl
/-! the entry -/
theorem Con.intro {wl : List Jvm.Cond} {rm : Room} {as' : Array Value} (hpl : plainFor y = true) (hEW : EW Z a0 EL) (hE : En Z B h) (hef : ∀ m, entryFrame m as' maxL = mkF m 0 ls [])
    (body : ∀ p e s m below meth c T, s.heap = h → Wk l Z EL y bytes maxL ret rm B p e s m as' below meth c B T h 0 0 → Go l Z EL rm B Q p e s m below T 0 ls []) : Con l Z EL wl y bytes maxL ret rm B h as' Q := by
  refine MetFree.of_bodySF hpl hisR ?_
  intro p e s m args below meth c s₁ Bd hml0 hP hK
  obtain ⟨rfl, hZ, hh, hC, hBk⟩ := hP
  have X0 : Stand p l e rm s m args below meth c s₁ [] 0 0 := Stand.of_body Bd
  have e0 : s₁.heap = h := by rw [← hh, Bd.state]; rfl
  have hg : Go l Z EL rm B Q p e s m below s₁ 0 ls [] := body p e s m below meth c s₁ hh ⟨⟨Bd.exec, Bd.bytes, hml0, Bd.returns, Bd.notSynchronized, (name_of_methodNamed Bd.named Bd.method).1, a0, hEW⟩, hE, by rw [hh]; exact Nat.le_refl _, fun x r => Or.inl r, s.vm, [], s.heap.size, X0, e0, hZ, findClass_of_methodNamed Bd.named, (State.WarmedH.refl s).since _, by rw [hh]; exact Nat.le_refl _, Fr.nil _, hC, hBk⟩
  obtain ⟨s₂, o, h1, h2, h3, v, L, B', g1, g2, g3, g4, g5, g6, g7, g8, g9⟩ := hg
  rw [hh] at g5 g7
  exact ⟨s₂, o, castTop (hef m) h1, h2, h3, v, L, B', g1, g2, g3, g4, g5, g6, g7, g8, g9⟩
/-! String constants -/
theorem W.ldcO (X : Wk l Z EL y bytes maxL ret R B0 p e s m args below meth c B T h k n) {index cap : Nat} {text : String} (hEW : EW Z a0 EL) (w : (Jvm.Cond.stringLink y.cls index text).before a0 Z = true) (wS : ∀ a ∈ Bundle.stringAtoms, a.before a0 Z = true) (hd : decode bytes pc = .ok (.ldc index, 2)) (hcap : 4 * text.toList.length ≤ cap) (hbig : cap ≤ 536870912) (hp : pc + 2 = pc') {k' n' : Nat} (hk : k + 2 ≤ k') (hn : n + (cap + 4) ≤ n') (hk' : k' ≤ R.cells) (hn' : n' ≤ R.slots)
    (g : ∀ T' h' B' a, Wk l Z EL y bytes maxL ret R B0 p e s m args below meth c B' T' h' k' n' → Keep h h' [] → (∀ x, B' x → B x ∨ h.size ≤ x) → Go l Z EL R B0 Q p e s m below T' pc' ls (.ref a :: st)) : Go l Z EL R B0 Q p e s m below T pc ls st := by
  obtain ⟨i0, hE, hz, hB, V, locs, q0, X1, eT, hZ, hown, hS, hq, hF, hC, hK⟩ := X
  obtain ⟨a1, hEL⟩ := i0.2.2.2.2.2.2
  obtain ⟨a, T', h', k1, X', e', E, hS', hk1, hZ', hown', hr, -, st'⟩ := ldcOH X1 i0.1 hZ hown w wS eT hS hq hEW hC (g := mkF m pc ls st) rfl (i0.2.1 ▸ hd) hcap hbig (Nat.le_trans hk hk') (Nat.le_trans hn hn')
  subst hp
  let B' : Addr → Prop := fun x => B x ∨ (h.size ≤ x ∧ x < h'.size)
  have hB' : ∀ x, Bk Z EL T'.vm h' x → B' x := fun x r => (hr.2.2 x r).elim (fun z => Or.inl (hK x z)) fun z => by
    obtain ⟨cell, q⟩ := r.there
    exact Or.inr ⟨z, (Array.getElem?_eq_some_iff.mp q).1⟩
  refine Go.step st' (g T' h' B' a ⟨i0, ⟨(hE.ext E).1, fun x r => r.elim (fun z => Nat.lt_of_lt_of_le (hE.2 x z) E.1) fun z => z.2⟩, Nat.le_trans hz E.1, fun x r => r.elim (hB x) fun z => Or.inr (Nat.le_trans hz z.1), T'.vm, locs, k1, X'.mono hk hn, e', hZ', hown', hS', hk1, hF, hr.1, hB'⟩ (keepE E) (fun x r => r.imp id fun z => z.1))
theorem W.ldcR (X : Wk l Z EL y bytes maxL ret R B0 p e s m args below meth c B T h k n) {index cap : Nat} {text : String} {cs : List Int32} (hmem : (y.cls, index) ∈ EL) (w : (Jvm.Cond.stringLink y.cls index text).before a0 Z = true) (wS : ∀ a ∈ Bundle.stringAtoms, a.before a0 Z = true) (hEW : EW Z a0 EL) (ht : (∀ c ∈ text.toList, c.toNat < 256) ∧ text.toList.map (fun c => Value.int (Jvm.Lit.byteI c.toNat.toUInt16)) = by8 cs) (hlat : Lat cs) (hlen : cs.length < 2 ^ 31) (hd : decode bytes pc = .ok (.ldc index, 2)) (hcap : 4 * text.toList.length ≤ cap) (hbig : cap ≤ 536870912) (hp : pc + 2 = pc') {k' n' : Nat} (hk : k + 2 ≤ k') (hn : n + (cap + 4) ≤ n') (hk' : k' ≤ R.cells) (hn' : n' ≤ R.slots)
    (g : ∀ T' h' B' a b, Wk l Z EL y bytes maxL ret R B0 p e s m args below meth c B' T' h' k' n' → Keep h h' [] → (∀ x, B' x → B x ∨ h.size ≤ x) → Str Z h' a b cs → (∀ x, ¬ B' x → x ≠ a ∧ x ≠ b) → Go l Z EL R B0 Q p e s m below T' pc' ls (.ref a :: st)) : Go l Z EL R B0 Q p e s m below T pc ls st := by
  obtain ⟨i0, hE, hz, hB, V, locs, q0, X1, eT, hZ, hown, hS, hq, hF, hC, hK⟩ := X
  obtain ⟨q1, q2, q3⟩ := len32 hlen
  obtain ⟨a, T', h', k1, b, kb, X', e', E, hS', hk1, hZ', hown', f1, f2, f3, f4, la, lb, hr, -, hne, st'⟩ := ldcCH X1 i0.1 hZ hown w wS eT hS hq hEW hmem hC ht q1 (by rw [q2]; simp) (g := mkF m pc ls st) rfl (i0.2.1 ▸ hd) hcap hbig (Nat.le_trans hk hk') (Nat.le_trans hn hn')
  subst hp
  let B' : Addr → Prop := fun x => B x ∨ (h.size ≤ x ∧ x < h'.size)
  have hB' : ∀ x, Bk Z EL T'.vm h' x → B' x := fun x r => (hr.2.2 x r).elim (fun z => Or.inl (hK x z)) fun z => by
    obtain ⟨cell, q⟩ := r.there
    exact Or.inr ⟨z, (Array.getElem?_eq_some_iff.mp q).1⟩
  refine Go.step st' (g T' h' B' a b ⟨i0, ⟨(hE.ext E).1, fun x r => r.elim (fun z => Nat.lt_of_lt_of_le (hE.2 x z) E.1) fun z => z.2⟩, Nat.le_trans hz E.1, fun x r => r.elim (hB x) fun z => Or.inr (Nat.le_trans hz z.1), T'.vm, locs, k1, X'.mono hk hn, e', hZ', hown', hS', hk1, hF, hr.1, hB'⟩ (keepE E) (fun x r => r.imp id fun z => z.1) ⟨f1, f2, f3, Ar.ofArv f4 (by rw [q2]; simp), hlat⟩ fun x r => hne x fun z => r (hB' x z))

end Own
end Own
end Jvm.Pilot.@@N@@

namespace Jvm.Pilot.@@N@@
open Jvm Jvm.ClassFile Sem Op Lib Jvm.Free Jvm.Stand Jvm.LawKit Jvm.RoadKit Bundle Jvm.Pilot.@@N@@.Jvm.D Own Jvm.Free.XT

def Gl (Z : State) (a0 : Array Value) (zC : Int32) (fS : Value) (e0 : Addr) (e1 : Addr) (e2 : Addr) : Prop := (∀ d ∈ tables_1, d.before a0 Z = true) ∧ EW Z a0 [] ∧ Sta Z Z.heap "java/lang/String" "COMPACT_STRINGS" "Z" (.int zC) ∧ ¬ zC = 0 ∧ Sta Z Z.heap "jdk/internal/util/Preconditions" "SIOOBE_FORMATTER" "Ljava/util/function/BiFunction;" fS ∧ fS.isRef = true ∧ Sta Z Z.heap "com/example/campo_grande/campogrande/SignatureAlgorithm" "SHA256" "Lcom/example/campo_grande/campogrande/SignatureAlgorithm;" (.ref e0) ∧ Sta Z Z.heap "com/example/campo_grande/campogrande/SignatureAlgorithm" "SHA1" "Lcom/example/campo_grande/campogrande/SignatureAlgorithm;" (.ref e1) ∧ Sta Z Z.heap "com/example/campo_grande/campogrande/SignatureAlgorithm" "MD5" "Lcom/example/campo_grande/campogrande/SignatureAlgorithm;" (.ref e2) ∧ Exa Z Z.heap e0 "com/example/campo_grande/campogrande/SignatureAlgorithm" ∧ Fld Z Z.heap e0 "com/example/campo_grande/campogrande/SignatureAlgorithm" "digestLength" "I" (.int (32 : Int32)) ∧ Exa Z Z.heap e1 "com/example/campo_grande/campogrande/SignatureAlgorithm" ∧ Fld Z Z.heap e1 "com/example/campo_grande/campogrande/SignatureAlgorithm" "digestLength" "I" (.int (20 : Int32)) ∧ Exa Z Z.heap e2 "com/example/campo_grande/campogrande/SignatureAlgorithm" ∧ Fld Z Z.heap e2 "com/example/campo_grande/campogrande/SignatureAlgorithm" "digestLength" "I" (.int (16 : Int32)) ∧ True
theorem w0 {Z : State} {a0 : Array Value} {zC : Int32} {fS : Value} {e0 : Addr} {e1 : Addr} {e2 : Addr} (G : Gl Z a0 zC fS e0 e1 e2) : (Jvm.Cond.methodLink "com/example/campo_grande/campogrande/PayloadDigestEqualsPinLaw" (7 : Nat) ({ cls := "com/example/campo_grande/campogrande/PayloadDigestEqualsPinLaw", name := "index", desc := "(I)I" } : Jvm.MethodName)).before a0 Z = true := G.1 _ (List.mem_of_getElem? (i := 0) rfl)
theorem w1 {Z : State} {a0 : Array Value} {zC : Int32} {fS : Value} {e0 : Addr} {e1 : Addr} {e2 : Addr} (G : Gl Z a0 zC fS e0 e1 e2) : (Jvm.Cond.static ({ cls := "com/example/campo_grande/campogrande/PayloadDigestEqualsPinLaw", name := "index", desc := "(I)I" } : Jvm.MethodName)).before a0 Z = true := G.1 _ (List.mem_of_getElem? (i := 1) rfl)
theorem w2 {Z : State} {a0 : Array Value} {zC : Int32} {fS : Value} {e0 : Addr} {e1 : Addr} {e2 : Addr} (G : Gl Z a0 zC fS e0 e1 e2) : (Jvm.Cond.initialized "com/example/campo_grande/campogrande/PayloadDigestEqualsPinLaw").before a0 Z = true := G.1 _ (List.mem_of_getElem? (i := 2) rfl)
theorem w3 {Z : State} {a0 : Array Value} {zC : Int32} {fS : Value} {e0 : Addr} {e1 : Addr} {e2 : Addr} (G : Gl Z a0 zC fS e0 e1 e2) : (Jvm.Cond.code ({ cls := "com/example/campo_grande/campogrande/PayloadDigestEqualsPinLaw", name := "index", desc := "(I)I" } : Jvm.MethodName) method_3_code (1 : Nat) (Option.some Jvm.ClassFile.FieldType.int)).before a0 Z = true := G.1 _ (List.mem_of_getElem? (i := 3) rfl)
theorem w4 {Z : State} {a0 : Array Value} {zC : Int32} {fS : Value} {e0 : Addr} {e1 : Addr} {e2 : Addr} (G : Gl Z a0 zC fS e0 e1 e2) : (Jvm.Cond.constant "com/example/campo_grande/campogrande/PayloadDigestEqualsPinLaw" (24 : Nat) (2147483647 : Int32)).before a0 Z = true := G.1 _ (List.mem_of_getElem? (i := 4) rfl)
theorem w5 {Z : State} {a0 : Array Value} {zC : Int32} {fS : Value} {e0 : Addr} {e1 : Addr} {e2 : Addr} (G : Gl Z a0 zC fS e0 e1 e2) : (Jvm.Cond.methodLink "com/example/campo_grande/campogrande/PayloadDigestEqualsPinLaw" (13 : Nat) ({ cls := "com/example/campo_grande/campogrande/PayloadDigestEqualsPinLaw", name := "algorithm", desc := "(I)Lcom/example/campo_grande/campogrande/SignatureAlgorithm;" } : Jvm.MethodName)).before a0 Z = true := G.1 _ (List.mem_of_getElem? (i := 5) rfl)
theorem w6 {Z : State} {a0 : Array Value} {zC : Int32} {fS : Value} {e0 : Addr} {e1 : Addr} {e2 : Addr} (G : Gl Z a0 zC fS e0 e1 e2) : (Jvm.Cond.static ({ cls := "com/example/campo_grande/campogrande/PayloadDigestEqualsPinLaw", name := "algorithm", desc := "(I)Lcom/example/campo_grande/campogrande/SignatureAlgorithm;" } : Jvm.MethodName)).before a0 Z = true := G.1 _ (List.mem_of_getElem? (i := 6) rfl)
theorem w7 {Z : State} {a0 : Array Value} {zC : Int32} {fS : Value} {e0 : Addr} {e1 : Addr} {e2 : Addr} (G : Gl Z a0 zC fS e0 e1 e2) : (Jvm.Cond.code ({ cls := "com/example/campo_grande/campogrande/PayloadDigestEqualsPinLaw", name := "algorithm", desc := "(I)Lcom/example/campo_grande/campogrande/SignatureAlgorithm;" } : Jvm.MethodName) method_4_code (1 : Nat) (Option.some (Jvm.ClassFile.FieldType.object "com/example/campo_grande/campogrande/SignatureAlgorithm"))).before a0 Z = true := G.1 _ (List.mem_of_getElem? (i := 7) rfl)
theorem w8 {Z : State} {a0 : Array Value} {zC : Int32} {fS : Value} {e0 : Addr} {e1 : Addr} {e2 : Addr} (G : Gl Z a0 zC fS e0 e1 e2) : (Jvm.Cond.fieldLink "com/example/campo_grande/campogrande/PayloadDigestEqualsPinLaw" (48 : Nat) "com/example/campo_grande/campogrande/SignatureAlgorithm" "SHA256" "Lcom/example/campo_grande/campogrande/SignatureAlgorithm;").before a0 Z = true := G.1 _ (List.mem_of_getElem? (i := 8) rfl)
theorem w9 {Z : State} {a0 : Array Value} {zC : Int32} {fS : Value} {e0 : Addr} {e1 : Addr} {e2 : Addr} (G : Gl Z a0 zC fS e0 e1 e2) : (Jvm.Cond.initialized "com/example/campo_grande/campogrande/SignatureAlgorithm").before a0 Z = true := G.1 _ (List.mem_of_getElem? (i := 9) rfl)
theorem w11 {Z : State} {a0 : Array Value} {zC : Int32} {fS : Value} {e0 : Addr} {e1 : Addr} {e2 : Addr} (G : Gl Z a0 zC fS e0 e1 e2) : (Jvm.Cond.methodLink "com/example/campo_grande/campogrande/PayloadDigestEqualsPinLaw" (17 : Nat) ({ cls := "com/example/campo_grande/campogrande/PayloadDigestEqualsPinLaw", name := "length", desc := "(I)I" } : Jvm.MethodName)).before a0 Z = true := G.1 _ (List.mem_of_getElem? (i := 11) rfl)
theorem w12 {Z : State} {a0 : Array Value} {zC : Int32} {fS : Value} {e0 : Addr} {e1 : Addr} {e2 : Addr} (G : Gl Z a0 zC fS e0 e1 e2) : (Jvm.Cond.static ({ cls := "com/example/campo_grande/campogrande/PayloadDigestEqualsPinLaw", name := "length", desc := "(I)I" } : Jvm.MethodName)).before a0 Z = true := G.1 _ (List.mem_of_getElem? (i := 12) rfl)
theorem w13 {Z : State} {a0 : Array Value} {zC : Int32} {fS : Value} {e0 : Addr} {e1 : Addr} {e2 : Addr} (G : Gl Z a0 zC fS e0 e1 e2) : (Jvm.Cond.code ({ cls := "com/example/campo_grande/campogrande/PayloadDigestEqualsPinLaw", name := "length", desc := "(I)I" } : Jvm.MethodName) method_5_code (1 : Nat) (Option.some Jvm.ClassFile.FieldType.int)).before a0 Z = true := G.1 _ (List.mem_of_getElem? (i := 13) rfl)
theorem w14 {Z : State} {a0 : Array Value} {zC : Int32} {fS : Value} {e0 : Addr} {e1 : Addr} {e2 : Addr} (G : Gl Z a0 zC fS e0 e1 e2) : (Jvm.Cond.methodLink "com/example/campo_grande/campogrande/PayloadDigestEqualsPinLaw" (20 : Nat) ({ cls := "com/example/campo_grande/campogrande/PayloadDigestEqualsPinLaw", name := "hex", desc := "(I)C" } : Jvm.MethodName)).before a0 Z = true := G.1 _ (List.mem_of_getElem? (i := 14) rfl)
theorem w15 {Z : State} {a0 : Array Value} {zC : Int32} {fS : Value} {e0 : Addr} {e1 : Addr} {e2 : Addr} (G : Gl Z a0 zC fS e0 e1 e2) : (Jvm.Cond.static ({ cls := "com/example/campo_grande/campogrande/PayloadDigestEqualsPinLaw", name := "hex", desc := "(I)C" } : Jvm.MethodName)).before a0 Z = true := G.1 _ (List.mem_of_getElem? (i := 15) rfl)
theorem w16 {Z : State} {a0 : Array Value} {zC : Int32} {fS : Value} {e0 : Addr} {e1 : Addr} {e2 : Addr} (G : Gl Z a0 zC fS e0 e1 e2) : (Jvm.Cond.code ({ cls := "com/example/campo_grande/campogrande/PayloadDigestEqualsPinLaw", name := "hex", desc := "(I)C" } : Jvm.MethodName) method_6_code (2 : Nat) (Option.some Jvm.ClassFile.FieldType.char)).before a0 Z = true := G.1 _ (List.mem_of_getElem? (i := 16) rfl)
theorem w17 {Z : State} {a0 : Array Value} {zC : Int32} {fS : Value} {e0 : Addr} {e1 : Addr} {e2 : Addr} (G : Gl Z a0 zC fS e0 e1 e2) : (Jvm.Cond.methodLink "com/example/campo_grande/campogrande/PayloadDigestEqualsPinLaw" (25 : Nat) ({ cls := "com/example/campo_grande/campogrande/PayloadDigestEqualsPinLaw", name := "filled", desc := "(IC)[C" } : Jvm.MethodName)).before a0 Z = true := G.1 _ (List.mem_of_getElem? (i := 17) rfl)
theorem w18 {Z : State} {a0 : Array Value} {zC : Int32} {fS : Value} {e0 : Addr} {e1 : Addr} {e2 : Addr} (G : Gl Z a0 zC fS e0 e1 e2) : (Jvm.Cond.static ({ cls := "com/example/campo_grande/campogrande/PayloadDigestEqualsPinLaw", name := "filled", desc := "(IC)[C" } : Jvm.MethodName)).before a0 Z = true := G.1 _ (List.mem_of_getElem? (i := 18) rfl)
theorem w19 {Z : State} {a0 : Array Value} {zC : Int32} {fS : Value} {e0 : Addr} {e1 : Addr} {e2 : Addr} (G : Gl Z a0 zC fS e0 e1 e2) : (Jvm.Cond.code ({ cls := "com/example/campo_grande/campogrande/PayloadDigestEqualsPinLaw", name := "filled", desc := "(IC)[C" } : Jvm.MethodName) method_7_code (2 : Nat) (Option.some (Jvm.ClassFile.FieldType.array Jvm.ClassFile.FieldType.char))).before a0 Z = true := G.1 _ (List.mem_of_getElem? (i := 19) rfl)
theorem w20 {Z : State} {a0 : Array Value} {zC : Int32} {fS : Value} {e0 : Addr} {e1 : Addr} {e2 : Addr} (G : Gl Z a0 zC fS e0 e1 e2) : (Jvm.Cond.arrayClass Jvm.ClassFile.FieldType.char).before a0 Z = true := G.1 _ (List.mem_of_getElem? (i := 20) rfl)
theorem w21 {Z : State} {a0 : Array Value} {zC : Int32} {fS : Value} {e0 : Addr} {e1 : Addr} {e2 : Addr} (G : Gl Z a0 zC fS e0 e1 e2) : (Jvm.Cond.classLink "com/example/campo_grande/campogrande/PayloadDigestEqualsPinLaw" (29 : Nat) "java/lang/String").before a0 Z = true := G.1 _ (List.mem_of_getElem? (i := 21) rfl)
theorem w22 {Z : State} {a0 : Array Value} {zC : Int32} {fS : Value} {e0 : Addr} {e1 : Addr} {e2 : Addr} (G : Gl Z a0 zC fS e0 e1 e2) : (Jvm.Cond.instantiable "java/lang/String" (4 : Nat)).before a0 Z = true := G.1 _ (List.mem_of_getElem? (i := 22) rfl)
theorem w23 {Z : State} {a0 : Array Value} {zC : Int32} {fS : Value} {e0 : Addr} {e1 : Addr} {e2 : Addr} (G : Gl Z a0 zC fS e0 e1 e2) : (Jvm.Cond.initialized "java/lang/String").before a0 Z = true := G.1 _ (List.mem_of_getElem? (i := 23) rfl)
theorem w24 {Z : State} {a0 : Array Value} {zC : Int32} {fS : Value} {e0 : Addr} {e1 : Addr} {e2 : Addr} (G : Gl Z a0 zC fS e0 e1 e2) : (Jvm.Cond.methodLink "com/example/campo_grande/campogrande/PayloadDigestEqualsPinLaw" (31 : Nat) ({ cls := "java/lang/String", name := "<init>", desc := "([C)V" } : Jvm.MethodName)).before a0 Z = true := G.1 _ (List.mem_of_getElem? (i := 24) rfl)
theorem w25 {Z : State} {a0 : Array Value} {zC : Int32} {fS : Value} {e0 : Addr} {e1 : Addr} {e2 : Addr} (G : Gl Z a0 zC fS e0 e1 e2) : (Jvm.Cond.instanceMethod ({ cls := "java/lang/String", name := "<init>", desc := "([C)V" } : Jvm.MethodName)).before a0 Z = true := G.1 _ (List.mem_of_getElem? (i := 25) rfl)
theorem w26 {Z : State} {a0 : Array Value} {zC : Int32} {fS : Value} {e0 : Addr} {e1 : Addr} {e2 : Addr} (G : Gl Z a0 zC fS e0 e1 e2) : (Jvm.Cond.code ({ cls := "java/lang/String", name := "<init>", desc := "([C)V" } : Jvm.MethodName) jdk_42_method_3_code (2 : Nat) (Option.none : Option Jvm.ClassFile.FieldType)).before a0 Z = true := G.1 _ (List.mem_of_getElem? (i := 26) rfl)
theorem w27 {Z : State} {a0 : Array Value} {zC : Int32} {fS : Value} {e0 : Addr} {e1 : Addr} {e2 : Addr} (G : Gl Z a0 zC fS e0 e1 e2) : (Jvm.Cond.methodLink "java/lang/String" (27 : Nat) ({ cls := "java/lang/String", name := "<init>", desc := "([CIILjava/lang/Void;)V" } : Jvm.MethodName)).before a0 Z = true := G.1 _ (List.mem_of_getElem? (i := 27) rfl)
theorem w28 {Z : State} {a0 : Array Value} {zC : Int32} {fS : Value} {e0 : Addr} {e1 : Addr} {e2 : Addr} (G : Gl Z a0 zC fS e0 e1 e2) : (Jvm.Cond.instanceMethod ({ cls := "java/lang/String", name := "<init>", desc := "([CIILjava/lang/Void;)V" } : Jvm.MethodName)).before a0 Z = true := G.1 _ (List.mem_of_getElem? (i := 28) rfl)
theorem w30 {Z : State} {a0 : Array Value} {zC : Int32} {fS : Value} {e0 : Addr} {e1 : Addr} {e2 : Addr} (G : Gl Z a0 zC fS e0 e1 e2) : (Jvm.Cond.code ({ cls := "java/lang/String", name := "<init>", desc := "([CIILjava/lang/Void;)V" } : Jvm.MethodName) jdk_42_method_149_code (6 : Nat) (Option.none : Option Jvm.ClassFile.FieldType)).before a0 Z = true := G.1 _ (List.mem_of_getElem? (i := 30) rfl)
theorem w31 {Z : State} {a0 : Array Value} {zC : Int32} {fS : Value} {e0 : Addr} {e1 : Addr} {e2 : Addr} (G : Gl Z a0 zC fS e0 e1 e2) : (Jvm.Cond.methodLink "java/lang/String" (1 : Nat) ({ cls := "java/lang/Object", name := "<init>", desc := "()V" } : Jvm.MethodName)).before a0 Z = true := G.1 _ (List.mem_of_getElem? (i := 31) rfl)
theorem w32 {Z : State} {a0 : Array Value} {zC : Int32} {fS : Value} {e0 : Addr} {e1 : Addr} {e2 : Addr} (G : Gl Z a0 zC fS e0 e1 e2) : (Jvm.Cond.instanceMethod ({ cls := "java/lang/Object", name := "<init>", desc := "()V" } : Jvm.MethodName)).before a0 Z = true := G.1 _ (List.mem_of_getElem? (i := 32) rfl)
theorem w33 {Z : State} {a0 : Array Value} {zC : Int32} {fS : Value} {e0 : Addr} {e1 : Addr} {e2 : Addr} (G : Gl Z a0 zC fS e0 e1 e2) : (Jvm.Cond.code ({ cls := "java/lang/Object", name := "<init>", desc := "()V" } : Jvm.MethodName) object_method_1_code (1 : Nat) (Option.none : Option Jvm.ClassFile.FieldType)).before a0 Z = true := G.1 _ (List.mem_of_getElem? (i := 33) rfl)
theorem w34 {Z : State} {a0 : Array Value} {zC : Int32} {fS : Value} {e0 : Addr} {e1 : Addr} {e2 : Addr} (G : Gl Z a0 zC fS e0 e1 e2) : (Jvm.Cond.fieldLink "java/lang/String" (38 : Nat) "java/lang/String" "COMPACT_STRINGS" "Z").before a0 Z = true := G.1 _ (List.mem_of_getElem? (i := 34) rfl)
theorem w35 {Z : State} {a0 : Array Value} {zC : Int32} {fS : Value} {e0 : Addr} {e1 : Addr} {e2 : Addr} (G : Gl Z a0 zC fS e0 e1 e2) : (Jvm.Cond.methodLink "java/lang/String" (177 : Nat) ({ cls := "java/lang/StringUTF16", name := "compress", desc := "([CII)[B" } : Jvm.MethodName)).before a0 Z = true := G.1 _ (List.mem_of_getElem? (i := 35) rfl)
theorem w36 {Z : State} {a0 : Array Value} {zC : Int32} {fS : Value} {e0 : Addr} {e1 : Addr} {e2 : Addr} (G : Gl Z a0 zC fS e0 e1 e2) : (Jvm.Cond.static ({ cls := "java/lang/StringUTF16", name := "compress", desc := "([CII)[B" } : Jvm.MethodName)).before a0 Z = true := G.1 _ (List.mem_of_getElem? (i := 36) rfl)
theorem w37 {Z : State} {a0 : Array Value} {zC : Int32} {fS : Value} {e0 : Addr} {e1 : Addr} {e2 : Addr} (G : Gl Z a0 zC fS e0 e1 e2) : (Jvm.Cond.initialized "java/lang/StringUTF16").before a0 Z = true := G.1 _ (List.mem_of_getElem? (i := 37) rfl)
theorem w38 {Z : State} {a0 : Array Value} {zC : Int32} {fS : Value} {e0 : Addr} {e1 : Addr} {e2 : Addr} (G : Gl Z a0 zC fS e0 e1 e2) : (Jvm.Cond.code ({ cls := "java/lang/StringUTF16", name := "compress", desc := "([CII)[B" } : Jvm.MethodName) jdk_52_method_16_code (6 : Nat) (Option.some (Jvm.ClassFile.FieldType.array Jvm.ClassFile.FieldType.byte))).before a0 Z = true := G.1 _ (List.mem_of_getElem? (i := 38) rfl)
theorem w39 {Z : State} {a0 : Array Value} {zC : Int32} {fS : Value} {e0 : Addr} {e1 : Addr} {e2 : Addr} (G : Gl Z a0 zC fS e0 e1 e2) : (Jvm.Cond.arrayClass Jvm.ClassFile.FieldType.byte).before a0 Z = true := G.1 _ (List.mem_of_getElem? (i := 39) rfl)
theorem w40 {Z : State} {a0 : Array Value} {zC : Int32} {fS : Value} {e0 : Addr} {e1 : Addr} {e2 : Addr} (G : Gl Z a0 zC fS e0 e1 e2) : (Jvm.Cond.methodLink "java/lang/StringUTF16" (115 : Nat) ({ cls := "java/lang/StringUTF16", name := "compress", desc := "([CI[BII)I" } : Jvm.MethodName)).before a0 Z = true := G.1 _ (List.mem_of_getElem? (i := 40) rfl)
theorem w41 {Z : State} {a0 : Array Value} {zC : Int32} {fS : Value} {e0 : Addr} {e1 : Addr} {e2 : Addr} (G : Gl Z a0 zC fS e0 e1 e2) : (Jvm.Cond.static ({ cls := "java/lang/StringUTF16", name := "compress", desc := "([CI[BII)I" } : Jvm.MethodName)).before a0 Z = true := G.1 _ (List.mem_of_getElem? (i := 41) rfl)
theorem w42 {Z : State} {a0 : Array Value} {zC : Int32} {fS : Value} {e0 : Addr} {e1 : Addr} {e2 : Addr} (G : Gl Z a0 zC fS e0 e1 e2) : (Jvm.Cond.code ({ cls := "java/lang/StringUTF16", name := "compress", desc := "([CI[BII)I" } : Jvm.MethodName) jdk_52_method_21_code (7 : Nat) (Option.some Jvm.ClassFile.FieldType.int)).before a0 Z = true := G.1 _ (List.mem_of_getElem? (i := 42) rfl)
theorem w43 {Z : State} {a0 : Array Value} {zC : Int32} {fS : Value} {e0 : Addr} {e1 : Addr} {e2 : Addr} (G : Gl Z a0 zC fS e0 e1 e2) : (Jvm.Cond.methodLink "java/lang/String" (47 : Nat) ({ cls := "java/lang/StringUTF16", name := "coderFromArrayLen", desc := "([BI)B" } : Jvm.MethodName)).before a0 Z = true := G.1 _ (List.mem_of_getElem? (i := 43) rfl)
theorem w44 {Z : State} {a0 : Array Value} {zC : Int32} {fS : Value} {e0 : Addr} {e1 : Addr} {e2 : Addr} (G : Gl Z a0 zC fS e0 e1 e2) : (Jvm.Cond.static ({ cls := "java/lang/StringUTF16", name := "coderFromArrayLen", desc := "([BI)B" } : Jvm.MethodName)).before a0 Z = true := G.1 _ (List.mem_of_getElem? (i := 44) rfl)
theorem w45 {Z : State} {a0 : Array Value} {zC : Int32} {fS : Value} {e0 : Addr} {e1 : Addr} {e2 : Addr} (G : Gl Z a0 zC fS e0 e1 e2) : (Jvm.Cond.code ({ cls := "java/lang/StringUTF16", name := "coderFromArrayLen", desc := "([BI)B" } : Jvm.MethodName) jdk_52_method_15_code (2 : Nat) (Option.some Jvm.ClassFile.FieldType.byte)).before a0 Z = true := G.1 _ (List.mem_of_getElem? (i := 45) rfl)
theorem w46 {Z : State} {a0 : Array Value} {zC : Int32} {fS : Value} {e0 : Addr} {e1 : Addr} {e2 : Addr} (G : Gl Z a0 zC fS e0 e1 e2) : (Jvm.Cond.fieldLink "java/lang/String" (15 : Nat) "java/lang/String" "coder" "B").before a0 Z = true := G.1 _ (List.mem_of_getElem? (i := 46) rfl)
theorem w47 {Z : State} {a0 : Array Value} {zC : Int32} {fS : Value} {e0 : Addr} {e1 : Addr} {e2 : Addr} (G : Gl Z a0 zC fS e0 e1 e2) : (Jvm.Cond.laysFinal "java/lang/String" "java/lang/String" "coder" "B").before a0 Z = true := G.1 _ (List.mem_of_getElem? (i := 47) rfl)
theorem w48 {Z : State} {a0 : Array Value} {zC : Int32} {fS : Value} {e0 : Addr} {e1 : Addr} {e2 : Addr} (G : Gl Z a0 zC fS e0 e1 e2) : (Jvm.Cond.fieldLink "java/lang/String" (9 : Nat) "java/lang/String" "value" "[B").before a0 Z = true := G.1 _ (List.mem_of_getElem? (i := 48) rfl)
theorem w49 {Z : State} {a0 : Array Value} {zC : Int32} {fS : Value} {e0 : Addr} {e1 : Addr} {e2 : Addr} (G : Gl Z a0 zC fS e0 e1 e2) : (Jvm.Cond.laysFinal "java/lang/String" "java/lang/String" "value" "[B").before a0 Z = true := G.1 _ (List.mem_of_getElem? (i := 49) rfl)
theorem w50 {Z : State} {a0 : Array Value} {zC : Int32} {fS : Value} {e0 : Addr} {e1 : Addr} {e2 : Addr} (G : Gl Z a0 zC fS e0 e1 e2) : (Jvm.Cond.classLink "com/example/campo_grande/campogrande/PayloadDigestEqualsPinLaw" (34 : Nat) "com/example/campo_grande/campogrande/PayloadDigest").before a0 Z = true := G.1 _ (List.mem_of_getElem? (i := 50) rfl)
theorem w51 {Z : State} {a0 : Array Value} {zC : Int32} {fS : Value} {e0 : Addr} {e1 : Addr} {e2 : Addr} (G : Gl Z a0 zC fS e0 e1 e2) : (Jvm.Cond.instantiable "com/example/campo_grande/campogrande/PayloadDigest" (2 : Nat)).before a0 Z = true := G.1 _ (List.mem_of_getElem? (i := 51) rfl)
theorem w52 {Z : State} {a0 : Array Value} {zC : Int32} {fS : Value} {e0 : Addr} {e1 : Addr} {e2 : Addr} (G : Gl Z a0 zC fS e0 e1 e2) : (Jvm.Cond.initialized "com/example/campo_grande/campogrande/PayloadDigest").before a0 Z = true := G.1 _ (List.mem_of_getElem? (i := 52) rfl)
theorem w53 {Z : State} {a0 : Array Value} {zC : Int32} {fS : Value} {e0 : Addr} {e1 : Addr} {e2 : Addr} (G : Gl Z a0 zC fS e0 e1 e2) : (Jvm.Cond.methodLink "com/example/campo_grande/campogrande/PayloadDigestEqualsPinLaw" (36 : Nat) ({ cls := "com/example/campo_grande/campogrande/PayloadDigest", name := "<init>", desc := "(Lcom/example/campo_grande/campogrande/SignatureAlgorithm;Ljava/lang/String;)V" } : Jvm.MethodName)).before a0 Z = true := G.1 _ (List.mem_of_getElem? (i := 53) rfl)
theorem w54 {Z : State} {a0 : Array Value} {zC : Int32} {fS : Value} {e0 : Addr} {e1 : Addr} {e2 : Addr} (G : Gl Z a0 zC fS e0 e1 e2) : (Jvm.Cond.instanceMethod ({ cls := "com/example/campo_grande/campogrande/PayloadDigest", name := "<init>", desc := "(Lcom/example/campo_grande/campogrande/SignatureAlgorithm;Ljava/lang/String;)V" } : Jvm.MethodName)).before a0 Z = true := G.1 _ (List.mem_of_getElem? (i := 54) rfl)
theorem w55 {Z : State} {a0 : Array Value} {zC : Int32} {fS : Value} {e0 : Addr} {e1 : Addr} {e2 : Addr} (G : Gl Z a0 zC fS e0 e1 e2) : (Jvm.Cond.code ({ cls := "com/example/campo_grande/campogrande/PayloadDigest", name := "<init>", desc := "(Lcom/example/campo_grande/campogrande/SignatureAlgorithm;Ljava/lang/String;)V" } : Jvm.MethodName) prog_21_method_1_code (3 : Nat) (Option.none : Option Jvm.ClassFile.FieldType)).before a0 Z = true := G.1 _ (List.mem_of_getElem? (i := 55) rfl)
theorem w56 {Z : State} {a0 : Array Value} {zC : Int32} {fS : Value} {e0 : Addr} {e1 : Addr} {e2 : Addr} (G : Gl Z a0 zC fS e0 e1 e2) : (Jvm.Cond.methodLink "com/example/campo_grande/campogrande/PayloadDigest" (1 : Nat) ({ cls := "java/lang/Object", name := "<init>", desc := "()V" } : Jvm.MethodName)).before a0 Z = true := G.1 _ (List.mem_of_getElem? (i := 56) rfl)
theorem w57 {Z : State} {a0 : Array Value} {zC : Int32} {fS : Value} {e0 : Addr} {e1 : Addr} {e2 : Addr} (G : Gl Z a0 zC fS e0 e1 e2) : (Jvm.Cond.methodLink "com/example/campo_grande/campogrande/PayloadDigest" (7 : Nat) ({ cls := "com/example/campo_grande/campogrande/SignatureAlgorithm", name := "isSignature", desc := "(Ljava/lang/String;)Z" } : Jvm.MethodName)).before a0 Z = true := G.1 _ (List.mem_of_getElem? (i := 57) rfl)
theorem w58 {Z : State} {a0 : Array Value} {zC : Int32} {fS : Value} {e0 : Addr} {e1 : Addr} {e2 : Addr} (G : Gl Z a0 zC fS e0 e1 e2) : (Jvm.Cond.declares ({ cls := "com/example/campo_grande/campogrande/SignatureAlgorithm", name := "isSignature", desc := "(Ljava/lang/String;)Z" } : Jvm.MethodName)).before a0 Z = true := G.1 _ (List.mem_of_getElem? (i := 58) rfl)
theorem w59 {Z : State} {a0 : Array Value} {zC : Int32} {fS : Value} {e0 : Addr} {e1 : Addr} {e2 : Addr} (G : Gl Z a0 zC fS e0 e1 e2) : (Jvm.Cond.instanceMethod ({ cls := "com/example/campo_grande/campogrande/SignatureAlgorithm", name := "isSignature", desc := "(Ljava/lang/String;)Z" } : Jvm.MethodName)).before a0 Z = true := G.1 _ (List.mem_of_getElem? (i := 59) rfl)
theorem w60 {Z : State} {a0 : Array Value} {zC : Int32} {fS : Value} {e0 : Addr} {e1 : Addr} {e2 : Addr} (G : Gl Z a0 zC fS e0 e1 e2) : (Jvm.Cond.selects "com/example/campo_grande/campogrande/SignatureAlgorithm" ({ cls := "com/example/campo_grande/campogrande/SignatureAlgorithm", name := "isSignature", desc := "(Ljava/lang/String;)Z" } : Jvm.MethodName) ({ cls := "com/example/campo_grande/campogrande/SignatureAlgorithm", name := "isSignature", desc := "(Ljava/lang/String;)Z" } : Jvm.MethodName)).before a0 Z = true := G.1 _ (List.mem_of_getElem? (i := 60) rfl)
theorem w61 {Z : State} {a0 : Array Value} {zC : Int32} {fS : Value} {e0 : Addr} {e1 : Addr} {e2 : Addr} (G : Gl Z a0 zC fS e0 e1 e2) : (Jvm.Cond.code ({ cls := "com/example/campo_grande/campogrande/SignatureAlgorithm", name := "isSignature", desc := "(Ljava/lang/String;)Z" } : Jvm.MethodName) prog_25_method_6_code (4 : Nat) (Option.some Jvm.ClassFile.FieldType.boolean)).before a0 Z = true := G.1 _ (List.mem_of_getElem? (i := 61) rfl)
theorem w62 {Z : State} {a0 : Array Value} {zC : Int32} {fS : Value} {e0 : Addr} {e1 : Addr} {e2 : Addr} (G : Gl Z a0 zC fS e0 e1 e2) : (Jvm.Cond.methodLink "com/example/campo_grande/campogrande/SignatureAlgorithm" (60 : Nat) ({ cls := "java/lang/String", name := "length", desc := "()I" } : Jvm.MethodName)).before a0 Z = true := G.1 _ (List.mem_of_getElem? (i := 62) rfl)
theorem w63 {Z : State} {a0 : Array Value} {zC : Int32} {fS : Value} {e0 : Addr} {e1 : Addr} {e2 : Addr} (G : Gl Z a0 zC fS e0 e1 e2) : (Jvm.Cond.declares ({ cls := "java/lang/String", name := "length", desc := "()I" } : Jvm.MethodName)).before a0 Z = true := G.1 _ (List.mem_of_getElem? (i := 63) rfl)
theorem w64 {Z : State} {a0 : Array Value} {zC : Int32} {fS : Value} {e0 : Addr} {e1 : Addr} {e2 : Addr} (G : Gl Z a0 zC fS e0 e1 e2) : (Jvm.Cond.instanceMethod ({ cls := "java/lang/String", name := "length", desc := "()I" } : Jvm.MethodName)).before a0 Z = true := G.1 _ (List.mem_of_getElem? (i := 64) rfl)
theorem w65 {Z : State} {a0 : Array Value} {zC : Int32} {fS : Value} {e0 : Addr} {e1 : Addr} {e2 : Addr} (G : Gl Z a0 zC fS e0 e1 e2) : (Jvm.Cond.selects "java/lang/String" ({ cls := "java/lang/String", name := "length", desc := "()I" } : Jvm.MethodName) ({ cls := "java/lang/String", name := "length", desc := "()I" } : Jvm.MethodName)).before a0 Z = true := G.1 _ (List.mem_of_getElem? (i := 65) rfl)
theorem w66 {Z : State} {a0 : Array Value} {zC : Int32} {fS : Value} {e0 : Addr} {e1 : Addr} {e2 : Addr} (G : Gl Z a0 zC fS e0 e1 e2) : (Jvm.Cond.code ({ cls := "java/lang/String", name := "length", desc := "()I" } : Jvm.MethodName) jdk_42_method_54_code (1 : Nat) (Option.some Jvm.ClassFile.FieldType.int)).before a0 Z = true := G.1 _ (List.mem_of_getElem? (i := 66) rfl)
theorem w67 {Z : State} {a0 : Array Value} {zC : Int32} {fS : Value} {e0 : Addr} {e1 : Addr} {e2 : Addr} (G : Gl Z a0 zC fS e0 e1 e2) : (Jvm.Cond.methodLink "java/lang/String" (335 : Nat) ({ cls := "java/lang/String", name := "coder", desc := "()B" } : Jvm.MethodName)).before a0 Z = true := G.1 _ (List.mem_of_getElem? (i := 67) rfl)
theorem w68 {Z : State} {a0 : Array Value} {zC : Int32} {fS : Value} {e0 : Addr} {e1 : Addr} {e2 : Addr} (G : Gl Z a0 zC fS e0 e1 e2) : (Jvm.Cond.declares ({ cls := "java/lang/String", name := "coder", desc := "()B" } : Jvm.MethodName)).before a0 Z = true := G.1 _ (List.mem_of_getElem? (i := 68) rfl)
theorem w69 {Z : State} {a0 : Array Value} {zC : Int32} {fS : Value} {e0 : Addr} {e1 : Addr} {e2 : Addr} (G : Gl Z a0 zC fS e0 e1 e2) : (Jvm.Cond.instanceMethod ({ cls := "java/lang/String", name := "coder", desc := "()B" } : Jvm.MethodName)).before a0 Z = true := G.1 _ (List.mem_of_getElem? (i := 69) rfl)
theorem w70 {Z : State} {a0 : Array Value} {zC : Int32} {fS : Value} {e0 : Addr} {e1 : Addr} {e2 : Addr} (G : Gl Z a0 zC fS e0 e1 e2) : (Jvm.Cond.selects "java/lang/String" ({ cls := "java/lang/String", name := "coder", desc := "()B" } : Jvm.MethodName) ({ cls := "java/lang/String", name := "coder", desc := "()B" } : Jvm.MethodName)).before a0 Z = true := G.1 _ (List.mem_of_getElem? (i := 70) rfl)
theorem w71 {Z : State} {a0 : Array Value} {zC : Int32} {fS : Value} {e0 : Addr} {e1 : Addr} {e2 : Addr} (G : Gl Z a0 zC fS e0 e1 e2) : (Jvm.Cond.code ({ cls := "java/lang/String", name := "coder", desc := "()B" } : Jvm.MethodName) jdk_42_method_152_code (1 : Nat) (Option.some Jvm.ClassFile.FieldType.byte)).before a0 Z = true := G.1 _ (List.mem_of_getElem? (i := 71) rfl)
theorem w72 {Z : State} {a0 : Array Value} {zC : Int32} {fS : Value} {e0 : Addr} {e1 : Addr} {e2 : Addr} (G : Gl Z a0 zC fS e0 e1 e2) : (Jvm.Cond.fieldLink "com/example/campo_grande/campogrande/SignatureAlgorithm" (39 : Nat) "com/example/campo_grande/campogrande/SignatureAlgorithm" "digestLength" "I").before a0 Z = true := G.1 _ (List.mem_of_getElem? (i := 72) rfl)
theorem w74 {Z : State} {a0 : Array Value} {zC : Int32} {fS : Value} {e0 : Addr} {e1 : Addr} {e2 : Addr} (G : Gl Z a0 zC fS e0 e1 e2) : (Jvm.Cond.methodLink "com/example/campo_grande/campogrande/SignatureAlgorithm" (64 : Nat) ({ cls := "java/lang/String", name := "charAt", desc := "(I)C" } : Jvm.MethodName)).before a0 Z = true := G.1 _ (List.mem_of_getElem? (i := 74) rfl)
theorem w75 {Z : State} {a0 : Array Value} {zC : Int32} {fS : Value} {e0 : Addr} {e1 : Addr} {e2 : Addr} (G : Gl Z a0 zC fS e0 e1 e2) : (Jvm.Cond.declares ({ cls := "java/lang/String", name := "charAt", desc := "(I)C" } : Jvm.MethodName)).before a0 Z = true := G.1 _ (List.mem_of_getElem? (i := 75) rfl)
theorem w76 {Z : State} {a0 : Array Value} {zC : Int32} {fS : Value} {e0 : Addr} {e1 : Addr} {e2 : Addr} (G : Gl Z a0 zC fS e0 e1 e2) : (Jvm.Cond.instanceMethod ({ cls := "java/lang/String", name := "charAt", desc := "(I)C" } : Jvm.MethodName)).before a0 Z = true := G.1 _ (List.mem_of_getElem? (i := 76) rfl)
theorem w77 {Z : State} {a0 : Array Value} {zC : Int32} {fS : Value} {e0 : Addr} {e1 : Addr} {e2 : Addr} (G : Gl Z a0 zC fS e0 e1 e2) : (Jvm.Cond.selects "java/lang/String" ({ cls := "java/lang/String", name := "charAt", desc := "(I)C" } : Jvm.MethodName) ({ cls := "java/lang/String", name := "charAt", desc := "(I)C" } : Jvm.MethodName)).before a0 Z = true := G.1 _ (List.mem_of_getElem? (i := 77) rfl)
theorem w78 {Z : State} {a0 : Array Value} {zC : Int32} {fS : Value} {e0 : Addr} {e1 : Addr} {e2 : Addr} (G : Gl Z a0 zC fS e0 e1 e2) : (Jvm.Cond.code ({ cls := "java/lang/String", name := "charAt", desc := "(I)C" } : Jvm.MethodName) jdk_42_method_56_code (2 : Nat) (Option.some Jvm.ClassFile.FieldType.char)).before a0 Z = true := G.1 _ (List.mem_of_getElem? (i := 78) rfl)
theorem w79 {Z : State} {a0 : Array Value} {zC : Int32} {fS : Value} {e0 : Addr} {e1 : Addr} {e2 : Addr} (G : Gl Z a0 zC fS e0 e1 e2) : (Jvm.Cond.methodLink "java/lang/String" (492 : Nat) ({ cls := "java/lang/String", name := "isLatin1", desc := "()Z" } : Jvm.MethodName)).before a0 Z = true := G.1 _ (List.mem_of_getElem? (i := 79) rfl)
theorem w80 {Z : State} {a0 : Array Value} {zC : Int32} {fS : Value} {e0 : Addr} {e1 : Addr} {e2 : Addr} (G : Gl Z a0 zC fS e0 e1 e2) : (Jvm.Cond.declares ({ cls := "java/lang/String", name := "isLatin1", desc := "()Z" } : Jvm.MethodName)).before a0 Z = true := G.1 _ (List.mem_of_getElem? (i := 80) rfl)
theorem w81 {Z : State} {a0 : Array Value} {zC : Int32} {fS : Value} {e0 : Addr} {e1 : Addr} {e2 : Addr} (G : Gl Z a0 zC fS e0 e1 e2) : (Jvm.Cond.instanceMethod ({ cls := "java/lang/String", name := "isLatin1", desc := "()Z" } : Jvm.MethodName)).before a0 Z = true := G.1 _ (List.mem_of_getElem? (i := 81) rfl)
theorem w82 {Z : State} {a0 : Array Value} {zC : Int32} {fS : Value} {e0 : Addr} {e1 : Addr} {e2 : Addr} (G : Gl Z a0 zC fS e0 e1 e2) : (Jvm.Cond.selects "java/lang/String" ({ cls := "java/lang/String", name := "isLatin1", desc := "()Z" } : Jvm.MethodName) ({ cls := "java/lang/String", name := "isLatin1", desc := "()Z" } : Jvm.MethodName)).before a0 Z = true := G.1 _ (List.mem_of_getElem? (i := 82) rfl)
theorem w83 {Z : State} {a0 : Array Value} {zC : Int32} {fS : Value} {e0 : Addr} {e1 : Addr} {e2 : Addr} (G : Gl Z a0 zC fS e0 e1 e2) : (Jvm.Cond.code ({ cls := "java/lang/String", name := "isLatin1", desc := "()Z" } : Jvm.MethodName) jdk_42_method_154_code (1 : Nat) (Option.some Jvm.ClassFile.FieldType.boolean)).before a0 Z = true := G.1 _ (List.mem_of_getElem? (i := 83) rfl)
theorem w84 {Z : State} {a0 : Array Value} {zC : Int32} {fS : Value} {e0 : Addr} {e1 : Addr} {e2 : Addr} (G : Gl Z a0 zC fS e0 e1 e2) : (Jvm.Cond.methodLink "java/lang/String" (495 : Nat) ({ cls := "java/lang/StringLatin1", name := "charAt", desc := "([BI)C" } : Jvm.MethodName)).before a0 Z = true := G.1 _ (List.mem_of_getElem? (i := 84) rfl)
theorem w85 {Z : State} {a0 : Array Value} {zC : Int32} {fS : Value} {e0 : Addr} {e1 : Addr} {e2 : Addr} (G : Gl Z a0 zC fS e0 e1 e2) : (Jvm.Cond.static ({ cls := "java/lang/StringLatin1", name := "charAt", desc := "([BI)C" } : Jvm.MethodName)).before a0 Z = true := G.1 _ (List.mem_of_getElem? (i := 85) rfl)
theorem w86 {Z : State} {a0 : Array Value} {zC : Int32} {fS : Value} {e0 : Addr} {e1 : Addr} {e2 : Addr} (G : Gl Z a0 zC fS e0 e1 e2) : (Jvm.Cond.initialized "java/lang/StringLatin1").before a0 Z = true := G.1 _ (List.mem_of_getElem? (i := 86) rfl)
theorem w87 {Z : State} {a0 : Array Value} {zC : Int32} {fS : Value} {e0 : Addr} {e1 : Addr} {e2 : Addr} (G : Gl Z a0 zC fS e0 e1 e2) : (Jvm.Cond.code ({ cls := "java/lang/StringLatin1", name := "charAt", desc := "([BI)C" } : Jvm.MethodName) jdk_43_method_2_code (2 : Nat) (Option.some Jvm.ClassFile.FieldType.char)).before a0 Z = true := G.1 _ (List.mem_of_getElem? (i := 87) rfl)
theorem w88 {Z : State} {a0 : Array Value} {zC : Int32} {fS : Value} {e0 : Addr} {e1 : Addr} {e2 : Addr} (G : Gl Z a0 zC fS e0 e1 e2) : (Jvm.Cond.methodLink "java/lang/StringLatin1" (9 : Nat) ({ cls := "java/lang/String", name := "checkIndex", desc := "(II)V" } : Jvm.MethodName)).before a0 Z = true := G.1 _ (List.mem_of_getElem? (i := 88) rfl)
theorem w89 {Z : State} {a0 : Array Value} {zC : Int32} {fS : Value} {e0 : Addr} {e1 : Addr} {e2 : Addr} (G : Gl Z a0 zC fS e0 e1 e2) : (Jvm.Cond.static ({ cls := "java/lang/String", name := "checkIndex", desc := "(II)V" } : Jvm.MethodName)).before a0 Z = true := G.1 _ (List.mem_of_getElem? (i := 89) rfl)
theorem w90 {Z : State} {a0 : Array Value} {zC : Int32} {fS : Value} {e0 : Addr} {e1 : Addr} {e2 : Addr} (G : Gl Z a0 zC fS e0 e1 e2) : (Jvm.Cond.code ({ cls := "java/lang/String", name := "checkIndex", desc := "(II)V" } : Jvm.MethodName) jdk_42_method_155_code (2 : Nat) (Option.none : Option Jvm.ClassFile.FieldType)).before a0 Z = true := G.1 _ (List.mem_of_getElem? (i := 90) rfl)
theorem w91 {Z : State} {a0 : Array Value} {zC : Int32} {fS : Value} {e0 : Addr} {e1 : Addr} {e2 : Addr} (G : Gl Z a0 zC fS e0 e1 e2) : (Jvm.Cond.fieldLink "java/lang/String" (1053 : Nat) "jdk/internal/util/Preconditions" "SIOOBE_FORMATTER" "Ljava/util/function/BiFunction;").before a0 Z = true := G.1 _ (List.mem_of_getElem? (i := 91) rfl)
theorem w92 {Z : State} {a0 : Array Value} {zC : Int32} {fS : Value} {e0 : Addr} {e1 : Addr} {e2 : Addr} (G : Gl Z a0 zC fS e0 e1 e2) : (Jvm.Cond.initialized "jdk/internal/util/Preconditions").before a0 Z = true := G.1 _ (List.mem_of_getElem? (i := 92) rfl)
theorem w93 {Z : State} {a0 : Array Value} {zC : Int32} {fS : Value} {e0 : Addr} {e1 : Addr} {e2 : Addr} (G : Gl Z a0 zC fS e0 e1 e2) : (Jvm.Cond.methodLink "java/lang/String" (1059 : Nat) ({ cls := "jdk/internal/util/Preconditions", name := "checkIndex", desc := "(IILjava/util/function/BiFunction;)I" } : Jvm.MethodName)).before a0 Z = true := G.1 _ (List.mem_of_getElem? (i := 93) rfl)
theorem w94 {Z : State} {a0 : Array Value} {zC : Int32} {fS : Value} {e0 : Addr} {e1 : Addr} {e2 : Addr} (G : Gl Z a0 zC fS e0 e1 e2) : (Jvm.Cond.static ({ cls := "jdk/internal/util/Preconditions", name := "checkIndex", desc := "(IILjava/util/function/BiFunction;)I" } : Jvm.MethodName)).before a0 Z = true := G.1 _ (List.mem_of_getElem? (i := 94) rfl)
theorem w95 {Z : State} {a0 : Array Value} {zC : Int32} {fS : Value} {e0 : Addr} {e1 : Addr} {e2 : Addr} (G : Gl Z a0 zC fS e0 e1 e2) : (Jvm.Cond.code ({ cls := "jdk/internal/util/Preconditions", name := "checkIndex", desc := "(IILjava/util/function/BiFunction;)I" } : Jvm.MethodName) jdk_41_method_11_code (3 : Nat) (Option.some Jvm.ClassFile.FieldType.int)).before a0 Z = true := G.1 _ (List.mem_of_getElem? (i := 95) rfl)
theorem w96 {Z : State} {a0 : Array Value} {zC : Int32} {fS : Value} {e0 : Addr} {e1 : Addr} {e2 : Addr} (G : Gl Z a0 zC fS e0 e1 e2) : (Jvm.Cond.fieldLink "com/example/campo_grande/campogrande/PayloadDigest" (28 : Nat) "com/example/campo_grande/campogrande/PayloadDigest" "algorithm" "Lcom/example/campo_grande/campogrande/SignatureAlgorithm;").before a0 Z = true := G.1 _ (List.mem_of_getElem? (i := 96) rfl)
theorem w97 {Z : State} {a0 : Array Value} {zC : Int32} {fS : Value} {e0 : Addr} {e1 : Addr} {e2 : Addr} (G : Gl Z a0 zC fS e0 e1 e2) : (Jvm.Cond.laysFinal "com/example/campo_grande/campogrande/PayloadDigest" "com/example/campo_grande/campogrande/PayloadDigest" "algorithm" "Lcom/example/campo_grande/campogrande/SignatureAlgorithm;").before a0 Z = true := G.1 _ (List.mem_of_getElem? (i := 97) rfl)
theorem w98 {Z : State} {a0 : Array Value} {zC : Int32} {fS : Value} {e0 : Addr} {e1 : Addr} {e2 : Addr} (G : Gl Z a0 zC fS e0 e1 e2) : (Jvm.Cond.fieldLink "com/example/campo_grande/campogrande/PayloadDigest" (34 : Nat) "com/example/campo_grande/campogrande/PayloadDigest" "signature" "Ljava/lang/String;").before a0 Z = true := G.1 _ (List.mem_of_getElem? (i := 98) rfl)
theorem w99 {Z : State} {a0 : Array Value} {zC : Int32} {fS : Value} {e0 : Addr} {e1 : Addr} {e2 : Addr} (G : Gl Z a0 zC fS e0 e1 e2) : (Jvm.Cond.laysFinal "com/example/campo_grande/campogrande/PayloadDigest" "com/example/campo_grande/campogrande/PayloadDigest" "signature" "Ljava/lang/String;").before a0 Z = true := G.1 _ (List.mem_of_getElem? (i := 99) rfl)
theorem w100 {Z : State} {a0 : Array Value} {zC : Int32} {fS : Value} {e0 : Addr} {e1 : Addr} {e2 : Addr} (G : Gl Z a0 zC fS e0 e1 e2) : (Jvm.Cond.classLink "com/example/campo_grande/campogrande/PayloadDigestEqualsPinLaw" (39 : Nat) "com/example/campo_grande/campogrande/ContentKey").before a0 Z = true := G.1 _ (List.mem_of_getElem? (i := 100) rfl)
theorem w101 {Z : State} {a0 : Array Value} {zC : Int32} {fS : Value} {e0 : Addr} {e1 : Addr} {e2 : Addr} (G : Gl Z a0 zC fS e0 e1 e2) : (Jvm.Cond.instantiable "com/example/campo_grande/campogrande/ContentKey" (4 : Nat)).before a0 Z = true := G.1 _ (List.mem_of_getElem? (i := 101) rfl)
theorem w102 {Z : State} {a0 : Array Value} {zC : Int32} {fS : Value} {e0 : Addr} {e1 : Addr} {e2 : Addr} (G : Gl Z a0 zC fS e0 e1 e2) : (Jvm.Cond.initialized "com/example/campo_grande/campogrande/ContentKey").before a0 Z = true := G.1 _ (List.mem_of_getElem? (i := 102) rfl)
theorem w103 {Z : State} {a0 : Array Value} {zC : Int32} {fS : Value} {e0 : Addr} {e1 : Addr} {e2 : Addr} (G : Gl Z a0 zC fS e0 e1 e2) : (Jvm.Cond.methodLink "com/example/campo_grande/campogrande/PayloadDigestEqualsPinLaw" (41 : Nat) ({ cls := "com/example/campo_grande/campogrande/ContentKey", name := "<init>", desc := "(ILcom/example/campo_grande/campogrande/SignatureAlgorithm;Ljava/lang/String;I)V" } : Jvm.MethodName)).before a0 Z = true := G.1 _ (List.mem_of_getElem? (i := 103) rfl)
theorem w104 {Z : State} {a0 : Array Value} {zC : Int32} {fS : Value} {e0 : Addr} {e1 : Addr} {e2 : Addr} (G : Gl Z a0 zC fS e0 e1 e2) : (Jvm.Cond.instanceMethod ({ cls := "com/example/campo_grande/campogrande/ContentKey", name := "<init>", desc := "(ILcom/example/campo_grande/campogrande/SignatureAlgorithm;Ljava/lang/String;I)V" } : Jvm.MethodName)).before a0 Z = true := G.1 _ (List.mem_of_getElem? (i := 104) rfl)
theorem w105 {Z : State} {a0 : Array Value} {zC : Int32} {fS : Value} {e0 : Addr} {e1 : Addr} {e2 : Addr} (G : Gl Z a0 zC fS e0 e1 e2) : (Jvm.Cond.code ({ cls := "com/example/campo_grande/campogrande/ContentKey", name := "<init>", desc := "(ILcom/example/campo_grande/campogrande/SignatureAlgorithm;Ljava/lang/String;I)V" } : Jvm.MethodName) prog_13_method_1_code (5 : Nat) (Option.none : Option Jvm.ClassFile.FieldType)).before a0 Z = true := G.1 _ (List.mem_of_getElem? (i := 105) rfl)
theorem w106 {Z : State} {a0 : Array Value} {zC : Int32} {fS : Value} {e0 : Addr} {e1 : Addr} {e2 : Addr} (G : Gl Z a0 zC fS e0 e1 e2) : (Jvm.Cond.methodLink "com/example/campo_grande/campogrande/ContentKey" (1 : Nat) ({ cls := "java/lang/Object", name := "<init>", desc := "()V" } : Jvm.MethodName)).before a0 Z = true := G.1 _ (List.mem_of_getElem? (i := 106) rfl)
theorem w107 {Z : State} {a0 : Array Value} {zC : Int32} {fS : Value} {e0 : Addr} {e1 : Addr} {e2 : Addr} (G : Gl Z a0 zC fS e0 e1 e2) : (Jvm.Cond.stringLink "com/example/campo_grande/campogrande/ContentKey" (7 : Nat) "algorithm").before a0 Z = true := G.1 _ (List.mem_of_getElem? (i := 107) rfl)
theorem w108 {Z : State} {a0 : Array Value} {zC : Int32} {fS : Value} {e0 : Addr} {e1 : Addr} {e2 : Addr} (G : Gl Z a0 zC fS e0 e1 e2) : (Jvm.Cond.soleField "java/lang/String" "value").before a0 Z = true := G.1 _ (List.mem_of_getElem? (i := 108) rfl)
theorem w109 {Z : State} {a0 : Array Value} {zC : Int32} {fS : Value} {e0 : Addr} {e1 : Addr} {e2 : Addr} (G : Gl Z a0 zC fS e0 e1 e2) : (Jvm.Cond.soleField "java/lang/String" "coder").before a0 Z = true := G.1 _ (List.mem_of_getElem? (i := 109) rfl)
theorem w110 {Z : State} {a0 : Array Value} {zC : Int32} {fS : Value} {e0 : Addr} {e1 : Addr} {e2 : Addr} (G : Gl Z a0 zC fS e0 e1 e2) : (Jvm.Cond.methodLink "com/example/campo_grande/campogrande/ContentKey" (9 : Nat) ({ cls := "java/util/Objects", name := "requireNonNull", desc := "(Ljava/lang/Object;Ljava/lang/String;)Ljava/lang/Object;" } : Jvm.MethodName)).before a0 Z = true := G.1 _ (List.mem_of_getElem? (i := 110) rfl)
theorem w111 {Z : State} {a0 : Array Value} {zC : Int32} {fS : Value} {e0 : Addr} {e1 : Addr} {e2 : Addr} (G : Gl Z a0 zC fS e0 e1 e2) : (Jvm.Cond.static ({ cls := "java/util/Objects", name := "requireNonNull", desc := "(Ljava/lang/Object;Ljava/lang/String;)Ljava/lang/Object;" } : Jvm.MethodName)).before a0 Z = true := G.1 _ (List.mem_of_getElem? (i := 111) rfl)
theorem w112 {Z : State} {a0 : Array Value} {zC : Int32} {fS : Value} {e0 : Addr} {e1 : Addr} {e2 : Addr} (G : Gl Z a0 zC fS e0 e1 e2) : (Jvm.Cond.initialized "java/util/Objects").before a0 Z = true := G.1 _ (List.mem_of_getElem? (i := 112) rfl)
theorem w113 {Z : State} {a0 : Array Value} {zC : Int32} {fS : Value} {e0 : Addr} {e1 : Addr} {e2 : Addr} (G : Gl Z a0 zC fS e0 e1 e2) : (Jvm.Cond.code ({ cls := "java/util/Objects", name := "requireNonNull", desc := "(Ljava/lang/Object;Ljava/lang/String;)Ljava/lang/Object;" } : Jvm.MethodName) jdk_31_method_11_code (2 : Nat) (Option.some (Jvm.ClassFile.FieldType.object "java/lang/Object"))).before a0 Z = true := G.1 _ (List.mem_of_getElem? (i := 113) rfl)
theorem w114 {Z : State} {a0 : Array Value} {zC : Int32} {fS : Value} {e0 : Addr} {e1 : Addr} {e2 : Addr} (G : Gl Z a0 zC fS e0 e1 e2) : (Jvm.Cond.stringLink "com/example/campo_grande/campogrande/ContentKey" (15 : Nat) "signature").before a0 Z = true := G.1 _ (List.mem_of_getElem? (i := 114) rfl)
theorem w115 {Z : State} {a0 : Array Value} {zC : Int32} {fS : Value} {e0 : Addr} {e1 : Addr} {e2 : Addr} (G : Gl Z a0 zC fS e0 e1 e2) : (Jvm.Cond.methodLink "com/example/campo_grande/campogrande/ContentKey" (25 : Nat) ({ cls := "com/example/campo_grande/campogrande/SignatureAlgorithm", name := "isSignature", desc := "(Ljava/lang/String;)Z" } : Jvm.MethodName)).before a0 Z = true := G.1 _ (List.mem_of_getElem? (i := 115) rfl)
theorem w116 {Z : State} {a0 : Array Value} {zC : Int32} {fS : Value} {e0 : Addr} {e1 : Addr} {e2 : Addr} (G : Gl Z a0 zC fS e0 e1 e2) : (Jvm.Cond.fieldLink "com/example/campo_grande/campogrande/ContentKey" (47 : Nat) "com/example/campo_grande/campogrande/ContentKey" "volume" "I").before a0 Z = true := G.1 _ (List.mem_of_getElem? (i := 116) rfl)
theorem w117 {Z : State} {a0 : Array Value} {zC : Int32} {fS : Value} {e0 : Addr} {e1 : Addr} {e2 : Addr} (G : Gl Z a0 zC fS e0 e1 e2) : (Jvm.Cond.laysFinal "com/example/campo_grande/campogrande/ContentKey" "com/example/campo_grande/campogrande/ContentKey" "volume" "I").before a0 Z = true := G.1 _ (List.mem_of_getElem? (i := 117) rfl)
theorem w118 {Z : State} {a0 : Array Value} {zC : Int32} {fS : Value} {e0 : Addr} {e1 : Addr} {e2 : Addr} (G : Gl Z a0 zC fS e0 e1 e2) : (Jvm.Cond.fieldLink "com/example/campo_grande/campogrande/ContentKey" (51 : Nat) "com/example/campo_grande/campogrande/ContentKey" "algorithm" "Lcom/example/campo_grande/campogrande/SignatureAlgorithm;").before a0 Z = true := G.1 _ (List.mem_of_getElem? (i := 118) rfl)
theorem w119 {Z : State} {a0 : Array Value} {zC : Int32} {fS : Value} {e0 : Addr} {e1 : Addr} {e2 : Addr} (G : Gl Z a0 zC fS e0 e1 e2) : (Jvm.Cond.laysFinal "com/example/campo_grande/campogrande/ContentKey" "com/example/campo_grande/campogrande/ContentKey" "algorithm" "Lcom/example/campo_grande/campogrande/SignatureAlgorithm;").before a0 Z = true := G.1 _ (List.mem_of_getElem? (i := 119) rfl)
theorem w120 {Z : State} {a0 : Array Value} {zC : Int32} {fS : Value} {e0 : Addr} {e1 : Addr} {e2 : Addr} (G : Gl Z a0 zC fS e0 e1 e2) : (Jvm.Cond.fieldLink "com/example/campo_grande/campogrande/ContentKey" (54 : Nat) "com/example/campo_grande/campogrande/ContentKey" "signature" "Ljava/lang/String;").before a0 Z = true := G.1 _ (List.mem_of_getElem? (i := 120) rfl)
theorem w121 {Z : State} {a0 : Array Value} {zC : Int32} {fS : Value} {e0 : Addr} {e1 : Addr} {e2 : Addr} (G : Gl Z a0 zC fS e0 e1 e2) : (Jvm.Cond.laysFinal "com/example/campo_grande/campogrande/ContentKey" "com/example/campo_grande/campogrande/ContentKey" "signature" "Ljava/lang/String;").before a0 Z = true := G.1 _ (List.mem_of_getElem? (i := 121) rfl)
theorem w122 {Z : State} {a0 : Array Value} {zC : Int32} {fS : Value} {e0 : Addr} {e1 : Addr} {e2 : Addr} (G : Gl Z a0 zC fS e0 e1 e2) : (Jvm.Cond.fieldLink "com/example/campo_grande/campogrande/ContentKey" (57 : Nat) "com/example/campo_grande/campogrande/ContentKey" "overflow" "I").before a0 Z = true := G.1 _ (List.mem_of_getElem? (i := 122) rfl)
theorem w123 {Z : State} {a0 : Array Value} {zC : Int32} {fS : Value} {e0 : Addr} {e1 : Addr} {e2 : Addr} (G : Gl Z a0 zC fS e0 e1 e2) : (Jvm.Cond.laysFinal "com/example/campo_grande/campogrande/ContentKey" "com/example/campo_grande/campogrande/ContentKey" "overflow" "I").before a0 Z = true := G.1 _ (List.mem_of_getElem? (i := 123) rfl)
theorem w124 {Z : State} {a0 : Array Value} {zC : Int32} {fS : Value} {e0 : Addr} {e1 : Addr} {e2 : Addr} (G : Gl Z a0 zC fS e0 e1 e2) : (Jvm.Cond.methodLink "com/example/campo_grande/campogrande/PayloadDigestEqualsPinLaw" (44 : Nat) ({ cls := "com/example/campo_grande/campogrande/PayloadDigest", name := "equals", desc := "(Ljava/lang/Object;)Z" } : Jvm.MethodName)).before a0 Z = true := G.1 _ (List.mem_of_getElem? (i := 124) rfl)
theorem w125 {Z : State} {a0 : Array Value} {zC : Int32} {fS : Value} {e0 : Addr} {e1 : Addr} {e2 : Addr} (G : Gl Z a0 zC fS e0 e1 e2) : (Jvm.Cond.declares ({ cls := "com/example/campo_grande/campogrande/PayloadDigest", name := "equals", desc := "(Ljava/lang/Object;)Z" } : Jvm.MethodName)).before a0 Z = true := G.1 _ (List.mem_of_getElem? (i := 125) rfl)
theorem w126 {Z : State} {a0 : Array Value} {zC : Int32} {fS : Value} {e0 : Addr} {e1 : Addr} {e2 : Addr} (G : Gl Z a0 zC fS e0 e1 e2) : (Jvm.Cond.instanceMethod ({ cls := "com/example/campo_grande/campogrande/PayloadDigest", name := "equals", desc := "(Ljava/lang/Object;)Z" } : Jvm.MethodName)).before a0 Z = true := G.1 _ (List.mem_of_getElem? (i := 126) rfl)
theorem w127 {Z : State} {a0 : Array Value} {zC : Int32} {fS : Value} {e0 : Addr} {e1 : Addr} {e2 : Addr} (G : Gl Z a0 zC fS e0 e1 e2) : (Jvm.Cond.selects "com/example/campo_grande/campogrande/PayloadDigest" ({ cls := "com/example/campo_grande/campogrande/PayloadDigest", name := "equals", desc := "(Ljava/lang/Object;)Z" } : Jvm.MethodName) ({ cls := "com/example/campo_grande/campogrande/PayloadDigest", name := "equals", desc := "(Ljava/lang/Object;)Z" } : Jvm.MethodName)).before a0 Z = true := G.1 _ (List.mem_of_getElem? (i := 127) rfl)
theorem w128 {Z : State} {a0 : Array Value} {zC : Int32} {fS : Value} {e0 : Addr} {e1 : Addr} {e2 : Addr} (G : Gl Z a0 zC fS e0 e1 e2) : (Jvm.Cond.code ({ cls := "com/example/campo_grande/campogrande/PayloadDigest", name := "equals", desc := "(Ljava/lang/Object;)Z" } : Jvm.MethodName) prog_21_method_5_code (3 : Nat) (Option.some Jvm.ClassFile.FieldType.boolean)).before a0 Z = true := G.1 _ (List.mem_of_getElem? (i := 128) rfl)
theorem w129 {Z : State} {a0 : Array Value} {zC : Int32} {fS : Value} {e0 : Addr} {e1 : Addr} {e2 : Addr} (G : Gl Z a0 zC fS e0 e1 e2) : (Jvm.Cond.classLink "com/example/campo_grande/campogrande/PayloadDigest" (29 : Nat) "com/example/campo_grande/campogrande/PayloadDigest").before a0 Z = true := G.1 _ (List.mem_of_getElem? (i := 129) rfl)
theorem w131 {Z : State} {a0 : Array Value} {zC : Int32} {fS : Value} {e0 : Addr} {e1 : Addr} {e2 : Addr} (G : Gl Z a0 zC fS e0 e1 e2) : (Jvm.Cond.methodLink "com/example/campo_grande/campogrande/PayloadDigest" (107 : Nat) ({ cls := "java/lang/String", name := "equals", desc := "(Ljava/lang/Object;)Z" } : Jvm.MethodName)).before a0 Z = true := G.1 _ (List.mem_of_getElem? (i := 131) rfl)
theorem w132 {Z : State} {a0 : Array Value} {zC : Int32} {fS : Value} {e0 : Addr} {e1 : Addr} {e2 : Addr} (G : Gl Z a0 zC fS e0 e1 e2) : (Jvm.Cond.declares ({ cls := "java/lang/String", name := "equals", desc := "(Ljava/lang/Object;)Z" } : Jvm.MethodName)).before a0 Z = true := G.1 _ (List.mem_of_getElem? (i := 132) rfl)
theorem w133 {Z : State} {a0 : Array Value} {zC : Int32} {fS : Value} {e0 : Addr} {e1 : Addr} {e2 : Addr} (G : Gl Z a0 zC fS e0 e1 e2) : (Jvm.Cond.instanceMethod ({ cls := "java/lang/String", name := "equals", desc := "(Ljava/lang/Object;)Z" } : Jvm.MethodName)).before a0 Z = true := G.1 _ (List.mem_of_getElem? (i := 133) rfl)
theorem w134 {Z : State} {a0 : Array Value} {zC : Int32} {fS : Value} {e0 : Addr} {e1 : Addr} {e2 : Addr} (G : Gl Z a0 zC fS e0 e1 e2) : (Jvm.Cond.selects "java/lang/String" ({ cls := "java/lang/String", name := "equals", desc := "(Ljava/lang/Object;)Z" } : Jvm.MethodName) ({ cls := "java/lang/String", name := "equals", desc := "(Ljava/lang/Object;)Z" } : Jvm.MethodName)).before a0 Z = true := G.1 _ (List.mem_of_getElem? (i := 134) rfl)
theorem w135 {Z : State} {a0 : Array Value} {zC : Int32} {fS : Value} {e0 : Addr} {e1 : Addr} {e2 : Addr} (G : Gl Z a0 zC fS e0 e1 e2) : (Jvm.Cond.code ({ cls := "java/lang/String", name := "equals", desc := "(Ljava/lang/Object;)Z" } : Jvm.MethodName) jdk_42_method_66_code (3 : Nat) (Option.some Jvm.ClassFile.FieldType.boolean)).before a0 Z = true := G.1 _ (List.mem_of_getElem? (i := 135) rfl)
theorem w136 {Z : State} {a0 : Array Value} {zC : Int32} {fS : Value} {e0 : Addr} {e1 : Addr} {e2 : Addr} (G : Gl Z a0 zC fS e0 e1 e2) : (Jvm.Cond.classLink "java/lang/String" (10 : Nat) "java/lang/String").before a0 Z = true := G.1 _ (List.mem_of_getElem? (i := 136) rfl)
theorem w137 {Z : State} {a0 : Array Value} {zC : Int32} {fS : Value} {e0 : Addr} {e1 : Addr} {e2 : Addr} (G : Gl Z a0 zC fS e0 e1 e2) : (Jvm.Cond.methodLink "java/lang/String" (541 : Nat) ({ cls := "java/lang/StringLatin1", name := "equals", desc := "([B[B)Z" } : Jvm.MethodName)).before a0 Z = true := G.1 _ (List.mem_of_getElem? (i := 137) rfl)
theorem w138 {Z : State} {a0 : Array Value} {zC : Int32} {fS : Value} {e0 : Addr} {e1 : Addr} {e2 : Addr} (G : Gl Z a0 zC fS e0 e1 e2) : (Jvm.Cond.static ({ cls := "java/lang/StringLatin1", name := "equals", desc := "([B[B)Z" } : Jvm.MethodName)).before a0 Z = true := G.1 _ (List.mem_of_getElem? (i := 138) rfl)
theorem w139 {Z : State} {a0 : Array Value} {zC : Int32} {fS : Value} {e0 : Addr} {e1 : Addr} {e2 : Addr} (G : Gl Z a0 zC fS e0 e1 e2) : (Jvm.Cond.code ({ cls := "java/lang/StringLatin1", name := "equals", desc := "([B[B)Z" } : Jvm.MethodName) jdk_43_method_13_code (3 : Nat) (Option.some Jvm.ClassFile.FieldType.boolean)).before a0 Z = true := G.1 _ (List.mem_of_getElem? (i := 139) rfl)
theorem w140 {Z : State} {a0 : Array Value} {zC : Int32} {fS : Value} {e0 : Addr} {e1 : Addr} {e2 : Addr} (G : Gl Z a0 zC fS e0 e1 e2) : (Jvm.Cond.superclass "java/lang/String" "java/lang/Object").before a0 Z = true := G.1 _ (List.mem_of_getElem? (i := 140) rfl)
theorem w141 {Z : State} {a0 : Array Value} {zC : Int32} {fS : Value} {e0 : Addr} {e1 : Addr} {e2 : Addr} (G : Gl Z a0 zC fS e0 e1 e2) : (Jvm.Cond.noSuperclass "java/lang/Object").before a0 Z = true := G.1 _ (List.mem_of_getElem? (i := 141) rfl)
theorem w142 {Z : State} {a0 : Array Value} {zC : Int32} {fS : Value} {e0 : Addr} {e1 : Addr} {e2 : Addr} (G : Gl Z a0 zC fS e0 e1 e2) : (Jvm.Cond.superclass "com/example/campo_grande/campogrande/ContentKey" "java/lang/Object").before a0 Z = true := G.1 _ (List.mem_of_getElem? (i := 142) rfl)
theorem w143 {Z : State} {a0 : Array Value} {zC : Int32} {fS : Value} {e0 : Addr} {e1 : Addr} {e2 : Addr} (G : Gl Z a0 zC fS e0 e1 e2) : (Jvm.Cond.fieldLink "com/example/campo_grande/campogrande/PayloadDigestEqualsPinLaw" (57 : Nat) "com/example/campo_grande/campogrande/SignatureAlgorithm" "MD5" "Lcom/example/campo_grande/campogrande/SignatureAlgorithm;").before a0 Z = true := G.1 _ (List.mem_of_getElem? (i := 143) rfl)
theorem w145 {Z : State} {a0 : Array Value} {zC : Int32} {fS : Value} {e0 : Addr} {e1 : Addr} {e2 : Addr} (G : Gl Z a0 zC fS e0 e1 e2) : (Jvm.Cond.fieldLink "com/example/campo_grande/campogrande/PayloadDigestEqualsPinLaw" (54 : Nat) "com/example/campo_grande/campogrande/SignatureAlgorithm" "SHA1" "Lcom/example/campo_grande/campogrande/SignatureAlgorithm;").before a0 Z = true := G.1 _ (List.mem_of_getElem? (i := 145) rfl)
theorem watoms {Z : State} {a0 : Array Value} {zC : Int32} {fS : Value} {e0 : Addr} {e1 : Addr} {e2 : Addr} (G : Gl Z a0 zC fS e0 e1 e2) : ∀ a ∈ Bundle.stringAtoms, a.before a0 Z = true := fun d hd => by
  simp only [Bundle.stringAtoms, List.mem_cons, List.not_mem_nil, or_false] at hd
  rcases hd with rfl | rfl | rfl | rfl | rfl | rfl | rfl
  · exact (w23 G)
  · exact (w22 G)
  · exact (w39 G)
  · exact (w49 G)
  · exact (w47 G)
  · exact (w108 G)
  · exact (w109 G)
theorem d_jdk_52_m21_3 : decode jdk_52_method_21_code 3 = .ok (.iload 5, 2) := by decide +kernel
theorem d_jdk_52_m21_5 : decode jdk_52_method_21_code 5 = .ok (.iload 4, 2) := by decide +kernel
theorem d_jdk_52_m21_7 : decode jdk_52_method_21_code 7 = .ok (.if_icmp .ge 37, 3) := by decide +kernel
theorem d_jdk_52_m21_44 : decode jdk_52_method_21_code 44 = .ok (.iload 4, 2) := by decide +kernel
theorem d_jdk_52_m21_46 : decode jdk_52_method_21_code 46 = .ok (.ireturn, 1) := by decide +kernel
theorem d_jdk_52_m21_10 : decode jdk_52_method_21_code 10 = .ok (.aload_n 0, 1) := by decide +kernel
theorem d_jdk_52_m21_11 : decode jdk_52_method_21_code 11 = .ok (.iload_n 1, 1) := by decide +kernel
theorem d_jdk_52_m21_12 : decode jdk_52_method_21_code 12 = .ok (.caload, 1) := by decide +kernel
theorem d_jdk_52_m21_13 : decode jdk_52_method_21_code 13 = .ok (.istore 6, 2) := by decide +kernel
theorem d_jdk_52_m21_15 : decode jdk_52_method_21_code 15 = .ok (.iload 6, 2) := by decide +kernel
theorem d_jdk_52_m21_17 : decode jdk_52_method_21_code 17 = .ok (.sipush 255, 3) := by decide +kernel
theorem d_jdk_52_m21_20 : decode jdk_52_method_21_code 20 = .ok (.if_icmp .le 6, 3) := by decide +kernel
theorem d_jdk_52_m21_26 : decode jdk_52_method_21_code 26 = .ok (.aload_n 2, 1) := by decide +kernel
theorem d_jdk_52_m21_27 : decode jdk_52_method_21_code 27 = .ok (.iload_n 3, 1) := by decide +kernel
theorem d_jdk_52_m21_28 : decode jdk_52_method_21_code 28 = .ok (.iload 6, 2) := by decide +kernel
theorem d_jdk_52_m21_30 : decode jdk_52_method_21_code 30 = .ok (.i2b, 1) := by decide +kernel
theorem d_jdk_52_m21_31 : decode jdk_52_method_21_code 31 = .ok (.bastore, 1) := by decide +kernel
theorem d_jdk_52_m21_32 : decode jdk_52_method_21_code 32 = .ok (.iinc 1 1, 3) := by decide +kernel
theorem d_jdk_52_m21_35 : decode jdk_52_method_21_code 35 = .ok (.iinc 3 1, 3) := by decide +kernel
theorem d_jdk_52_m21_38 : decode jdk_52_method_21_code 38 = .ok (.iinc 5 1, 3) := by decide +kernel
theorem d_jdk_52_m21_41 : decode jdk_52_method_21_code 41 = .ok (.goto (-38), 3) := by decide +kernel
theorem d_jdk_52_m21_0 : decode jdk_52_method_21_code 0 = .ok (.iconst 0, 1) := by decide +kernel
theorem d_jdk_52_m21_1 : decode jdk_52_method_21_code 1 = .ok (.istore 5, 2) := by decide +kernel
theorem pn0 : plainName "java/lang/StringUTF16" = true := by first | (simp [plainName, overriddenIn]; done) | decide +kernel
theorem d_jdk_52_m15_0 : decode jdk_52_method_15_code 0 = .ok (.iload_n 1, 1) := by decide +kernel
theorem d_jdk_52_m15_1 : decode jdk_52_method_15_code 1 = .ok (.aload_n 0, 1) := by decide +kernel
theorem d_jdk_52_m15_2 : decode jdk_52_method_15_code 2 = .ok (.arraylength, 1) := by decide +kernel
theorem d_jdk_52_m15_3 : decode jdk_52_method_15_code 3 = .ok (.isub, 1) := by decide +kernel
theorem d_jdk_52_m15_4 : decode jdk_52_method_15_code 4 = .ok (.bipush 31, 2) := by decide +kernel
theorem d_jdk_52_m15_6 : decode jdk_52_method_15_code 6 = .ok (.iushr, 1) := by decide +kernel
theorem d_jdk_52_m15_7 : decode jdk_52_method_15_code 7 = .ok (.i2b, 1) := by decide +kernel
theorem d_jdk_52_m15_8 : decode jdk_52_method_15_code 8 = .ok (.ireturn, 1) := by decide +kernel
theorem d_jdk_52_m16_0 : decode jdk_52_method_16_code 0 = .ok (.iload_n 2, 1) := by decide +kernel
theorem d_jdk_52_m16_1 : decode jdk_52_method_16_code 1 = .ok (.newarray .byte, 2) := by decide +kernel
theorem d_jdk_52_m16_3 : decode jdk_52_method_16_code 3 = .ok (.astore_n 3, 1) := by decide +kernel
theorem d_jdk_52_m16_4 : decode jdk_52_method_16_code 4 = .ok (.aload_n 0, 1) := by decide +kernel
theorem d_jdk_52_m16_5 : decode jdk_52_method_16_code 5 = .ok (.iload_n 1, 1) := by decide +kernel
theorem d_jdk_52_m16_6 : decode jdk_52_method_16_code 6 = .ok (.aload_n 3, 1) := by decide +kernel
theorem d_jdk_52_m16_7 : decode jdk_52_method_16_code 7 = .ok (.iconst 0, 1) := by decide +kernel
theorem d_jdk_52_m16_8 : decode jdk_52_method_16_code 8 = .ok (.iload_n 2, 1) := by decide +kernel
theorem d_jdk_52_m16_9 : decode jdk_52_method_16_code 9 = .ok (.invokestatic 115, 3) := by decide +kernel
theorem pd1 : parseMethodDescriptor "([CI[BII)I" = some ⟨[(.array .char), .int, (.array .byte), .int, .int], some .int⟩ := by decide +kernel
theorem d_jdk_52_m16_12 : decode jdk_52_method_16_code 12 = .ok (.istore 4, 2) := by decide +kernel
theorem d_jdk_52_m16_14 : decode jdk_52_method_16_code 14 = .ok (.iload 4, 2) := by decide +kernel
theorem d_jdk_52_m16_16 : decode jdk_52_method_16_code 16 = .ok (.iload_n 2, 1) := by decide +kernel
theorem d_jdk_52_m16_17 : decode jdk_52_method_16_code 17 = .ok (.if_icmp .eq 40, 3) := by decide +kernel
theorem d_jdk_52_m16_57 : decode jdk_52_method_16_code 57 = .ok (.aload_n 3, 1) := by decide +kernel
theorem d_jdk_52_m16_58 : decode jdk_52_method_16_code 58 = .ok (.areturn, 1) := by decide +kernel
theorem d_jdk_42_m149_0 : decode jdk_42_method_149_code 0 = .ok (.aload_n 0, 1) := by decide +kernel
theorem d_jdk_42_m149_1 : decode jdk_42_method_149_code 1 = .ok (.invokespecial 1, 3) := by decide +kernel
theorem d_jdk_42_m149_4 : decode jdk_42_method_149_code 4 = .ok (.iload_n 3, 1) := by decide +kernel
theorem d_jdk_42_m149_5 : decode jdk_42_method_149_code 5 = .ok (.ifCond .ne 22, 3) := by decide +kernel
theorem d_jdk_42_m149_27 : decode jdk_42_method_149_code 27 = .ok (.getstatic 38, 3) := by decide +kernel
theorem d_jdk_42_m149_30 : decode jdk_42_method_149_code 30 = .ok (.ifCond .eq 28, 3) := by decide +kernel
theorem d_jdk_42_m149_33 : decode jdk_42_method_149_code 33 = .ok (.aload_n 1, 1) := by decide +kernel
theorem d_jdk_42_m149_34 : decode jdk_42_method_149_code 34 = .ok (.iload_n 2, 1) := by decide +kernel
theorem d_jdk_42_m149_35 : decode jdk_42_method_149_code 35 = .ok (.iload_n 3, 1) := by decide +kernel
theorem d_jdk_42_m149_36 : decode jdk_42_method_149_code 36 = .ok (.invokestatic 177, 3) := by decide +kernel
theorem pd2 : parseMethodDescriptor "([CII)[B" = some ⟨[(.array .char), .int, .int], some (.array .byte)⟩ := by decide +kernel
theorem d_jdk_42_m149_39 : decode jdk_42_method_149_code 39 = .ok (.astore 5, 2) := by decide +kernel
theorem d_jdk_42_m149_41 : decode jdk_42_method_149_code 41 = .ok (.aload_n 0, 1) := by decide +kernel
theorem d_jdk_42_m149_42 : decode jdk_42_method_149_code 42 = .ok (.aload 5, 2) := by decide +kernel
theorem d_jdk_42_m149_44 : decode jdk_42_method_149_code 44 = .ok (.iload_n 3, 1) := by decide +kernel
theorem d_jdk_42_m149_45 : decode jdk_42_method_149_code 45 = .ok (.invokestatic 47, 3) := by decide +kernel
theorem pd3 : parseMethodDescriptor "([BI)B" = some ⟨[(.array .byte), .int], some .byte⟩ := by decide +kernel
theorem d_jdk_42_m149_48 : decode jdk_42_method_149_code 48 = .ok (.putfield 15, 3) := by decide +kernel
theorem d_jdk_42_m149_51 : decode jdk_42_method_149_code 51 = .ok (.aload_n 0, 1) := by decide +kernel
theorem d_jdk_42_m149_52 : decode jdk_42_method_149_code 52 = .ok (.aload 5, 2) := by decide +kernel
theorem d_jdk_42_m149_54 : decode jdk_42_method_149_code 54 = .ok (.putfield 9, 3) := by decide +kernel
theorem d_jdk_42_m149_57 : decode jdk_42_method_149_code 57 = .ok (.return_, 1) := by decide +kernel
theorem pn4 : plainName "java/lang/String" = true := by first | (simp [plainName, overriddenIn]; done) | decide +kernel
theorem d_jdk_42_m3_0 : decode jdk_42_method_3_code 0 = .ok (.aload_n 0, 1) := by decide +kernel
theorem d_jdk_42_m3_1 : decode jdk_42_method_3_code 1 = .ok (.aload_n 1, 1) := by decide +kernel
theorem d_jdk_42_m3_2 : decode jdk_42_method_3_code 2 = .ok (.iconst 0, 1) := by decide +kernel
theorem d_jdk_42_m3_3 : decode jdk_42_method_3_code 3 = .ok (.aload_n 1, 1) := by decide +kernel
theorem d_jdk_42_m3_4 : decode jdk_42_method_3_code 4 = .ok (.arraylength, 1) := by decide +kernel
theorem d_jdk_42_m3_5 : decode jdk_42_method_3_code 5 = .ok (.aconst_null, 1) := by decide +kernel
theorem d_jdk_42_m3_6 : decode jdk_42_method_3_code 6 = .ok (.invokespecial 27, 3) := by decide +kernel
theorem pd5 : parseMethodDescriptor "([CIILjava/lang/Void;)V" = some ⟨[(.array .char), .int, .int, (.object "java/lang/Void")], none⟩ := by decide +kernel
theorem d_jdk_42_m3_9 : decode jdk_42_method_3_code 9 = .ok (.return_, 1) := by decide +kernel
theorem d_jdk_42_m152_0 : decode jdk_42_method_152_code 0 = .ok (.getstatic 38, 3) := by decide +kernel
theorem d_jdk_42_m152_3 : decode jdk_42_method_152_code 3 = .ok (.ifCond .eq 10, 3) := by decide +kernel
theorem d_jdk_42_m152_6 : decode jdk_42_method_152_code 6 = .ok (.aload_n 0, 1) := by decide +kernel
theorem d_jdk_42_m152_7 : decode jdk_42_method_152_code 7 = .ok (.getfield 15, 3) := by decide +kernel
theorem d_jdk_42_m152_10 : decode jdk_42_method_152_code 10 = .ok (.goto 4, 3) := by decide +kernel
theorem d_jdk_42_m152_14 : decode jdk_42_method_152_code 14 = .ok (.ireturn, 1) := by decide +kernel
theorem d_jdk_42_m54_0 : decode jdk_42_method_54_code 0 = .ok (.aload_n 0, 1) := by decide +kernel
theorem d_jdk_42_m54_1 : decode jdk_42_method_54_code 1 = .ok (.getfield 9, 3) := by decide +kernel
theorem d_jdk_42_m54_4 : decode jdk_42_method_54_code 4 = .ok (.arraylength, 1) := by decide +kernel
theorem d_jdk_42_m54_5 : decode jdk_42_method_54_code 5 = .ok (.aload_n 0, 1) := by decide +kernel
theorem d_jdk_42_m54_6 : decode jdk_42_method_54_code 6 = .ok (.invokevirtual 335, 3) := by decide +kernel
theorem pd6 : parseMethodDescriptor "()B" = some ⟨[], some .byte⟩ := by decide +kernel
theorem d_jdk_42_m54_9 : decode jdk_42_method_54_code 9 = .ok (.ishr, 1) := by decide +kernel
theorem d_jdk_42_m54_10 : decode jdk_42_method_54_code 10 = .ok (.ireturn, 1) := by decide +kernel
theorem d_jdk_42_m154_0 : decode jdk_42_method_154_code 0 = .ok (.getstatic 38, 3) := by decide +kernel
theorem d_jdk_42_m154_3 : decode jdk_42_method_154_code 3 = .ok (.ifCond .eq 14, 3) := by decide +kernel
theorem d_jdk_42_m154_6 : decode jdk_42_method_154_code 6 = .ok (.aload_n 0, 1) := by decide +kernel
theorem d_jdk_42_m154_7 : decode jdk_42_method_154_code 7 = .ok (.getfield 15, 3) := by decide +kernel
theorem d_jdk_42_m154_10 : decode jdk_42_method_154_code 10 = .ok (.ifCond .ne 7, 3) := by decide +kernel
theorem d_jdk_42_m154_13 : decode jdk_42_method_154_code 13 = .ok (.iconst 1, 1) := by decide +kernel
theorem d_jdk_42_m154_14 : decode jdk_42_method_154_code 14 = .ok (.goto 4, 3) := by decide +kernel
theorem d_jdk_42_m154_18 : decode jdk_42_method_154_code 18 = .ok (.ireturn, 1) := by decide +kernel
theorem d_jdk_41_m11_0 : decode jdk_41_method_11_code 0 = .ok (.iload_n 0, 1) := by decide +kernel
theorem d_jdk_41_m11_1 : decode jdk_41_method_11_code 1 = .ok (.ifCond .lt 8, 3) := by decide +kernel
theorem d_jdk_41_m11_4 : decode jdk_41_method_11_code 4 = .ok (.iload_n 0, 1) := by decide +kernel
theorem d_jdk_41_m11_5 : decode jdk_41_method_11_code 5 = .ok (.iload_n 1, 1) := by decide +kernel
theorem d_jdk_41_m11_6 : decode jdk_41_method_11_code 6 = .ok (.if_icmp .lt 10, 3) := by decide +kernel
theorem d_jdk_41_m11_16 : decode jdk_41_method_11_code 16 = .ok (.iload_n 0, 1) := by decide +kernel
theorem d_jdk_41_m11_17 : decode jdk_41_method_11_code 17 = .ok (.ireturn, 1) := by decide +kernel
theorem pn7 : plainName "jdk/internal/util/Preconditions" = true := by first | (simp [plainName, overriddenIn]; done) | decide +kernel
theorem d_jdk_42_m155_0 : decode jdk_42_method_155_code 0 = .ok (.iload_n 0, 1) := by decide +kernel
theorem d_jdk_42_m155_1 : decode jdk_42_method_155_code 1 = .ok (.iload_n 1, 1) := by decide +kernel
theorem d_jdk_42_m155_2 : decode jdk_42_method_155_code 2 = .ok (.getstatic 1053, 3) := by decide +kernel
theorem d_jdk_42_m155_5 : decode jdk_42_method_155_code 5 = .ok (.invokestatic 1059, 3) := by decide +kernel
theorem pd8 : parseMethodDescriptor "(IILjava/util/function/BiFunction;)I" = some ⟨[.int, .int, (.object "java/util/function/BiFunction")], some .int⟩ := by decide +kernel
theorem d_jdk_42_m155_8 : decode jdk_42_method_155_code 8 = .ok (.pop, 1) := by decide +kernel
theorem d_jdk_42_m155_9 : decode jdk_42_method_155_code 9 = .ok (.return_, 1) := by decide +kernel
theorem d_jdk_43_m2_0 : decode jdk_43_method_2_code 0 = .ok (.iload_n 1, 1) := by decide +kernel
theorem d_jdk_43_m2_1 : decode jdk_43_method_2_code 1 = .ok (.aload_n 0, 1) := by decide +kernel
theorem d_jdk_43_m2_2 : decode jdk_43_method_2_code 2 = .ok (.arraylength, 1) := by decide +kernel
theorem d_jdk_43_m2_3 : decode jdk_43_method_2_code 3 = .ok (.invokestatic 9, 3) := by decide +kernel
theorem pd9 : parseMethodDescriptor "(II)V" = some ⟨[.int, .int], none⟩ := by decide +kernel
theorem d_jdk_43_m2_6 : decode jdk_43_method_2_code 6 = .ok (.aload_n 0, 1) := by decide +kernel
theorem d_jdk_43_m2_7 : decode jdk_43_method_2_code 7 = .ok (.iload_n 1, 1) := by decide +kernel
theorem d_jdk_43_m2_8 : decode jdk_43_method_2_code 8 = .ok (.baload, 1) := by decide +kernel
theorem d_jdk_43_m2_9 : decode jdk_43_method_2_code 9 = .ok (.sipush 255, 3) := by decide +kernel
theorem d_jdk_43_m2_12 : decode jdk_43_method_2_code 12 = .ok (.iand, 1) := by decide +kernel
theorem d_jdk_43_m2_13 : decode jdk_43_method_2_code 13 = .ok (.i2c, 1) := by decide +kernel
theorem d_jdk_43_m2_14 : decode jdk_43_method_2_code 14 = .ok (.ireturn, 1) := by decide +kernel
theorem pn10 : plainName "java/lang/StringLatin1" = true := by first | (simp [plainName, overriddenIn]; done) | decide +kernel
theorem d_jdk_42_m56_0 : decode jdk_42_method_56_code 0 = .ok (.aload_n 0, 1) := by decide +kernel
theorem d_jdk_42_m56_1 : decode jdk_42_method_56_code 1 = .ok (.invokevirtual 492, 3) := by decide +kernel
theorem pd11 : parseMethodDescriptor "()Z" = some ⟨[], some .boolean⟩ := by decide +kernel
theorem d_jdk_42_m56_4 : decode jdk_42_method_56_code 4 = .ok (.ifCond .eq 12, 3) := by decide +kernel
theorem d_jdk_42_m56_7 : decode jdk_42_method_56_code 7 = .ok (.aload_n 0, 1) := by decide +kernel
theorem d_jdk_42_m56_8 : decode jdk_42_method_56_code 8 = .ok (.getfield 9, 3) := by decide +kernel
theorem d_jdk_42_m56_11 : decode jdk_42_method_56_code 11 = .ok (.iload_n 1, 1) := by decide +kernel
theorem d_jdk_42_m56_12 : decode jdk_42_method_56_code 12 = .ok (.invokestatic 495, 3) := by decide +kernel
theorem pd12 : parseMethodDescriptor "([BI)C" = some ⟨[(.array .byte), .int], some .char⟩ := by decide +kernel
theorem d_jdk_42_m56_15 : decode jdk_42_method_56_code 15 = .ok (.ireturn, 1) := by decide +kernel
theorem d_jdk_43_m13_0 : decode jdk_43_method_13_code 0 = .ok (.aload_n 0, 1) := by decide +kernel
theorem d_jdk_43_m13_1 : decode jdk_43_method_13_code 1 = .ok (.arraylength, 1) := by decide +kernel
theorem d_jdk_43_m13_2 : decode jdk_43_method_13_code 2 = .ok (.aload_n 1, 1) := by decide +kernel
theorem d_jdk_43_m13_3 : decode jdk_43_method_13_code 3 = .ok (.arraylength, 1) := by decide +kernel
theorem d_jdk_43_m13_4 : decode jdk_43_method_13_code 4 = .ok (.if_icmp .ne 30, 3) := by decide +kernel
theorem d_jdk_43_m13_7 : decode jdk_43_method_13_code 7 = .ok (.iconst 0, 1) := by decide +kernel
theorem d_jdk_43_m13_8 : decode jdk_43_method_13_code 8 = .ok (.istore_n 2, 1) := by decide +kernel
theorem d_jdk_43_m13_9 : decode jdk_43_method_13_code 9 = .ok (.iload_n 2, 1) := by decide +kernel
theorem d_jdk_43_m13_10 : decode jdk_43_method_13_code 10 = .ok (.aload_n 0, 1) := by decide +kernel
theorem d_jdk_43_m13_11 : decode jdk_43_method_13_code 11 = .ok (.arraylength, 1) := by decide +kernel
theorem d_jdk_43_m13_12 : decode jdk_43_method_13_code 12 = .ok (.if_icmp .ge 20, 3) := by decide +kernel
theorem d_jdk_43_m13_32 : decode jdk_43_method_13_code 32 = .ok (.iconst 1, 1) := by decide +kernel
theorem d_jdk_43_m13_33 : decode jdk_43_method_13_code 33 = .ok (.ireturn, 1) := by decide +kernel
theorem d_jdk_43_m13_15 : decode jdk_43_method_13_code 15 = .ok (.aload_n 0, 1) := by decide +kernel
theorem d_jdk_43_m13_16 : decode jdk_43_method_13_code 16 = .ok (.iload_n 2, 1) := by decide +kernel
theorem d_jdk_43_m13_17 : decode jdk_43_method_13_code 17 = .ok (.baload, 1) := by decide +kernel
theorem d_jdk_43_m13_18 : decode jdk_43_method_13_code 18 = .ok (.aload_n 1, 1) := by decide +kernel
theorem d_jdk_43_m13_19 : decode jdk_43_method_13_code 19 = .ok (.iload_n 2, 1) := by decide +kernel
theorem d_jdk_43_m13_20 : decode jdk_43_method_13_code 20 = .ok (.baload, 1) := by decide +kernel
theorem d_jdk_43_m13_21 : decode jdk_43_method_13_code 21 = .ok (.if_icmp .eq 5, 3) := by decide +kernel
theorem d_jdk_43_m13_26 : decode jdk_43_method_13_code 26 = .ok (.iinc 2 1, 3) := by decide +kernel
theorem d_jdk_43_m13_29 : decode jdk_43_method_13_code 29 = .ok (.goto (-20), 3) := by decide +kernel
theorem d_jdk_43_m13_24 : decode jdk_43_method_13_code 24 = .ok (.iconst 0, 1) := by decide +kernel
theorem d_jdk_43_m13_25 : decode jdk_43_method_13_code 25 = .ok (.ireturn, 1) := by decide +kernel
theorem d_jdk_43_m13_34 : decode jdk_43_method_13_code 34 = .ok (.iconst 0, 1) := by decide +kernel
theorem d_jdk_43_m13_35 : decode jdk_43_method_13_code 35 = .ok (.ireturn, 1) := by decide +kernel
theorem d_jdk_42_m66_0 : decode jdk_42_method_66_code 0 = .ok (.aload_n 0, 1) := by decide +kernel
theorem d_jdk_42_m66_1 : decode jdk_42_method_66_code 1 = .ok (.aload_n 1, 1) := by decide +kernel
theorem d_jdk_42_m66_2 : decode jdk_42_method_66_code 2 = .ok (.if_acmp .ne 5, 3) := by decide +kernel
theorem d_jdk_42_m66_7 : decode jdk_42_method_66_code 7 = .ok (.aload_n 1, 1) := by decide +kernel
theorem d_jdk_42_m66_8 : decode jdk_42_method_66_code 8 = .ok (.instanceof 10, 3) := by decide +kernel
theorem d_jdk_42_m66_11 : decode jdk_42_method_66_code 11 = .ok (.ifCond .eq 43, 3) := by decide +kernel
theorem d_jdk_42_m66_14 : decode jdk_42_method_66_code 14 = .ok (.aload_n 1, 1) := by decide +kernel
theorem d_jdk_42_m66_15 : decode jdk_42_method_66_code 15 = .ok (.checkcast 10, 3) := by decide +kernel
theorem d_jdk_42_m66_18 : decode jdk_42_method_66_code 18 = .ok (.astore_n 2, 1) := by decide +kernel
theorem d_jdk_42_m66_19 : decode jdk_42_method_66_code 19 = .ok (.getstatic 38, 3) := by decide +kernel
theorem d_jdk_42_m66_22 : decode jdk_42_method_66_code 22 = .ok (.ifCond .eq 14, 3) := by decide +kernel
theorem d_jdk_42_m66_25 : decode jdk_42_method_66_code 25 = .ok (.aload_n 0, 1) := by decide +kernel
theorem d_jdk_42_m66_26 : decode jdk_42_method_66_code 26 = .ok (.getfield 15, 3) := by decide +kernel
theorem d_jdk_42_m66_29 : decode jdk_42_method_66_code 29 = .ok (.aload_n 2, 1) := by decide +kernel
theorem d_jdk_42_m66_30 : decode jdk_42_method_66_code 30 = .ok (.getfield 15, 3) := by decide +kernel
theorem d_jdk_42_m66_33 : decode jdk_42_method_66_code 33 = .ok (.if_icmp .ne 21, 3) := by decide +kernel
theorem d_jdk_42_m66_36 : decode jdk_42_method_66_code 36 = .ok (.aload_n 0, 1) := by decide +kernel
theorem d_jdk_42_m66_37 : decode jdk_42_method_66_code 37 = .ok (.getfield 9, 3) := by decide +kernel
theorem d_jdk_42_m66_40 : decode jdk_42_method_66_code 40 = .ok (.aload_n 2, 1) := by decide +kernel
theorem d_jdk_42_m66_41 : decode jdk_42_method_66_code 41 = .ok (.getfield 9, 3) := by decide +kernel
theorem d_jdk_42_m66_44 : decode jdk_42_method_66_code 44 = .ok (.invokestatic 541, 3) := by decide +kernel
theorem pd13 : parseMethodDescriptor "([B[B)Z" = some ⟨[(.array .byte), (.array .byte)], some .boolean⟩ := by decide +kernel
theorem d_jdk_42_m66_47 : decode jdk_42_method_66_code 47 = .ok (.ifCond .eq 7, 3) := by decide +kernel
theorem d_jdk_42_m66_54 : decode jdk_42_method_66_code 54 = .ok (.iconst 0, 1) := by decide +kernel
theorem d_jdk_42_m66_55 : decode jdk_42_method_66_code 55 = .ok (.ireturn, 1) := by decide +kernel
theorem d_jdk_42_m66_50 : decode jdk_42_method_66_code 50 = .ok (.iconst 1, 1) := by decide +kernel
theorem d_jdk_42_m66_51 : decode jdk_42_method_66_code 51 = .ok (.goto 4, 3) := by decide +kernel
theorem d_jdk_42_m66_5 : decode jdk_42_method_66_code 5 = .ok (.iconst 1, 1) := by decide +kernel
theorem d_jdk_42_m66_6 : decode jdk_42_method_66_code 6 = .ok (.ireturn, 1) := by decide +kernel
theorem d_jdk_31_m11_0 : decode jdk_31_method_11_code 0 = .ok (.aload_n 0, 1) := by decide +kernel
theorem d_jdk_31_m11_1 : decode jdk_31_method_11_code 1 = .ok (.ifnonnull 12, 3) := by decide +kernel
theorem d_jdk_31_m11_13 : decode jdk_31_method_11_code 13 = .ok (.aload_n 0, 1) := by decide +kernel
theorem d_jdk_31_m11_14 : decode jdk_31_method_11_code 14 = .ok (.areturn, 1) := by decide +kernel
theorem pn14 : plainName "java/util/Objects" = true := by first | (simp [plainName, overriddenIn]; done) | decide +kernel
theorem d_prog_25_m6_0 : decode prog_25_method_6_code 0 = .ok (.aload_n 1, 1) := by decide +kernel
theorem d_prog_25_m6_1 : decode prog_25_method_6_code 1 = .ok (.invokevirtual 60, 3) := by decide +kernel
theorem pd15 : parseMethodDescriptor "()I" = some ⟨[], some .int⟩ := by decide +kernel
theorem d_prog_25_m6_4 : decode prog_25_method_6_code 4 = .ok (.iconst 2, 1) := by decide +kernel
theorem d_prog_25_m6_5 : decode prog_25_method_6_code 5 = .ok (.aload_n 0, 1) := by decide +kernel
theorem d_prog_25_m6_6 : decode prog_25_method_6_code 6 = .ok (.getfield 39, 3) := by decide +kernel
theorem d_prog_25_m6_9 : decode prog_25_method_6_code 9 = .ok (.imul, 1) := by decide +kernel
theorem d_prog_25_m6_10 : decode prog_25_method_6_code 10 = .ok (.if_icmp .eq 5, 3) := by decide +kernel
theorem d_prog_25_m6_15 : decode prog_25_method_6_code 15 = .ok (.iconst 0, 1) := by decide +kernel
theorem d_prog_25_m6_16 : decode prog_25_method_6_code 16 = .ok (.istore_n 2, 1) := by decide +kernel
theorem d_prog_25_m6_17 : decode prog_25_method_6_code 17 = .ok (.iload_n 2, 1) := by decide +kernel
theorem d_prog_25_m6_18 : decode prog_25_method_6_code 18 = .ok (.aload_n 1, 1) := by decide +kernel
theorem d_prog_25_m6_19 : decode prog_25_method_6_code 19 = .ok (.invokevirtual 60, 3) := by decide +kernel
theorem d_prog_25_m6_22 : decode prog_25_method_6_code 22 = .ok (.if_icmp .ge 41, 3) := by decide +kernel
theorem d_prog_25_m6_63 : decode prog_25_method_6_code 63 = .ok (.iconst 1, 1) := by decide +kernel
theorem d_prog_25_m6_64 : decode prog_25_method_6_code 64 = .ok (.ireturn, 1) := by decide +kernel
theorem d_prog_25_m6_25 : decode prog_25_method_6_code 25 = .ok (.aload_n 1, 1) := by decide +kernel
theorem d_prog_25_m6_26 : decode prog_25_method_6_code 26 = .ok (.iload_n 2, 1) := by decide +kernel
theorem d_prog_25_m6_27 : decode prog_25_method_6_code 27 = .ok (.invokevirtual 64, 3) := by decide +kernel
theorem pd16 : parseMethodDescriptor "(I)C" = some ⟨[.int], some .char⟩ := by decide +kernel
theorem d_prog_25_m6_30 : decode prog_25_method_6_code 30 = .ok (.istore_n 3, 1) := by decide +kernel
theorem d_prog_25_m6_31 : decode prog_25_method_6_code 31 = .ok (.iload_n 3, 1) := by decide +kernel
theorem d_prog_25_m6_32 : decode prog_25_method_6_code 32 = .ok (.bipush 48, 2) := by decide +kernel
theorem d_prog_25_m6_34 : decode prog_25_method_6_code 34 = .ok (.if_icmp .lt 9, 3) := by decide +kernel
theorem d_prog_25_m6_43 : decode prog_25_method_6_code 43 = .ok (.iload_n 3, 1) := by decide +kernel
theorem d_prog_25_m6_44 : decode prog_25_method_6_code 44 = .ok (.bipush 97, 2) := by decide +kernel
theorem d_prog_25_m6_46 : decode prog_25_method_6_code 46 = .ok (.if_icmp .lt 9, 3) := by decide +kernel
theorem d_prog_25_m6_49 : decode prog_25_method_6_code 49 = .ok (.iload_n 3, 1) := by decide +kernel
theorem d_prog_25_m6_50 : decode prog_25_method_6_code 50 = .ok (.bipush 102, 2) := by decide +kernel
theorem d_prog_25_m6_52 : decode prog_25_method_6_code 52 = .ok (.if_icmp .le 5, 3) := by decide +kernel
theorem d_prog_25_m6_57 : decode prog_25_method_6_code 57 = .ok (.iinc 2 1, 3) := by decide +kernel
theorem d_prog_25_m6_60 : decode prog_25_method_6_code 60 = .ok (.goto (-43), 3) := by decide +kernel
theorem d_prog_25_m6_37 : decode prog_25_method_6_code 37 = .ok (.iload_n 3, 1) := by decide +kernel
theorem d_prog_25_m6_38 : decode prog_25_method_6_code 38 = .ok (.bipush 57, 2) := by decide +kernel
theorem d_prog_25_m6_40 : decode prog_25_method_6_code 40 = .ok (.if_icmp .le 17, 3) := by decide +kernel
theorem pn17 : plainName "com/example/campo_grande/campogrande/SignatureAlgorithm" = true := by first | (simp [plainName, overriddenIn]; done) | decide +kernel
theorem d_prog_13_m1_0 : decode prog_13_method_1_code 0 = .ok (.aload_n 0, 1) := by decide +kernel
theorem d_prog_13_m1_1 : decode prog_13_method_1_code 1 = .ok (.invokespecial 1, 3) := by decide +kernel
theorem d_prog_13_m1_4 : decode prog_13_method_1_code 4 = .ok (.aload_n 2, 1) := by decide +kernel
theorem d_prog_13_m1_5 : decode prog_13_method_1_code 5 = .ok (.ldc 7, 2) := by decide +kernel
theorem d_prog_13_m1_7 : decode prog_13_method_1_code 7 = .ok (.invokestatic 9, 3) := by decide +kernel
theorem pd18 : parseMethodDescriptor "(Ljava/lang/Object;Ljava/lang/String;)Ljava/lang/Object;" = some ⟨[(.object "java/lang/Object"), (.object "java/lang/String")], some (.object "java/lang/Object")⟩ := by decide +kernel
theorem d_prog_13_m1_10 : decode prog_13_method_1_code 10 = .ok (.pop, 1) := by decide +kernel
theorem d_prog_13_m1_11 : decode prog_13_method_1_code 11 = .ok (.aload_n 3, 1) := by decide +kernel
theorem d_prog_13_m1_12 : decode prog_13_method_1_code 12 = .ok (.ldc 15, 2) := by decide +kernel
theorem d_prog_13_m1_14 : decode prog_13_method_1_code 14 = .ok (.invokestatic 9, 3) := by decide +kernel
theorem d_prog_13_m1_17 : decode prog_13_method_1_code 17 = .ok (.pop, 1) := by decide +kernel
theorem d_prog_13_m1_18 : decode prog_13_method_1_code 18 = .ok (.iload_n 1, 1) := by decide +kernel
theorem d_prog_13_m1_19 : decode prog_13_method_1_code 19 = .ok (.ifCond .ge 9, 3) := by decide +kernel
theorem d_prog_13_m1_28 : decode prog_13_method_1_code 28 = .ok (.aload_n 2, 1) := by decide +kernel
theorem d_prog_13_m1_29 : decode prog_13_method_1_code 29 = .ok (.aload_n 3, 1) := by decide +kernel
theorem d_prog_13_m1_30 : decode prog_13_method_1_code 30 = .ok (.invokevirtual 25, 3) := by decide +kernel
theorem pd19 : parseMethodDescriptor "(Ljava/lang/String;)Z" = some ⟨[(.object "java/lang/String")], some .boolean⟩ := by decide +kernel
theorem d_prog_13_m1_33 : decode prog_13_method_1_code 33 = .ok (.ifCond .ne 22, 3) := by decide +kernel
theorem d_prog_13_m1_55 : decode prog_13_method_1_code 55 = .ok (.iload 4, 2) := by decide +kernel
theorem d_prog_13_m1_57 : decode prog_13_method_1_code 57 = .ok (.ifCond .ge 9, 3) := by decide +kernel
theorem d_prog_13_m1_66 : decode prog_13_method_1_code 66 = .ok (.aload_n 0, 1) := by decide +kernel
theorem d_prog_13_m1_67 : decode prog_13_method_1_code 67 = .ok (.iload_n 1, 1) := by decide +kernel
theorem d_prog_13_m1_68 : decode prog_13_method_1_code 68 = .ok (.putfield 47, 3) := by decide +kernel
theorem d_prog_13_m1_71 : decode prog_13_method_1_code 71 = .ok (.aload_n 0, 1) := by decide +kernel
theorem d_prog_13_m1_72 : decode prog_13_method_1_code 72 = .ok (.aload_n 2, 1) := by decide +kernel
theorem d_prog_13_m1_73 : decode prog_13_method_1_code 73 = .ok (.putfield 51, 3) := by decide +kernel
theorem d_prog_13_m1_76 : decode prog_13_method_1_code 76 = .ok (.aload_n 0, 1) := by decide +kernel
theorem d_prog_13_m1_77 : decode prog_13_method_1_code 77 = .ok (.aload_n 3, 1) := by decide +kernel
theorem d_prog_13_m1_78 : decode prog_13_method_1_code 78 = .ok (.putfield 54, 3) := by decide +kernel
theorem d_prog_13_m1_81 : decode prog_13_method_1_code 81 = .ok (.aload_n 0, 1) := by decide +kernel
theorem d_prog_13_m1_82 : decode prog_13_method_1_code 82 = .ok (.iload 4, 2) := by decide +kernel
theorem d_prog_13_m1_84 : decode prog_13_method_1_code 84 = .ok (.putfield 57, 3) := by decide +kernel
theorem d_prog_13_m1_87 : decode prog_13_method_1_code 87 = .ok (.return_, 1) := by decide +kernel
theorem pn20 : plainName "com/example/campo_grande/campogrande/ContentKey" = true := by first | (simp [plainName, overriddenIn]; done) | decide +kernel
theorem d_m3_0 : decode method_3_code 0 = .ok (.iload_n 0, 1) := by decide +kernel
theorem d_m3_1 : decode method_3_code 1 = .ok (.ldc 24, 2) := by decide +kernel
theorem d_m3_3 : decode method_3_code 3 = .ok (.iand, 1) := by decide +kernel
theorem d_m3_4 : decode method_3_code 4 = .ok (.iconst 3, 1) := by decide +kernel
theorem d_m3_5 : decode method_3_code 5 = .ok (.irem, 1) := by decide +kernel
theorem d_m3_6 : decode method_3_code 6 = .ok (.ireturn, 1) := by decide +kernel
theorem pn21 : plainName "com/example/campo_grande/campogrande/PayloadDigestEqualsPinLaw" = true := by first | (simp [plainName, overriddenIn]; done) | decide +kernel
theorem d_m4_0 : decode method_4_code 0 = .ok (.iload_n 0, 1) := by decide +kernel
theorem d_m4_1 : decode method_4_code 1 = .ok (.ifCond .ne 7, 3) := by decide +kernel
theorem d_m4_4 : decode method_4_code 4 = .ok (.getstatic 48, 3) := by decide +kernel
theorem d_m4_7 : decode method_4_code 7 = .ok (.areturn, 1) := by decide +kernel
theorem d_m4_8 : decode method_4_code 8 = .ok (.iload_n 0, 1) := by decide +kernel
theorem d_m4_9 : decode method_4_code 9 = .ok (.iconst 1, 1) := by decide +kernel
theorem d_m4_10 : decode method_4_code 10 = .ok (.if_icmp .ne 7, 3) := by decide +kernel
theorem d_m4_13 : decode method_4_code 13 = .ok (.getstatic 54, 3) := by decide +kernel
theorem d_m4_16 : decode method_4_code 16 = .ok (.areturn, 1) := by decide +kernel
theorem d_m4_17 : decode method_4_code 17 = .ok (.getstatic 57, 3) := by decide +kernel
theorem d_m4_20 : decode method_4_code 20 = .ok (.areturn, 1) := by decide +kernel
theorem d_m5_0 : decode method_5_code 0 = .ok (.iload_n 0, 1) := by decide +kernel
theorem d_m5_1 : decode method_5_code 1 = .ok (.ifCond .ne 6, 3) := by decide +kernel
theorem d_m5_4 : decode method_5_code 4 = .ok (.bipush 64, 2) := by decide +kernel
theorem d_m5_6 : decode method_5_code 6 = .ok (.ireturn, 1) := by decide +kernel
theorem d_m5_7 : decode method_5_code 7 = .ok (.iload_n 0, 1) := by decide +kernel
theorem d_m5_8 : decode method_5_code 8 = .ok (.iconst 1, 1) := by decide +kernel
theorem d_m5_9 : decode method_5_code 9 = .ok (.if_icmp .ne 6, 3) := by decide +kernel
theorem d_m5_12 : decode method_5_code 12 = .ok (.bipush 40, 2) := by decide +kernel
theorem d_m5_14 : decode method_5_code 14 = .ok (.ireturn, 1) := by decide +kernel
theorem d_m5_15 : decode method_5_code 15 = .ok (.bipush 32, 2) := by decide +kernel
theorem d_m5_17 : decode method_5_code 17 = .ok (.ireturn, 1) := by decide +kernel
theorem d_m6_0 : decode method_6_code 0 = .ok (.iload_n 0, 1) := by decide +kernel
theorem d_m6_1 : decode method_6_code 1 = .ok (.bipush 15, 2) := by decide +kernel
theorem d_m6_3 : decode method_6_code 3 = .ok (.iand, 1) := by decide +kernel
theorem d_m6_4 : decode method_6_code 4 = .ok (.istore_n 1, 1) := by decide +kernel
theorem d_m6_5 : decode method_6_code 5 = .ok (.iload_n 1, 1) := by decide +kernel
theorem d_m6_6 : decode method_6_code 6 = .ok (.bipush 10, 2) := by decide +kernel
theorem d_m6_8 : decode method_6_code 8 = .ok (.if_icmp .ge 9, 3) := by decide +kernel
theorem d_m6_11 : decode method_6_code 11 = .ok (.bipush 48, 2) := by decide +kernel
theorem d_m6_13 : decode method_6_code 13 = .ok (.iload_n 1, 1) := by decide +kernel
theorem d_m6_14 : decode method_6_code 14 = .ok (.iadd, 1) := by decide +kernel
theorem d_m6_15 : decode method_6_code 15 = .ok (.i2c, 1) := by decide +kernel
theorem d_m6_16 : decode method_6_code 16 = .ok (.ireturn, 1) := by decide +kernel
theorem d_m6_17 : decode method_6_code 17 = .ok (.bipush 97, 2) := by decide +kernel
theorem d_m6_19 : decode method_6_code 19 = .ok (.iload_n 1, 1) := by decide +kernel
theorem d_m6_20 : decode method_6_code 20 = .ok (.bipush 10, 2) := by decide +kernel
theorem d_m6_22 : decode method_6_code 22 = .ok (.isub, 1) := by decide +kernel
theorem d_m6_23 : decode method_6_code 23 = .ok (.iadd, 1) := by decide +kernel
theorem d_m6_24 : decode method_6_code 24 = .ok (.i2c, 1) := by decide +kernel
theorem d_m6_25 : decode method_6_code 25 = .ok (.ireturn, 1) := by decide +kernel
theorem d_m7_0 : decode method_7_code 0 = .ok (.iload_n 0, 1) := by decide +kernel
theorem d_m7_1 : decode method_7_code 1 = .ok (.bipush 32, 2) := by decide +kernel
theorem d_m7_3 : decode method_7_code 3 = .ok (.if_icmp .ne 162, 3) := by decide +kernel
theorem d_m7_6 : decode method_7_code 6 = .ok (.bipush 32, 2) := by decide +kernel
theorem d_m7_8 : decode method_7_code 8 = .ok (.newarray .char, 2) := by decide +kernel
theorem d_m7_10 : decode method_7_code 10 = .ok (.dup, 1) := by decide +kernel
theorem d_m7_11 : decode method_7_code 11 = .ok (.iconst 0, 1) := by decide +kernel
theorem d_m7_12 : decode method_7_code 12 = .ok (.iload_n 1, 1) := by decide +kernel
theorem d_m7_13 : decode method_7_code 13 = .ok (.castore, 1) := by decide +kernel
theorem d_m7_14 : decode method_7_code 14 = .ok (.dup, 1) := by decide +kernel
theorem d_m7_15 : decode method_7_code 15 = .ok (.iconst 1, 1) := by decide +kernel
theorem d_m7_16 : decode method_7_code 16 = .ok (.iload_n 1, 1) := by decide +kernel
theorem d_m7_17 : decode method_7_code 17 = .ok (.castore, 1) := by decide +kernel
theorem d_m7_18 : decode method_7_code 18 = .ok (.dup, 1) := by decide +kernel
theorem d_m7_19 : decode method_7_code 19 = .ok (.iconst 2, 1) := by decide +kernel
theorem d_m7_20 : decode method_7_code 20 = .ok (.iload_n 1, 1) := by decide +kernel
theorem d_m7_21 : decode method_7_code 21 = .ok (.castore, 1) := by decide +kernel
theorem d_m7_22 : decode method_7_code 22 = .ok (.dup, 1) := by decide +kernel
theorem d_m7_23 : decode method_7_code 23 = .ok (.iconst 3, 1) := by decide +kernel
theorem d_m7_24 : decode method_7_code 24 = .ok (.iload_n 1, 1) := by decide +kernel
theorem d_m7_25 : decode method_7_code 25 = .ok (.castore, 1) := by decide +kernel
theorem d_m7_26 : decode method_7_code 26 = .ok (.dup, 1) := by decide +kernel
theorem d_m7_27 : decode method_7_code 27 = .ok (.iconst 4, 1) := by decide +kernel
theorem d_m7_28 : decode method_7_code 28 = .ok (.iload_n 1, 1) := by decide +kernel
theorem d_m7_29 : decode method_7_code 29 = .ok (.castore, 1) := by decide +kernel
theorem d_m7_30 : decode method_7_code 30 = .ok (.dup, 1) := by decide +kernel
theorem d_m7_31 : decode method_7_code 31 = .ok (.iconst 5, 1) := by decide +kernel
theorem d_m7_32 : decode method_7_code 32 = .ok (.iload_n 1, 1) := by decide +kernel
theorem d_m7_33 : decode method_7_code 33 = .ok (.castore, 1) := by decide +kernel
theorem d_m7_34 : decode method_7_code 34 = .ok (.dup, 1) := by decide +kernel
theorem d_m7_35 : decode method_7_code 35 = .ok (.bipush 6, 2) := by decide +kernel
theorem d_m7_37 : decode method_7_code 37 = .ok (.iload_n 1, 1) := by decide +kernel
theorem d_m7_38 : decode method_7_code 38 = .ok (.castore, 1) := by decide +kernel
theorem d_m7_39 : decode method_7_code 39 = .ok (.dup, 1) := by decide +kernel
theorem d_m7_40 : decode method_7_code 40 = .ok (.bipush 7, 2) := by decide +kernel
theorem d_m7_42 : decode method_7_code 42 = .ok (.iload_n 1, 1) := by decide +kernel
theorem d_m7_43 : decode method_7_code 43 = .ok (.castore, 1) := by decide +kernel
theorem d_m7_44 : decode method_7_code 44 = .ok (.dup, 1) := by decide +kernel
theorem d_m7_45 : decode method_7_code 45 = .ok (.bipush 8, 2) := by decide +kernel
theorem d_m7_47 : decode method_7_code 47 = .ok (.iload_n 1, 1) := by decide +kernel
theorem d_m7_48 : decode method_7_code 48 = .ok (.castore, 1) := by decide +kernel
theorem d_m7_49 : decode method_7_code 49 = .ok (.dup, 1) := by decide +kernel
theorem d_m7_50 : decode method_7_code 50 = .ok (.bipush 9, 2) := by decide +kernel
theorem d_m7_52 : decode method_7_code 52 = .ok (.iload_n 1, 1) := by decide +kernel
theorem d_m7_53 : decode method_7_code 53 = .ok (.castore, 1) := by decide +kernel
theorem d_m7_54 : decode method_7_code 54 = .ok (.dup, 1) := by decide +kernel
theorem d_m7_55 : decode method_7_code 55 = .ok (.bipush 10, 2) := by decide +kernel
theorem d_m7_57 : decode method_7_code 57 = .ok (.iload_n 1, 1) := by decide +kernel
theorem d_m7_58 : decode method_7_code 58 = .ok (.castore, 1) := by decide +kernel
theorem d_m7_59 : decode method_7_code 59 = .ok (.dup, 1) := by decide +kernel
theorem d_m7_60 : decode method_7_code 60 = .ok (.bipush 11, 2) := by decide +kernel
theorem d_m7_62 : decode method_7_code 62 = .ok (.iload_n 1, 1) := by decide +kernel
theorem d_m7_63 : decode method_7_code 63 = .ok (.castore, 1) := by decide +kernel
theorem d_m7_64 : decode method_7_code 64 = .ok (.dup, 1) := by decide +kernel
theorem d_m7_65 : decode method_7_code 65 = .ok (.bipush 12, 2) := by decide +kernel
theorem d_m7_67 : decode method_7_code 67 = .ok (.iload_n 1, 1) := by decide +kernel
theorem d_m7_68 : decode method_7_code 68 = .ok (.castore, 1) := by decide +kernel
theorem d_m7_69 : decode method_7_code 69 = .ok (.dup, 1) := by decide +kernel
theorem d_m7_70 : decode method_7_code 70 = .ok (.bipush 13, 2) := by decide +kernel
theorem d_m7_72 : decode method_7_code 72 = .ok (.iload_n 1, 1) := by decide +kernel
theorem d_m7_73 : decode method_7_code 73 = .ok (.castore, 1) := by decide +kernel
theorem d_m7_74 : decode method_7_code 74 = .ok (.dup, 1) := by decide +kernel
theorem d_m7_75 : decode method_7_code 75 = .ok (.bipush 14, 2) := by decide +kernel
theorem d_m7_77 : decode method_7_code 77 = .ok (.iload_n 1, 1) := by decide +kernel
theorem d_m7_78 : decode method_7_code 78 = .ok (.castore, 1) := by decide +kernel
theorem d_m7_79 : decode method_7_code 79 = .ok (.dup, 1) := by decide +kernel
theorem d_m7_80 : decode method_7_code 80 = .ok (.bipush 15, 2) := by decide +kernel
theorem d_m7_82 : decode method_7_code 82 = .ok (.iload_n 1, 1) := by decide +kernel
theorem d_m7_83 : decode method_7_code 83 = .ok (.castore, 1) := by decide +kernel
theorem d_m7_84 : decode method_7_code 84 = .ok (.dup, 1) := by decide +kernel
theorem d_m7_85 : decode method_7_code 85 = .ok (.bipush 16, 2) := by decide +kernel
theorem d_m7_87 : decode method_7_code 87 = .ok (.iload_n 1, 1) := by decide +kernel
theorem d_m7_88 : decode method_7_code 88 = .ok (.castore, 1) := by decide +kernel
theorem d_m7_89 : decode method_7_code 89 = .ok (.dup, 1) := by decide +kernel
theorem d_m7_90 : decode method_7_code 90 = .ok (.bipush 17, 2) := by decide +kernel
theorem d_m7_92 : decode method_7_code 92 = .ok (.iload_n 1, 1) := by decide +kernel
theorem d_m7_93 : decode method_7_code 93 = .ok (.castore, 1) := by decide +kernel
theorem d_m7_94 : decode method_7_code 94 = .ok (.dup, 1) := by decide +kernel
theorem d_m7_95 : decode method_7_code 95 = .ok (.bipush 18, 2) := by decide +kernel
theorem d_m7_97 : decode method_7_code 97 = .ok (.iload_n 1, 1) := by decide +kernel
theorem d_m7_98 : decode method_7_code 98 = .ok (.castore, 1) := by decide +kernel
theorem d_m7_99 : decode method_7_code 99 = .ok (.dup, 1) := by decide +kernel
theorem d_m7_100 : decode method_7_code 100 = .ok (.bipush 19, 2) := by decide +kernel
theorem d_m7_102 : decode method_7_code 102 = .ok (.iload_n 1, 1) := by decide +kernel
theorem d_m7_103 : decode method_7_code 103 = .ok (.castore, 1) := by decide +kernel
theorem d_m7_104 : decode method_7_code 104 = .ok (.dup, 1) := by decide +kernel
theorem d_m7_105 : decode method_7_code 105 = .ok (.bipush 20, 2) := by decide +kernel
theorem d_m7_107 : decode method_7_code 107 = .ok (.iload_n 1, 1) := by decide +kernel
theorem d_m7_108 : decode method_7_code 108 = .ok (.castore, 1) := by decide +kernel
theorem d_m7_109 : decode method_7_code 109 = .ok (.dup, 1) := by decide +kernel
theorem d_m7_110 : decode method_7_code 110 = .ok (.bipush 21, 2) := by decide +kernel
theorem d_m7_112 : decode method_7_code 112 = .ok (.iload_n 1, 1) := by decide +kernel
theorem d_m7_113 : decode method_7_code 113 = .ok (.castore, 1) := by decide +kernel
theorem d_m7_114 : decode method_7_code 114 = .ok (.dup, 1) := by decide +kernel
theorem d_m7_115 : decode method_7_code 115 = .ok (.bipush 22, 2) := by decide +kernel
theorem d_m7_117 : decode method_7_code 117 = .ok (.iload_n 1, 1) := by decide +kernel
theorem d_m7_118 : decode method_7_code 118 = .ok (.castore, 1) := by decide +kernel
theorem d_m7_119 : decode method_7_code 119 = .ok (.dup, 1) := by decide +kernel
theorem d_m7_120 : decode method_7_code 120 = .ok (.bipush 23, 2) := by decide +kernel
theorem d_m7_122 : decode method_7_code 122 = .ok (.iload_n 1, 1) := by decide +kernel
theorem d_m7_123 : decode method_7_code 123 = .ok (.castore, 1) := by decide +kernel
theorem d_m7_124 : decode method_7_code 124 = .ok (.dup, 1) := by decide +kernel
theorem d_m7_125 : decode method_7_code 125 = .ok (.bipush 24, 2) := by decide +kernel
theorem d_m7_127 : decode method_7_code 127 = .ok (.iload_n 1, 1) := by decide +kernel
theorem d_m7_128 : decode method_7_code 128 = .ok (.castore, 1) := by decide +kernel
theorem d_m7_129 : decode method_7_code 129 = .ok (.dup, 1) := by decide +kernel
theorem d_m7_130 : decode method_7_code 130 = .ok (.bipush 25, 2) := by decide +kernel
theorem d_m7_132 : decode method_7_code 132 = .ok (.iload_n 1, 1) := by decide +kernel
theorem d_m7_133 : decode method_7_code 133 = .ok (.castore, 1) := by decide +kernel
theorem d_m7_134 : decode method_7_code 134 = .ok (.dup, 1) := by decide +kernel
theorem d_m7_135 : decode method_7_code 135 = .ok (.bipush 26, 2) := by decide +kernel
theorem d_m7_137 : decode method_7_code 137 = .ok (.iload_n 1, 1) := by decide +kernel
theorem d_m7_138 : decode method_7_code 138 = .ok (.castore, 1) := by decide +kernel
theorem d_m7_139 : decode method_7_code 139 = .ok (.dup, 1) := by decide +kernel
theorem d_m7_140 : decode method_7_code 140 = .ok (.bipush 27, 2) := by decide +kernel
theorem d_m7_142 : decode method_7_code 142 = .ok (.iload_n 1, 1) := by decide +kernel
theorem d_m7_143 : decode method_7_code 143 = .ok (.castore, 1) := by decide +kernel
theorem d_m7_144 : decode method_7_code 144 = .ok (.dup, 1) := by decide +kernel
theorem d_m7_145 : decode method_7_code 145 = .ok (.bipush 28, 2) := by decide +kernel
theorem d_m7_147 : decode method_7_code 147 = .ok (.iload_n 1, 1) := by decide +kernel
theorem d_m7_148 : decode method_7_code 148 = .ok (.castore, 1) := by decide +kernel
theorem d_m7_149 : decode method_7_code 149 = .ok (.dup, 1) := by decide +kernel
theorem d_m7_150 : decode method_7_code 150 = .ok (.bipush 29, 2) := by decide +kernel
theorem d_m7_152 : decode method_7_code 152 = .ok (.iload_n 1, 1) := by decide +kernel
theorem d_m7_153 : decode method_7_code 153 = .ok (.castore, 1) := by decide +kernel
theorem d_m7_154 : decode method_7_code 154 = .ok (.dup, 1) := by decide +kernel
theorem d_m7_155 : decode method_7_code 155 = .ok (.bipush 30, 2) := by decide +kernel
theorem d_m7_157 : decode method_7_code 157 = .ok (.iload_n 1, 1) := by decide +kernel
theorem d_m7_158 : decode method_7_code 158 = .ok (.castore, 1) := by decide +kernel
theorem d_m7_159 : decode method_7_code 159 = .ok (.dup, 1) := by decide +kernel
theorem d_m7_160 : decode method_7_code 160 = .ok (.bipush 31, 2) := by decide +kernel
theorem d_m7_162 : decode method_7_code 162 = .ok (.iload_n 1, 1) := by decide +kernel
theorem d_m7_163 : decode method_7_code 163 = .ok (.castore, 1) := by decide +kernel
theorem d_m7_164 : decode method_7_code 164 = .ok (.areturn, 1) := by decide +kernel
theorem d_m7_165 : decode method_7_code 165 = .ok (.iload_n 0, 1) := by decide +kernel
theorem d_m7_166 : decode method_7_code 166 = .ok (.bipush 40, 2) := by decide +kernel
theorem d_m7_168 : decode method_7_code 168 = .ok (.if_icmp .ne 202, 3) := by decide +kernel
theorem d_m7_171 : decode method_7_code 171 = .ok (.bipush 40, 2) := by decide +kernel
theorem d_m7_173 : decode method_7_code 173 = .ok (.newarray .char, 2) := by decide +kernel
theorem d_m7_175 : decode method_7_code 175 = .ok (.dup, 1) := by decide +kernel
theorem d_m7_176 : decode method_7_code 176 = .ok (.iconst 0, 1) := by decide +kernel
theorem d_m7_177 : decode method_7_code 177 = .ok (.iload_n 1, 1) := by decide +kernel
theorem d_m7_178 : decode method_7_code 178 = .ok (.castore, 1) := by decide +kernel
theorem d_m7_179 : decode method_7_code 179 = .ok (.dup, 1) := by decide +kernel
theorem d_m7_180 : decode method_7_code 180 = .ok (.iconst 1, 1) := by decide +kernel
theorem d_m7_181 : decode method_7_code 181 = .ok (.iload_n 1, 1) := by decide +kernel
theorem d_m7_182 : decode method_7_code 182 = .ok (.castore, 1) := by decide +kernel
theorem d_m7_183 : decode method_7_code 183 = .ok (.dup, 1) := by decide +kernel
theorem d_m7_184 : decode method_7_code 184 = .ok (.iconst 2, 1) := by decide +kernel
theorem d_m7_185 : decode method_7_code 185 = .ok (.iload_n 1, 1) := by decide +kernel
theorem d_m7_186 : decode method_7_code 186 = .ok (.castore, 1) := by decide +kernel
theorem d_m7_187 : decode method_7_code 187 = .ok (.dup, 1) := by decide +kernel
theorem d_m7_188 : decode method_7_code 188 = .ok (.iconst 3, 1) := by decide +kernel
theorem d_m7_189 : decode method_7_code 189 = .ok (.iload_n 1, 1) := by decide +kernel
theorem d_m7_190 : decode method_7_code 190 = .ok (.castore, 1) := by decide +kernel
theorem d_m7_191 : decode method_7_code 191 = .ok (.dup, 1) := by decide +kernel
theorem d_m7_192 : decode method_7_code 192 = .ok (.iconst 4, 1) := by decide +kernel
theorem d_m7_193 : decode method_7_code 193 = .ok (.iload_n 1, 1) := by decide +kernel
theorem d_m7_194 : decode method_7_code 194 = .ok (.castore, 1) := by decide +kernel
theorem d_m7_195 : decode method_7_code 195 = .ok (.dup, 1) := by decide +kernel
theorem d_m7_196 : decode method_7_code 196 = .ok (.iconst 5, 1) := by decide +kernel
theorem d_m7_197 : decode method_7_code 197 = .ok (.iload_n 1, 1) := by decide +kernel
theorem d_m7_198 : decode method_7_code 198 = .ok (.castore, 1) := by decide +kernel
theorem d_m7_199 : decode method_7_code 199 = .ok (.dup, 1) := by decide +kernel
theorem d_m7_200 : decode method_7_code 200 = .ok (.bipush 6, 2) := by decide +kernel
theorem d_m7_202 : decode method_7_code 202 = .ok (.iload_n 1, 1) := by decide +kernel
theorem d_m7_203 : decode method_7_code 203 = .ok (.castore, 1) := by decide +kernel
theorem d_m7_204 : decode method_7_code 204 = .ok (.dup, 1) := by decide +kernel
theorem d_m7_205 : decode method_7_code 205 = .ok (.bipush 7, 2) := by decide +kernel
theorem d_m7_207 : decode method_7_code 207 = .ok (.iload_n 1, 1) := by decide +kernel
theorem d_m7_208 : decode method_7_code 208 = .ok (.castore, 1) := by decide +kernel
theorem d_m7_209 : decode method_7_code 209 = .ok (.dup, 1) := by decide +kernel
theorem d_m7_210 : decode method_7_code 210 = .ok (.bipush 8, 2) := by decide +kernel
theorem d_m7_212 : decode method_7_code 212 = .ok (.iload_n 1, 1) := by decide +kernel
theorem d_m7_213 : decode method_7_code 213 = .ok (.castore, 1) := by decide +kernel
theorem d_m7_214 : decode method_7_code 214 = .ok (.dup, 1) := by decide +kernel
theorem d_m7_215 : decode method_7_code 215 = .ok (.bipush 9, 2) := by decide +kernel
theorem d_m7_217 : decode method_7_code 217 = .ok (.iload_n 1, 1) := by decide +kernel
theorem d_m7_218 : decode method_7_code 218 = .ok (.castore, 1) := by decide +kernel
theorem d_m7_219 : decode method_7_code 219 = .ok (.dup, 1) := by decide +kernel
theorem d_m7_220 : decode method_7_code 220 = .ok (.bipush 10, 2) := by decide +kernel
theorem d_m7_222 : decode method_7_code 222 = .ok (.iload_n 1, 1) := by decide +kernel
theorem d_m7_223 : decode method_7_code 223 = .ok (.castore, 1) := by decide +kernel
theorem d_m7_224 : decode method_7_code 224 = .ok (.dup, 1) := by decide +kernel
theorem d_m7_225 : decode method_7_code 225 = .ok (.bipush 11, 2) := by decide +kernel
theorem d_m7_227 : decode method_7_code 227 = .ok (.iload_n 1, 1) := by decide +kernel
theorem d_m7_228 : decode method_7_code 228 = .ok (.castore, 1) := by decide +kernel
theorem d_m7_229 : decode method_7_code 229 = .ok (.dup, 1) := by decide +kernel
theorem d_m7_230 : decode method_7_code 230 = .ok (.bipush 12, 2) := by decide +kernel
theorem d_m7_232 : decode method_7_code 232 = .ok (.iload_n 1, 1) := by decide +kernel
theorem d_m7_233 : decode method_7_code 233 = .ok (.castore, 1) := by decide +kernel
theorem d_m7_234 : decode method_7_code 234 = .ok (.dup, 1) := by decide +kernel
theorem d_m7_235 : decode method_7_code 235 = .ok (.bipush 13, 2) := by decide +kernel
theorem d_m7_237 : decode method_7_code 237 = .ok (.iload_n 1, 1) := by decide +kernel
theorem d_m7_238 : decode method_7_code 238 = .ok (.castore, 1) := by decide +kernel
theorem d_m7_239 : decode method_7_code 239 = .ok (.dup, 1) := by decide +kernel
theorem d_m7_240 : decode method_7_code 240 = .ok (.bipush 14, 2) := by decide +kernel
theorem d_m7_242 : decode method_7_code 242 = .ok (.iload_n 1, 1) := by decide +kernel
theorem d_m7_243 : decode method_7_code 243 = .ok (.castore, 1) := by decide +kernel
theorem d_m7_244 : decode method_7_code 244 = .ok (.dup, 1) := by decide +kernel
theorem d_m7_245 : decode method_7_code 245 = .ok (.bipush 15, 2) := by decide +kernel
theorem d_m7_247 : decode method_7_code 247 = .ok (.iload_n 1, 1) := by decide +kernel
theorem d_m7_248 : decode method_7_code 248 = .ok (.castore, 1) := by decide +kernel
theorem d_m7_249 : decode method_7_code 249 = .ok (.dup, 1) := by decide +kernel
theorem d_m7_250 : decode method_7_code 250 = .ok (.bipush 16, 2) := by decide +kernel
theorem d_m7_252 : decode method_7_code 252 = .ok (.iload_n 1, 1) := by decide +kernel
theorem d_m7_253 : decode method_7_code 253 = .ok (.castore, 1) := by decide +kernel
theorem d_m7_254 : decode method_7_code 254 = .ok (.dup, 1) := by decide +kernel
theorem d_m7_255 : decode method_7_code 255 = .ok (.bipush 17, 2) := by decide +kernel
theorem d_m7_257 : decode method_7_code 257 = .ok (.iload_n 1, 1) := by decide +kernel
theorem d_m7_258 : decode method_7_code 258 = .ok (.castore, 1) := by decide +kernel
theorem d_m7_259 : decode method_7_code 259 = .ok (.dup, 1) := by decide +kernel
theorem d_m7_260 : decode method_7_code 260 = .ok (.bipush 18, 2) := by decide +kernel
theorem d_m7_262 : decode method_7_code 262 = .ok (.iload_n 1, 1) := by decide +kernel
theorem d_m7_263 : decode method_7_code 263 = .ok (.castore, 1) := by decide +kernel
theorem d_m7_264 : decode method_7_code 264 = .ok (.dup, 1) := by decide +kernel
theorem d_m7_265 : decode method_7_code 265 = .ok (.bipush 19, 2) := by decide +kernel
theorem d_m7_267 : decode method_7_code 267 = .ok (.iload_n 1, 1) := by decide +kernel
theorem d_m7_268 : decode method_7_code 268 = .ok (.castore, 1) := by decide +kernel
theorem d_m7_269 : decode method_7_code 269 = .ok (.dup, 1) := by decide +kernel
theorem d_m7_270 : decode method_7_code 270 = .ok (.bipush 20, 2) := by decide +kernel
theorem d_m7_272 : decode method_7_code 272 = .ok (.iload_n 1, 1) := by decide +kernel
theorem d_m7_273 : decode method_7_code 273 = .ok (.castore, 1) := by decide +kernel
theorem d_m7_274 : decode method_7_code 274 = .ok (.dup, 1) := by decide +kernel
theorem d_m7_275 : decode method_7_code 275 = .ok (.bipush 21, 2) := by decide +kernel
theorem d_m7_277 : decode method_7_code 277 = .ok (.iload_n 1, 1) := by decide +kernel
theorem d_m7_278 : decode method_7_code 278 = .ok (.castore, 1) := by decide +kernel
theorem d_m7_279 : decode method_7_code 279 = .ok (.dup, 1) := by decide +kernel
theorem d_m7_280 : decode method_7_code 280 = .ok (.bipush 22, 2) := by decide +kernel
theorem d_m7_282 : decode method_7_code 282 = .ok (.iload_n 1, 1) := by decide +kernel
theorem d_m7_283 : decode method_7_code 283 = .ok (.castore, 1) := by decide +kernel
theorem d_m7_284 : decode method_7_code 284 = .ok (.dup, 1) := by decide +kernel
theorem d_m7_285 : decode method_7_code 285 = .ok (.bipush 23, 2) := by decide +kernel
theorem d_m7_287 : decode method_7_code 287 = .ok (.iload_n 1, 1) := by decide +kernel
theorem d_m7_288 : decode method_7_code 288 = .ok (.castore, 1) := by decide +kernel
theorem d_m7_289 : decode method_7_code 289 = .ok (.dup, 1) := by decide +kernel
theorem d_m7_290 : decode method_7_code 290 = .ok (.bipush 24, 2) := by decide +kernel
theorem d_m7_292 : decode method_7_code 292 = .ok (.iload_n 1, 1) := by decide +kernel
theorem d_m7_293 : decode method_7_code 293 = .ok (.castore, 1) := by decide +kernel
theorem d_m7_294 : decode method_7_code 294 = .ok (.dup, 1) := by decide +kernel
theorem d_m7_295 : decode method_7_code 295 = .ok (.bipush 25, 2) := by decide +kernel
theorem d_m7_297 : decode method_7_code 297 = .ok (.iload_n 1, 1) := by decide +kernel
theorem d_m7_298 : decode method_7_code 298 = .ok (.castore, 1) := by decide +kernel
theorem d_m7_299 : decode method_7_code 299 = .ok (.dup, 1) := by decide +kernel
theorem d_m7_300 : decode method_7_code 300 = .ok (.bipush 26, 2) := by decide +kernel
theorem d_m7_302 : decode method_7_code 302 = .ok (.iload_n 1, 1) := by decide +kernel
theorem d_m7_303 : decode method_7_code 303 = .ok (.castore, 1) := by decide +kernel
theorem d_m7_304 : decode method_7_code 304 = .ok (.dup, 1) := by decide +kernel
theorem d_m7_305 : decode method_7_code 305 = .ok (.bipush 27, 2) := by decide +kernel
theorem d_m7_307 : decode method_7_code 307 = .ok (.iload_n 1, 1) := by decide +kernel
theorem d_m7_308 : decode method_7_code 308 = .ok (.castore, 1) := by decide +kernel
theorem d_m7_309 : decode method_7_code 309 = .ok (.dup, 1) := by decide +kernel
theorem d_m7_310 : decode method_7_code 310 = .ok (.bipush 28, 2) := by decide +kernel
theorem d_m7_312 : decode method_7_code 312 = .ok (.iload_n 1, 1) := by decide +kernel
theorem d_m7_313 : decode method_7_code 313 = .ok (.castore, 1) := by decide +kernel
theorem d_m7_314 : decode method_7_code 314 = .ok (.dup, 1) := by decide +kernel
theorem d_m7_315 : decode method_7_code 315 = .ok (.bipush 29, 2) := by decide +kernel
theorem d_m7_317 : decode method_7_code 317 = .ok (.iload_n 1, 1) := by decide +kernel
theorem d_m7_318 : decode method_7_code 318 = .ok (.castore, 1) := by decide +kernel
theorem d_m7_319 : decode method_7_code 319 = .ok (.dup, 1) := by decide +kernel
theorem d_m7_320 : decode method_7_code 320 = .ok (.bipush 30, 2) := by decide +kernel
theorem d_m7_322 : decode method_7_code 322 = .ok (.iload_n 1, 1) := by decide +kernel
theorem d_m7_323 : decode method_7_code 323 = .ok (.castore, 1) := by decide +kernel
theorem d_m7_324 : decode method_7_code 324 = .ok (.dup, 1) := by decide +kernel
theorem d_m7_325 : decode method_7_code 325 = .ok (.bipush 31, 2) := by decide +kernel
theorem d_m7_327 : decode method_7_code 327 = .ok (.iload_n 1, 1) := by decide +kernel
theorem d_m7_328 : decode method_7_code 328 = .ok (.castore, 1) := by decide +kernel
theorem d_m7_329 : decode method_7_code 329 = .ok (.dup, 1) := by decide +kernel
theorem d_m7_330 : decode method_7_code 330 = .ok (.bipush 32, 2) := by decide +kernel
theorem d_m7_332 : decode method_7_code 332 = .ok (.iload_n 1, 1) := by decide +kernel
theorem d_m7_333 : decode method_7_code 333 = .ok (.castore, 1) := by decide +kernel
theorem d_m7_334 : decode method_7_code 334 = .ok (.dup, 1) := by decide +kernel
theorem d_m7_335 : decode method_7_code 335 = .ok (.bipush 33, 2) := by decide +kernel
theorem d_m7_337 : decode method_7_code 337 = .ok (.iload_n 1, 1) := by decide +kernel
theorem d_m7_338 : decode method_7_code 338 = .ok (.castore, 1) := by decide +kernel
theorem d_m7_339 : decode method_7_code 339 = .ok (.dup, 1) := by decide +kernel
theorem d_m7_340 : decode method_7_code 340 = .ok (.bipush 34, 2) := by decide +kernel
theorem d_m7_342 : decode method_7_code 342 = .ok (.iload_n 1, 1) := by decide +kernel
theorem d_m7_343 : decode method_7_code 343 = .ok (.castore, 1) := by decide +kernel
theorem d_m7_344 : decode method_7_code 344 = .ok (.dup, 1) := by decide +kernel
theorem d_m7_345 : decode method_7_code 345 = .ok (.bipush 35, 2) := by decide +kernel
theorem d_m7_347 : decode method_7_code 347 = .ok (.iload_n 1, 1) := by decide +kernel
theorem d_m7_348 : decode method_7_code 348 = .ok (.castore, 1) := by decide +kernel
theorem d_m7_349 : decode method_7_code 349 = .ok (.dup, 1) := by decide +kernel
theorem d_m7_350 : decode method_7_code 350 = .ok (.bipush 36, 2) := by decide +kernel
theorem d_m7_352 : decode method_7_code 352 = .ok (.iload_n 1, 1) := by decide +kernel
theorem d_m7_353 : decode method_7_code 353 = .ok (.castore, 1) := by decide +kernel
theorem d_m7_354 : decode method_7_code 354 = .ok (.dup, 1) := by decide +kernel
theorem d_m7_355 : decode method_7_code 355 = .ok (.bipush 37, 2) := by decide +kernel
theorem d_m7_357 : decode method_7_code 357 = .ok (.iload_n 1, 1) := by decide +kernel
theorem d_m7_358 : decode method_7_code 358 = .ok (.castore, 1) := by decide +kernel
theorem d_m7_359 : decode method_7_code 359 = .ok (.dup, 1) := by decide +kernel
theorem d_m7_360 : decode method_7_code 360 = .ok (.bipush 38, 2) := by decide +kernel
theorem d_m7_362 : decode method_7_code 362 = .ok (.iload_n 1, 1) := by decide +kernel
theorem d_m7_363 : decode method_7_code 363 = .ok (.castore, 1) := by decide +kernel
theorem d_m7_364 : decode method_7_code 364 = .ok (.dup, 1) := by decide +kernel
theorem d_m7_365 : decode method_7_code 365 = .ok (.bipush 39, 2) := by decide +kernel
theorem d_m7_367 : decode method_7_code 367 = .ok (.iload_n 1, 1) := by decide +kernel
theorem d_m7_368 : decode method_7_code 368 = .ok (.castore, 1) := by decide +kernel
theorem d_m7_369 : decode method_7_code 369 = .ok (.areturn, 1) := by decide +kernel
theorem d_m7_370 : decode method_7_code 370 = .ok (.bipush 64, 2) := by decide +kernel
theorem d_m7_372 : decode method_7_code 372 = .ok (.newarray .char, 2) := by decide +kernel
theorem d_m7_374 : decode method_7_code 374 = .ok (.dup, 1) := by decide +kernel
theorem d_m7_375 : decode method_7_code 375 = .ok (.iconst 0, 1) := by decide +kernel
theorem d_m7_376 : decode method_7_code 376 = .ok (.iload_n 1, 1) := by decide +kernel
theorem d_m7_377 : decode method_7_code 377 = .ok (.castore, 1) := by decide +kernel
theorem d_m7_378 : decode method_7_code 378 = .ok (.dup, 1) := by decide +kernel
theorem d_m7_379 : decode method_7_code 379 = .ok (.iconst 1, 1) := by decide +kernel
theorem d_m7_380 : decode method_7_code 380 = .ok (.iload_n 1, 1) := by decide +kernel
theorem d_m7_381 : decode method_7_code 381 = .ok (.castore, 1) := by decide +kernel
theorem d_m7_382 : decode method_7_code 382 = .ok (.dup, 1) := by decide +kernel
theorem d_m7_383 : decode method_7_code 383 = .ok (.iconst 2, 1) := by decide +kernel
theorem d_m7_384 : decode method_7_code 384 = .ok (.iload_n 1, 1) := by decide +kernel
theorem d_m7_385 : decode method_7_code 385 = .ok (.castore, 1) := by decide +kernel
theorem d_m7_386 : decode method_7_code 386 = .ok (.dup, 1) := by decide +kernel
theorem d_m7_387 : decode method_7_code 387 = .ok (.iconst 3, 1) := by decide +kernel
theorem d_m7_388 : decode method_7_code 388 = .ok (.iload_n 1, 1) := by decide +kernel
theorem d_m7_389 : decode method_7_code 389 = .ok (.castore, 1) := by decide +kernel
theorem d_m7_390 : decode method_7_code 390 = .ok (.dup, 1) := by decide +kernel
theorem d_m7_391 : decode method_7_code 391 = .ok (.iconst 4, 1) := by decide +kernel
theorem d_m7_392 : decode method_7_code 392 = .ok (.iload_n 1, 1) := by decide +kernel
theorem d_m7_393 : decode method_7_code 393 = .ok (.castore, 1) := by decide +kernel
theorem d_m7_394 : decode method_7_code 394 = .ok (.dup, 1) := by decide +kernel
theorem d_m7_395 : decode method_7_code 395 = .ok (.iconst 5, 1) := by decide +kernel
theorem d_m7_396 : decode method_7_code 396 = .ok (.iload_n 1, 1) := by decide +kernel
theorem d_m7_397 : decode method_7_code 397 = .ok (.castore, 1) := by decide +kernel
theorem d_m7_398 : decode method_7_code 398 = .ok (.dup, 1) := by decide +kernel
theorem d_m7_399 : decode method_7_code 399 = .ok (.bipush 6, 2) := by decide +kernel
theorem d_m7_401 : decode method_7_code 401 = .ok (.iload_n 1, 1) := by decide +kernel
theorem d_m7_402 : decode method_7_code 402 = .ok (.castore, 1) := by decide +kernel
theorem d_m7_403 : decode method_7_code 403 = .ok (.dup, 1) := by decide +kernel
theorem d_m7_404 : decode method_7_code 404 = .ok (.bipush 7, 2) := by decide +kernel
theorem d_m7_406 : decode method_7_code 406 = .ok (.iload_n 1, 1) := by decide +kernel
theorem d_m7_407 : decode method_7_code 407 = .ok (.castore, 1) := by decide +kernel
theorem d_m7_408 : decode method_7_code 408 = .ok (.dup, 1) := by decide +kernel
theorem d_m7_409 : decode method_7_code 409 = .ok (.bipush 8, 2) := by decide +kernel
theorem d_m7_411 : decode method_7_code 411 = .ok (.iload_n 1, 1) := by decide +kernel
theorem d_m7_412 : decode method_7_code 412 = .ok (.castore, 1) := by decide +kernel
theorem d_m7_413 : decode method_7_code 413 = .ok (.dup, 1) := by decide +kernel
theorem d_m7_414 : decode method_7_code 414 = .ok (.bipush 9, 2) := by decide +kernel
theorem d_m7_416 : decode method_7_code 416 = .ok (.iload_n 1, 1) := by decide +kernel
theorem d_m7_417 : decode method_7_code 417 = .ok (.castore, 1) := by decide +kernel
theorem d_m7_418 : decode method_7_code 418 = .ok (.dup, 1) := by decide +kernel
theorem d_m7_419 : decode method_7_code 419 = .ok (.bipush 10, 2) := by decide +kernel
theorem d_m7_421 : decode method_7_code 421 = .ok (.iload_n 1, 1) := by decide +kernel
theorem d_m7_422 : decode method_7_code 422 = .ok (.castore, 1) := by decide +kernel
theorem d_m7_423 : decode method_7_code 423 = .ok (.dup, 1) := by decide +kernel
theorem d_m7_424 : decode method_7_code 424 = .ok (.bipush 11, 2) := by decide +kernel
theorem d_m7_426 : decode method_7_code 426 = .ok (.iload_n 1, 1) := by decide +kernel
theorem d_m7_427 : decode method_7_code 427 = .ok (.castore, 1) := by decide +kernel
theorem d_m7_428 : decode method_7_code 428 = .ok (.dup, 1) := by decide +kernel
theorem d_m7_429 : decode method_7_code 429 = .ok (.bipush 12, 2) := by decide +kernel
theorem d_m7_431 : decode method_7_code 431 = .ok (.iload_n 1, 1) := by decide +kernel
theorem d_m7_432 : decode method_7_code 432 = .ok (.castore, 1) := by decide +kernel
theorem d_m7_433 : decode method_7_code 433 = .ok (.dup, 1) := by decide +kernel
theorem d_m7_434 : decode method_7_code 434 = .ok (.bipush 13, 2) := by decide +kernel
theorem d_m7_436 : decode method_7_code 436 = .ok (.iload_n 1, 1) := by decide +kernel
theorem d_m7_437 : decode method_7_code 437 = .ok (.castore, 1) := by decide +kernel
theorem d_m7_438 : decode method_7_code 438 = .ok (.dup, 1) := by decide +kernel
theorem d_m7_439 : decode method_7_code 439 = .ok (.bipush 14, 2) := by decide +kernel
theorem d_m7_441 : decode method_7_code 441 = .ok (.iload_n 1, 1) := by decide +kernel
theorem d_m7_442 : decode method_7_code 442 = .ok (.castore, 1) := by decide +kernel
theorem d_m7_443 : decode method_7_code 443 = .ok (.dup, 1) := by decide +kernel
theorem d_m7_444 : decode method_7_code 444 = .ok (.bipush 15, 2) := by decide +kernel
theorem d_m7_446 : decode method_7_code 446 = .ok (.iload_n 1, 1) := by decide +kernel
theorem d_m7_447 : decode method_7_code 447 = .ok (.castore, 1) := by decide +kernel
theorem d_m7_448 : decode method_7_code 448 = .ok (.dup, 1) := by decide +kernel
theorem d_m7_449 : decode method_7_code 449 = .ok (.bipush 16, 2) := by decide +kernel
theorem d_m7_451 : decode method_7_code 451 = .ok (.iload_n 1, 1) := by decide +kernel
theorem d_m7_452 : decode method_7_code 452 = .ok (.castore, 1) := by decide +kernel
theorem d_m7_453 : decode method_7_code 453 = .ok (.dup, 1) := by decide +kernel
theorem d_m7_454 : decode method_7_code 454 = .ok (.bipush 17, 2) := by decide +kernel
theorem d_m7_456 : decode method_7_code 456 = .ok (.iload_n 1, 1) := by decide +kernel
theorem d_m7_457 : decode method_7_code 457 = .ok (.castore, 1) := by decide +kernel
theorem d_m7_458 : decode method_7_code 458 = .ok (.dup, 1) := by decide +kernel
theorem d_m7_459 : decode method_7_code 459 = .ok (.bipush 18, 2) := by decide +kernel
theorem d_m7_461 : decode method_7_code 461 = .ok (.iload_n 1, 1) := by decide +kernel
theorem d_m7_462 : decode method_7_code 462 = .ok (.castore, 1) := by decide +kernel
theorem d_m7_463 : decode method_7_code 463 = .ok (.dup, 1) := by decide +kernel
theorem d_m7_464 : decode method_7_code 464 = .ok (.bipush 19, 2) := by decide +kernel
theorem d_m7_466 : decode method_7_code 466 = .ok (.iload_n 1, 1) := by decide +kernel
theorem d_m7_467 : decode method_7_code 467 = .ok (.castore, 1) := by decide +kernel
theorem d_m7_468 : decode method_7_code 468 = .ok (.dup, 1) := by decide +kernel
theorem d_m7_469 : decode method_7_code 469 = .ok (.bipush 20, 2) := by decide +kernel
theorem d_m7_471 : decode method_7_code 471 = .ok (.iload_n 1, 1) := by decide +kernel
theorem d_m7_472 : decode method_7_code 472 = .ok (.castore, 1) := by decide +kernel
theorem d_m7_473 : decode method_7_code 473 = .ok (.dup, 1) := by decide +kernel
theorem d_m7_474 : decode method_7_code 474 = .ok (.bipush 21, 2) := by decide +kernel
theorem d_m7_476 : decode method_7_code 476 = .ok (.iload_n 1, 1) := by decide +kernel
theorem d_m7_477 : decode method_7_code 477 = .ok (.castore, 1) := by decide +kernel
theorem d_m7_478 : decode method_7_code 478 = .ok (.dup, 1) := by decide +kernel
theorem d_m7_479 : decode method_7_code 479 = .ok (.bipush 22, 2) := by decide +kernel
theorem d_m7_481 : decode method_7_code 481 = .ok (.iload_n 1, 1) := by decide +kernel
theorem d_m7_482 : decode method_7_code 482 = .ok (.castore, 1) := by decide +kernel
theorem d_m7_483 : decode method_7_code 483 = .ok (.dup, 1) := by decide +kernel
theorem d_m7_484 : decode method_7_code 484 = .ok (.bipush 23, 2) := by decide +kernel
theorem d_m7_486 : decode method_7_code 486 = .ok (.iload_n 1, 1) := by decide +kernel
theorem d_m7_487 : decode method_7_code 487 = .ok (.castore, 1) := by decide +kernel
theorem d_m7_488 : decode method_7_code 488 = .ok (.dup, 1) := by decide +kernel
theorem d_m7_489 : decode method_7_code 489 = .ok (.bipush 24, 2) := by decide +kernel
theorem d_m7_491 : decode method_7_code 491 = .ok (.iload_n 1, 1) := by decide +kernel
theorem d_m7_492 : decode method_7_code 492 = .ok (.castore, 1) := by decide +kernel
theorem d_m7_493 : decode method_7_code 493 = .ok (.dup, 1) := by decide +kernel
theorem d_m7_494 : decode method_7_code 494 = .ok (.bipush 25, 2) := by decide +kernel
theorem d_m7_496 : decode method_7_code 496 = .ok (.iload_n 1, 1) := by decide +kernel
theorem d_m7_497 : decode method_7_code 497 = .ok (.castore, 1) := by decide +kernel
theorem d_m7_498 : decode method_7_code 498 = .ok (.dup, 1) := by decide +kernel
theorem d_m7_499 : decode method_7_code 499 = .ok (.bipush 26, 2) := by decide +kernel
theorem d_m7_501 : decode method_7_code 501 = .ok (.iload_n 1, 1) := by decide +kernel
theorem d_m7_502 : decode method_7_code 502 = .ok (.castore, 1) := by decide +kernel
theorem d_m7_503 : decode method_7_code 503 = .ok (.dup, 1) := by decide +kernel
theorem d_m7_504 : decode method_7_code 504 = .ok (.bipush 27, 2) := by decide +kernel
theorem d_m7_506 : decode method_7_code 506 = .ok (.iload_n 1, 1) := by decide +kernel
theorem d_m7_507 : decode method_7_code 507 = .ok (.castore, 1) := by decide +kernel
theorem d_m7_508 : decode method_7_code 508 = .ok (.dup, 1) := by decide +kernel
theorem d_m7_509 : decode method_7_code 509 = .ok (.bipush 28, 2) := by decide +kernel
theorem d_m7_511 : decode method_7_code 511 = .ok (.iload_n 1, 1) := by decide +kernel
theorem d_m7_512 : decode method_7_code 512 = .ok (.castore, 1) := by decide +kernel
theorem d_m7_513 : decode method_7_code 513 = .ok (.dup, 1) := by decide +kernel
theorem d_m7_514 : decode method_7_code 514 = .ok (.bipush 29, 2) := by decide +kernel
theorem d_m7_516 : decode method_7_code 516 = .ok (.iload_n 1, 1) := by decide +kernel
theorem d_m7_517 : decode method_7_code 517 = .ok (.castore, 1) := by decide +kernel
theorem d_m7_518 : decode method_7_code 518 = .ok (.dup, 1) := by decide +kernel
theorem d_m7_519 : decode method_7_code 519 = .ok (.bipush 30, 2) := by decide +kernel
theorem d_m7_521 : decode method_7_code 521 = .ok (.iload_n 1, 1) := by decide +kernel
theorem d_m7_522 : decode method_7_code 522 = .ok (.castore, 1) := by decide +kernel
theorem d_m7_523 : decode method_7_code 523 = .ok (.dup, 1) := by decide +kernel
theorem d_m7_524 : decode method_7_code 524 = .ok (.bipush 31, 2) := by decide +kernel
theorem d_m7_526 : decode method_7_code 526 = .ok (.iload_n 1, 1) := by decide +kernel
theorem d_m7_527 : decode method_7_code 527 = .ok (.castore, 1) := by decide +kernel
theorem d_m7_528 : decode method_7_code 528 = .ok (.dup, 1) := by decide +kernel
theorem d_m7_529 : decode method_7_code 529 = .ok (.bipush 32, 2) := by decide +kernel
theorem d_m7_531 : decode method_7_code 531 = .ok (.iload_n 1, 1) := by decide +kernel
theorem d_m7_532 : decode method_7_code 532 = .ok (.castore, 1) := by decide +kernel
theorem d_m7_533 : decode method_7_code 533 = .ok (.dup, 1) := by decide +kernel
theorem d_m7_534 : decode method_7_code 534 = .ok (.bipush 33, 2) := by decide +kernel
theorem d_m7_536 : decode method_7_code 536 = .ok (.iload_n 1, 1) := by decide +kernel
theorem d_m7_537 : decode method_7_code 537 = .ok (.castore, 1) := by decide +kernel
theorem d_m7_538 : decode method_7_code 538 = .ok (.dup, 1) := by decide +kernel
theorem d_m7_539 : decode method_7_code 539 = .ok (.bipush 34, 2) := by decide +kernel
theorem d_m7_541 : decode method_7_code 541 = .ok (.iload_n 1, 1) := by decide +kernel
theorem d_m7_542 : decode method_7_code 542 = .ok (.castore, 1) := by decide +kernel
theorem d_m7_543 : decode method_7_code 543 = .ok (.dup, 1) := by decide +kernel
theorem d_m7_544 : decode method_7_code 544 = .ok (.bipush 35, 2) := by decide +kernel
theorem d_m7_546 : decode method_7_code 546 = .ok (.iload_n 1, 1) := by decide +kernel
theorem d_m7_547 : decode method_7_code 547 = .ok (.castore, 1) := by decide +kernel
theorem d_m7_548 : decode method_7_code 548 = .ok (.dup, 1) := by decide +kernel
theorem d_m7_549 : decode method_7_code 549 = .ok (.bipush 36, 2) := by decide +kernel
theorem d_m7_551 : decode method_7_code 551 = .ok (.iload_n 1, 1) := by decide +kernel
theorem d_m7_552 : decode method_7_code 552 = .ok (.castore, 1) := by decide +kernel
theorem d_m7_553 : decode method_7_code 553 = .ok (.dup, 1) := by decide +kernel
theorem d_m7_554 : decode method_7_code 554 = .ok (.bipush 37, 2) := by decide +kernel
theorem d_m7_556 : decode method_7_code 556 = .ok (.iload_n 1, 1) := by decide +kernel
theorem d_m7_557 : decode method_7_code 557 = .ok (.castore, 1) := by decide +kernel
theorem d_m7_558 : decode method_7_code 558 = .ok (.dup, 1) := by decide +kernel
theorem d_m7_559 : decode method_7_code 559 = .ok (.bipush 38, 2) := by decide +kernel
theorem d_m7_561 : decode method_7_code 561 = .ok (.iload_n 1, 1) := by decide +kernel
theorem d_m7_562 : decode method_7_code 562 = .ok (.castore, 1) := by decide +kernel
theorem d_m7_563 : decode method_7_code 563 = .ok (.dup, 1) := by decide +kernel
theorem d_m7_564 : decode method_7_code 564 = .ok (.bipush 39, 2) := by decide +kernel
theorem d_m7_566 : decode method_7_code 566 = .ok (.iload_n 1, 1) := by decide +kernel
theorem d_m7_567 : decode method_7_code 567 = .ok (.castore, 1) := by decide +kernel
theorem d_m7_568 : decode method_7_code 568 = .ok (.dup, 1) := by decide +kernel
theorem d_m7_569 : decode method_7_code 569 = .ok (.bipush 40, 2) := by decide +kernel
theorem d_m7_571 : decode method_7_code 571 = .ok (.iload_n 1, 1) := by decide +kernel
theorem d_m7_572 : decode method_7_code 572 = .ok (.castore, 1) := by decide +kernel
theorem d_m7_573 : decode method_7_code 573 = .ok (.dup, 1) := by decide +kernel
theorem d_m7_574 : decode method_7_code 574 = .ok (.bipush 41, 2) := by decide +kernel
theorem d_m7_576 : decode method_7_code 576 = .ok (.iload_n 1, 1) := by decide +kernel
theorem d_m7_577 : decode method_7_code 577 = .ok (.castore, 1) := by decide +kernel
theorem d_m7_578 : decode method_7_code 578 = .ok (.dup, 1) := by decide +kernel
theorem d_m7_579 : decode method_7_code 579 = .ok (.bipush 42, 2) := by decide +kernel
theorem d_m7_581 : decode method_7_code 581 = .ok (.iload_n 1, 1) := by decide +kernel
theorem d_m7_582 : decode method_7_code 582 = .ok (.castore, 1) := by decide +kernel
theorem d_m7_583 : decode method_7_code 583 = .ok (.dup, 1) := by decide +kernel
theorem d_m7_584 : decode method_7_code 584 = .ok (.bipush 43, 2) := by decide +kernel
theorem d_m7_586 : decode method_7_code 586 = .ok (.iload_n 1, 1) := by decide +kernel
theorem d_m7_587 : decode method_7_code 587 = .ok (.castore, 1) := by decide +kernel
theorem d_m7_588 : decode method_7_code 588 = .ok (.dup, 1) := by decide +kernel
theorem d_m7_589 : decode method_7_code 589 = .ok (.bipush 44, 2) := by decide +kernel
theorem d_m7_591 : decode method_7_code 591 = .ok (.iload_n 1, 1) := by decide +kernel
theorem d_m7_592 : decode method_7_code 592 = .ok (.castore, 1) := by decide +kernel
theorem d_m7_593 : decode method_7_code 593 = .ok (.dup, 1) := by decide +kernel
theorem d_m7_594 : decode method_7_code 594 = .ok (.bipush 45, 2) := by decide +kernel
theorem d_m7_596 : decode method_7_code 596 = .ok (.iload_n 1, 1) := by decide +kernel
theorem d_m7_597 : decode method_7_code 597 = .ok (.castore, 1) := by decide +kernel
theorem d_m7_598 : decode method_7_code 598 = .ok (.dup, 1) := by decide +kernel
theorem d_m7_599 : decode method_7_code 599 = .ok (.bipush 46, 2) := by decide +kernel
theorem d_m7_601 : decode method_7_code 601 = .ok (.iload_n 1, 1) := by decide +kernel
theorem d_m7_602 : decode method_7_code 602 = .ok (.castore, 1) := by decide +kernel
theorem d_m7_603 : decode method_7_code 603 = .ok (.dup, 1) := by decide +kernel
theorem d_m7_604 : decode method_7_code 604 = .ok (.bipush 47, 2) := by decide +kernel
theorem d_m7_606 : decode method_7_code 606 = .ok (.iload_n 1, 1) := by decide +kernel
theorem d_m7_607 : decode method_7_code 607 = .ok (.castore, 1) := by decide +kernel
theorem d_m7_608 : decode method_7_code 608 = .ok (.dup, 1) := by decide +kernel
theorem d_m7_609 : decode method_7_code 609 = .ok (.bipush 48, 2) := by decide +kernel
theorem d_m7_611 : decode method_7_code 611 = .ok (.iload_n 1, 1) := by decide +kernel
theorem d_m7_612 : decode method_7_code 612 = .ok (.castore, 1) := by decide +kernel
theorem d_m7_613 : decode method_7_code 613 = .ok (.dup, 1) := by decide +kernel
theorem d_m7_614 : decode method_7_code 614 = .ok (.bipush 49, 2) := by decide +kernel
theorem d_m7_616 : decode method_7_code 616 = .ok (.iload_n 1, 1) := by decide +kernel
theorem d_m7_617 : decode method_7_code 617 = .ok (.castore, 1) := by decide +kernel
theorem d_m7_618 : decode method_7_code 618 = .ok (.dup, 1) := by decide +kernel
theorem d_m7_619 : decode method_7_code 619 = .ok (.bipush 50, 2) := by decide +kernel
theorem d_m7_621 : decode method_7_code 621 = .ok (.iload_n 1, 1) := by decide +kernel
theorem d_m7_622 : decode method_7_code 622 = .ok (.castore, 1) := by decide +kernel
theorem d_m7_623 : decode method_7_code 623 = .ok (.dup, 1) := by decide +kernel
theorem d_m7_624 : decode method_7_code 624 = .ok (.bipush 51, 2) := by decide +kernel
theorem d_m7_626 : decode method_7_code 626 = .ok (.iload_n 1, 1) := by decide +kernel
theorem d_m7_627 : decode method_7_code 627 = .ok (.castore, 1) := by decide +kernel
theorem d_m7_628 : decode method_7_code 628 = .ok (.dup, 1) := by decide +kernel
theorem d_m7_629 : decode method_7_code 629 = .ok (.bipush 52, 2) := by decide +kernel
theorem d_m7_631 : decode method_7_code 631 = .ok (.iload_n 1, 1) := by decide +kernel
theorem d_m7_632 : decode method_7_code 632 = .ok (.castore, 1) := by decide +kernel
theorem d_m7_633 : decode method_7_code 633 = .ok (.dup, 1) := by decide +kernel
theorem d_m7_634 : decode method_7_code 634 = .ok (.bipush 53, 2) := by decide +kernel
theorem d_m7_636 : decode method_7_code 636 = .ok (.iload_n 1, 1) := by decide +kernel
theorem d_m7_637 : decode method_7_code 637 = .ok (.castore, 1) := by decide +kernel
theorem d_m7_638 : decode method_7_code 638 = .ok (.dup, 1) := by decide +kernel
theorem d_m7_639 : decode method_7_code 639 = .ok (.bipush 54, 2) := by decide +kernel
theorem d_m7_641 : decode method_7_code 641 = .ok (.iload_n 1, 1) := by decide +kernel
theorem d_m7_642 : decode method_7_code 642 = .ok (.castore, 1) := by decide +kernel
theorem d_m7_643 : decode method_7_code 643 = .ok (.dup, 1) := by decide +kernel
theorem d_m7_644 : decode method_7_code 644 = .ok (.bipush 55, 2) := by decide +kernel
theorem d_m7_646 : decode method_7_code 646 = .ok (.iload_n 1, 1) := by decide +kernel
theorem d_m7_647 : decode method_7_code 647 = .ok (.castore, 1) := by decide +kernel
theorem d_m7_648 : decode method_7_code 648 = .ok (.dup, 1) := by decide +kernel
theorem d_m7_649 : decode method_7_code 649 = .ok (.bipush 56, 2) := by decide +kernel
theorem d_m7_651 : decode method_7_code 651 = .ok (.iload_n 1, 1) := by decide +kernel
theorem d_m7_652 : decode method_7_code 652 = .ok (.castore, 1) := by decide +kernel
theorem d_m7_653 : decode method_7_code 653 = .ok (.dup, 1) := by decide +kernel
theorem d_m7_654 : decode method_7_code 654 = .ok (.bipush 57, 2) := by decide +kernel
theorem d_m7_656 : decode method_7_code 656 = .ok (.iload_n 1, 1) := by decide +kernel
theorem d_m7_657 : decode method_7_code 657 = .ok (.castore, 1) := by decide +kernel
theorem d_m7_658 : decode method_7_code 658 = .ok (.dup, 1) := by decide +kernel
theorem d_m7_659 : decode method_7_code 659 = .ok (.bipush 58, 2) := by decide +kernel
theorem d_m7_661 : decode method_7_code 661 = .ok (.iload_n 1, 1) := by decide +kernel
theorem d_m7_662 : decode method_7_code 662 = .ok (.castore, 1) := by decide +kernel
theorem d_m7_663 : decode method_7_code 663 = .ok (.dup, 1) := by decide +kernel
theorem d_m7_664 : decode method_7_code 664 = .ok (.bipush 59, 2) := by decide +kernel
theorem d_m7_666 : decode method_7_code 666 = .ok (.iload_n 1, 1) := by decide +kernel
theorem d_m7_667 : decode method_7_code 667 = .ok (.castore, 1) := by decide +kernel
theorem d_m7_668 : decode method_7_code 668 = .ok (.dup, 1) := by decide +kernel
theorem d_m7_669 : decode method_7_code 669 = .ok (.bipush 60, 2) := by decide +kernel
theorem d_m7_671 : decode method_7_code 671 = .ok (.iload_n 1, 1) := by decide +kernel
theorem d_m7_672 : decode method_7_code 672 = .ok (.castore, 1) := by decide +kernel
theorem d_m7_673 : decode method_7_code 673 = .ok (.dup, 1) := by decide +kernel
theorem d_m7_674 : decode method_7_code 674 = .ok (.bipush 61, 2) := by decide +kernel
theorem d_m7_676 : decode method_7_code 676 = .ok (.iload_n 1, 1) := by decide +kernel
theorem d_m7_677 : decode method_7_code 677 = .ok (.castore, 1) := by decide +kernel
theorem d_m7_678 : decode method_7_code 678 = .ok (.dup, 1) := by decide +kernel
theorem d_m7_679 : decode method_7_code 679 = .ok (.bipush 62, 2) := by decide +kernel
theorem d_m7_681 : decode method_7_code 681 = .ok (.iload_n 1, 1) := by decide +kernel
theorem d_m7_682 : decode method_7_code 682 = .ok (.castore, 1) := by decide +kernel
theorem d_m7_683 : decode method_7_code 683 = .ok (.dup, 1) := by decide +kernel
theorem d_m7_684 : decode method_7_code 684 = .ok (.bipush 63, 2) := by decide +kernel
theorem d_m7_686 : decode method_7_code 686 = .ok (.iload_n 1, 1) := by decide +kernel
theorem d_m7_687 : decode method_7_code 687 = .ok (.castore, 1) := by decide +kernel
theorem d_m7_688 : decode method_7_code 688 = .ok (.areturn, 1) := by decide +kernel
theorem d_prog_21_m1_0 : decode prog_21_method_1_code 0 = .ok (.aload_n 0, 1) := by decide +kernel
theorem d_prog_21_m1_1 : decode prog_21_method_1_code 1 = .ok (.invokespecial 1, 3) := by decide +kernel
theorem d_prog_21_m1_4 : decode prog_21_method_1_code 4 = .ok (.aload_n 1, 1) := by decide +kernel
theorem d_prog_21_m1_5 : decode prog_21_method_1_code 5 = .ok (.aload_n 2, 1) := by decide +kernel
theorem d_prog_21_m1_6 : decode prog_21_method_1_code 6 = .ok (.invokevirtual 7, 3) := by decide +kernel
theorem d_prog_21_m1_9 : decode prog_21_method_1_code 9 = .ok (.ifCond .ne 20, 3) := by decide +kernel
theorem d_prog_21_m1_29 : decode prog_21_method_1_code 29 = .ok (.aload_n 0, 1) := by decide +kernel
theorem d_prog_21_m1_30 : decode prog_21_method_1_code 30 = .ok (.aload_n 1, 1) := by decide +kernel
theorem d_prog_21_m1_31 : decode prog_21_method_1_code 31 = .ok (.putfield 28, 3) := by decide +kernel
theorem d_prog_21_m1_34 : decode prog_21_method_1_code 34 = .ok (.aload_n 0, 1) := by decide +kernel
theorem d_prog_21_m1_35 : decode prog_21_method_1_code 35 = .ok (.aload_n 2, 1) := by decide +kernel
theorem d_prog_21_m1_36 : decode prog_21_method_1_code 36 = .ok (.putfield 34, 3) := by decide +kernel
theorem d_prog_21_m1_39 : decode prog_21_method_1_code 39 = .ok (.return_, 1) := by decide +kernel
theorem pn22 : plainName "com/example/campo_grande/campogrande/PayloadDigest" = true := by first | (simp [plainName, overriddenIn]; done) | decide +kernel
theorem d_prog_21_m5_0 : decode prog_21_method_5_code 0 = .ok (.aload_n 1, 1) := by decide +kernel
theorem d_prog_21_m5_1 : decode prog_21_method_5_code 1 = .ok (.instanceof 29, 3) := by decide +kernel
theorem d_prog_21_m5_4 : decode prog_21_method_5_code 4 = .ok (.ifCond .eq 37, 3) := by decide +kernel
theorem d_prog_21_m5_7 : decode prog_21_method_5_code 7 = .ok (.aload_n 1, 1) := by decide +kernel
theorem d_prog_21_m5_8 : decode prog_21_method_5_code 8 = .ok (.checkcast 29, 3) := by decide +kernel
theorem d_prog_21_m5_11 : decode prog_21_method_5_code 11 = .ok (.astore_n 2, 1) := by decide +kernel
theorem d_prog_21_m5_12 : decode prog_21_method_5_code 12 = .ok (.aload_n 0, 1) := by decide +kernel
theorem d_prog_21_m5_13 : decode prog_21_method_5_code 13 = .ok (.getfield 28, 3) := by decide +kernel
theorem d_prog_21_m5_16 : decode prog_21_method_5_code 16 = .ok (.aload_n 2, 1) := by decide +kernel
theorem d_prog_21_m5_17 : decode prog_21_method_5_code 17 = .ok (.getfield 28, 3) := by decide +kernel
theorem d_prog_21_m5_20 : decode prog_21_method_5_code 20 = .ok (.if_acmp .ne 21, 3) := by decide +kernel
theorem d_prog_21_m5_23 : decode prog_21_method_5_code 23 = .ok (.aload_n 0, 1) := by decide +kernel
theorem d_prog_21_m5_24 : decode prog_21_method_5_code 24 = .ok (.getfield 34, 3) := by decide +kernel
theorem d_prog_21_m5_27 : decode prog_21_method_5_code 27 = .ok (.aload_n 2, 1) := by decide +kernel
theorem d_prog_21_m5_28 : decode prog_21_method_5_code 28 = .ok (.getfield 34, 3) := by decide +kernel
theorem d_prog_21_m5_31 : decode prog_21_method_5_code 31 = .ok (.invokevirtual 107, 3) := by decide +kernel
theorem pd23 : parseMethodDescriptor "(Ljava/lang/Object;)Z" = some ⟨[(.object "java/lang/Object")], some .boolean⟩ := by decide +kernel
theorem d_prog_21_m5_34 : decode prog_21_method_5_code 34 = .ok (.ifCond .eq 7, 3) := by decide +kernel
theorem d_prog_21_m5_41 : decode prog_21_method_5_code 41 = .ok (.iconst 0, 1) := by decide +kernel
theorem d_prog_21_m5_42 : decode prog_21_method_5_code 42 = .ok (.ireturn, 1) := by decide +kernel
theorem d_prog_21_m5_37 : decode prog_21_method_5_code 37 = .ok (.iconst 1, 1) := by decide +kernel
theorem d_prog_21_m5_38 : decode prog_21_method_5_code 38 = .ok (.goto 4, 3) := by decide +kernel
theorem pd24 : parseMethodDescriptor "(IC)[C" = some ⟨[.int, .char], some (.array .char)⟩ := by decide +kernel
theorem pd25 : parseMethodDescriptor "([C)V" = some ⟨[(.array .char)], none⟩ := by decide +kernel
theorem pd26 : parseMethodDescriptor "(Lcom/example/campo_grande/campogrande/SignatureAlgorithm;Ljava/lang/String;)V" = some ⟨[(.object "com/example/campo_grande/campogrande/SignatureAlgorithm"), (.object "java/lang/String")], none⟩ := by decide +kernel
theorem pd27 : parseMethodDescriptor "(ILcom/example/campo_grande/campogrande/SignatureAlgorithm;Ljava/lang/String;I)V" = some ⟨[.int, (.object "com/example/campo_grande/campogrande/SignatureAlgorithm"), (.object "java/lang/String"), .int], none⟩ := by decide +kernel
theorem pd28 : parseMethodDescriptor "(I)I" = some ⟨[.int], some .int⟩ := by decide +kernel
theorem pd29 : parseMethodDescriptor "(I)Lcom/example/campo_grande/campogrande/SignatureAlgorithm;" = some ⟨[.int], some (.object "com/example/campo_grande/campogrande/SignatureAlgorithm")⟩ := by decide +kernel

theorem lat0 : Lat [] := fun _ q => nomatch q
theorem latS {c : Int32} {cs : List Int32} (h : 0 ≤ c.toInt ∧ c.toInt ≤ 255) (L : Lat cs) : Lat (c :: cs) := fun x q => (List.mem_cons.mp q).elim (fun z => z ▸ h) (L x)
theorem m255 (x : Int32) : 0 ≤ (x &&& (255 : Int32)).toInt ∧ (x &&& (255 : Int32)).toInt ≤ 255 := c_and x 255 (by decide)
theorem t32s (i : Nat) : i.toInt32 + 1 = (i + 1).toInt32 := by
  show Int32.ofNat i + 1 = Int32.ofNat (i + 1)
  rw [Int32.ofNat_add]; rfl
theorem lo8_lo8 (x : Int32) : nar .byte x.toInt8.toInt32 = x.toInt8.toInt32 := by simp [nar]
theorem ge255 {cs : List Int32} (L : Lat cs) {i : Nat} (hi : i < cs.length) : ¬ (255 : Int32) < cs[i] := by
  have := (L _ (List.getElem_mem hi)).2
  rw [Int32.lt_iff_toInt_lt]; have e : (255 : Int32).toInt = 255 := rfl; omega
theorem cmp_set {cs : List Int32} {vs : List Value} {i : Nat} (hi : i < cs.length) (hv : vs.length = cs.length) : (by8 (cs.take i) ++ vs.drop i).set i (.int cs[i].toInt8.toInt32) = by8 (cs.take (i + 1)) ++ vs.drop (i + 1) := by
  have h1 : (by8 (cs.take i)).length = i := by simp; omega
  rw [List.set_append_right _ _ (by omega), h1, Nat.sub_self, List.drop_eq_getElem_cons (by omega : i < vs.length), List.set_cons_zero, List.take_succ_eq_append_getElem hi]
  simp only [by8, List.map_append, List.map_cons, List.map_nil, List.append_assoc, List.cons_append, List.nil_append]
theorem lt32 {a b : Nat} (ha : a < 2 ^ 31) (hb : b < 2 ^ 31) : a.toInt32 < b.toInt32 ↔ a < b := by
  rw [Int32.lt_iff_toInt_lt, (len32 ha).2.2, (len32 hb).2.2]; omega
theorem eq32 {a b : Nat} (ha : a < 2 ^ 31) (hb : b < 2 ^ 31) : a.toInt32 = b.toInt32 ↔ a = b := by
  rw [← Int32.toInt_inj, (len32 ha).2.2, (len32 hb).2.2]; omega

theorem shr0 (x : Int32) : x >>> ((0 : Int32) &&& 31) = x := by
  have e : (0 : Int32) &&& 31 = 0 := by decide
  rw [e]; simp
theorem lo8m {x : Int32} (h : 0 ≤ x.toInt ∧ x.toInt ≤ 255) : x.toInt8.toInt32 &&& (255 : Int32) = x := by
  apply Int32.toInt_inj.mp
  have e1 := c_mask x.toInt8.toInt32 255 8 (by decide) (by decide)
  rw [e1]
  have e2 := c_i2b x
  omega
theorem i2cx {x : Int32} (h : 0 ≤ x.toInt ∧ x.toInt ≤ 65535) : x.toUInt32.toUInt16.toUInt32.toInt32 = x := by
  apply Int32.toInt_inj.mp
  have e2 := c_i2c x
  omega
theorem narc {x : Int32} (h : 0 ≤ x.toInt ∧ x.toInt ≤ 65535) : narrow .char (.int x) = .int x := by
  show Value.int _ = _
  rw [i2cx h]
theorem Own.Lat.at {cs : List Int32} (L : Lat cs) {i : Nat} (hi : i < cs.length) : 0 ≤ (cs.getD i 0).toInt ∧ (cs.getD i 0).toInt ≤ 255 := by
  rw [List.getD_eq_getElem?_getD, List.getElem?_eq_getElem hi]; exact L _ (List.getElem_mem hi)
theorem to16 {x : Int} (h : 0 ≤ x ∧ x ≤ 255) : 0 ≤ x ∧ x ≤ 65535 := by omega
theorem by8_at {cs : List Int32} {i : Nat} (hi : i < cs.length) : (by8 cs)[i.toInt32.toNatClampNeg]? = some (.int (cs.getD i 0).toInt8.toInt32) ↔ i.toInt32.toNatClampNeg = i ∨ (by8 cs)[i.toInt32.toNatClampNeg]? = some (.int (cs.getD i 0).toInt8.toInt32) := by
  constructor
  · exact Or.inr
  · rintro (h | h)
    · rw [h]; simp [hi]
    · exact h
theorem by8_get {cs : List Int32} {i : Nat} (hi : i < cs.length) (hl : cs.length < 2 ^ 31) : (by8 cs)[i.toInt32.toNatClampNeg]? = some (.int (cs.getD i 0).toInt8.toInt32) := (by8_at hi).mpr (Or.inl (len32 (by omega)).2.1)
theorem lo8_inj {x y : Int32} (h : 0 ≤ x.toInt ∧ x.toInt ≤ 255) (h' : 0 ≤ y.toInt ∧ y.toInt ≤ 255) (q : x.toInt8.toInt32 = y.toInt8.toInt32) : x = y := by
  rw [← lo8m h, ← lo8m h', q]
theorem take_step {cs ds : List Int32} {i : Nat} (h : cs.take i = ds.take i) (hi : i < cs.length) (hj : i < ds.length) (e : cs.getD i 0 = ds.getD i 0) : cs.take (i + 1) = ds.take (i + 1) := by
  rw [List.take_succ_eq_append_getElem hi, List.take_succ_eq_append_getElem hj, h]
  rw [List.getD_eq_getElem?_getD, List.getElem?_eq_getElem hi, List.getD_eq_getElem?_getD, List.getElem?_eq_getElem hj] at e
  have e' : cs[i] = ds[i] := e
  rw [e']
theorem ite1 {P : Prop} [Decidable P] (h : P) : (1 : Int32) = if P then 1 else 0 := (if_pos h).symm
theorem ite0 {P : Prop} [Decidable P] (h : ¬ P) : (0 : Int32) = if P then 1 else 0 := (if_neg h).symm
theorem narb {P : Prop} [Decidable P] : narrow .boolean (.int (if P then (1 : Int32) else 0)) = .int (if P then (1 : Int32) else 0) := by split <;> decide


def eOf (e0 e1 e2 : Addr) (i : Int32) : Addr := if i = 0 then e0 else if i = 1 then e1 else e2
def dlOf (i : Int32) : Int32 := if i = 0 then 32 else if i = 1 then 20 else 16
def i3 (i : Int32) : Prop := i = 0 ∨ i = 1 ∨ i = 2
theorem eOf_exa {Z : State} {h : Heap} {e0 e1 e2 : Addr} {C : String} (i : Int32) (E0 : Exa Z h e0 C) (E1 : Exa Z h e1 C) (E2 : Exa Z h e2 C) : Exa Z h (eOf e0 e1 e2 i) C := by
  unfold eOf; split
  · exact E0
  · split
    · exact E1
    · exact E2
theorem eOf_fld {Z : State} {h : Heap} {e0 e1 e2 : Addr} {C n d : String} (i : Int32) (E0 : Fld Z h e0 C n d (.int 32)) (E1 : Fld Z h e1 C n d (.int 20)) (E2 : Fld Z h e2 C n d (.int 16)) : Fld Z h (eOf e0 e1 e2 i) C n d (.int (dlOf i)) := by
  unfold eOf dlOf; split
  · exact E0
  · split
    · exact E1
    · exact E2
theorem eOf_inj {Z : State} {h : Heap} {e0 e1 e2 : Addr} {C n d : String} {i j : Int32} (E0 : Fld Z h e0 C n d (.int 32)) (E1 : Fld Z h e1 C n d (.int 20)) (E2 : Fld Z h e2 C n d (.int 16)) (hi : i3 i) (hj : i3 j) (q : eOf e0 e1 e2 i = eOf e0 e1 e2 j) : i = j := by
  have n1 : e0 ≠ e1 := Fld.ne E0 E1 (by simp)
  have n2 : e0 ≠ e2 := Fld.ne E0 E2 (by simp)
  have n3 : e1 ≠ e2 := Fld.ne E1 E2 (by simp)
  have d10 : ¬ (1 : Int32) = 0 := by decide
  have d20 : ¬ (2 : Int32) = 0 := by decide
  have d21 : ¬ (2 : Int32) = 1 := by decide
  rcases hi with rfl | rfl | rfl <;> rcases hj with rfl | rfl | rfl <;> simp only [eOf, d10, d20, d21, if_true, if_false] at q <;> first | rfl | exact absurd q n1 | exact absurd q n2 | exact absurd q n3 | exact absurd q n1.symm | exact absurd q n2.symm | exact absurd q n3.symm
def HexC (c : Int32) : Prop := (48 ≤ c.toInt ∧ c.toInt ≤ 57) ∨ (97 ≤ c.toInt ∧ c.toInt ≤ 102)
theorem hex_lat {cs : List Int32} (H : ∀ c ∈ cs, HexC c) : Lat cs := fun c hc => by rcases H c hc with h | h <;> omega
theorem hex_at {cs : List Int32} (H : ∀ c ∈ cs, HexC c) {i : Nat} (hi : i < cs.length) : HexC (cs.getD i 0) := by
  rw [List.getD_eq_getElem?_getD, List.getElem?_eq_getElem hi]; exact H _ (List.getElem_mem hi)
theorem mod3 (x : Int32) : i3 ((x &&& (3 : Int32)) % (3 : Int32)) := by
  have h1 := c_mask x 3 2 (by decide) (by decide)
  have h2 := (c_irem (x &&& 3) 3 3 (by decide)).1 (by rw [h1]; omega)
  have e0 : (0 : Int32).toInt = 0 := rfl
  have e1 : (1 : Int32).toInt = 1 := rfl
  have e2 : (2 : Int32).toInt = 2 := rfl
  have : ((x &&& (3 : Int32)) % (3 : Int32)).toInt = 0 ∨ ((x &&& (3 : Int32)) % (3 : Int32)).toInt = 1 ∨ ((x &&& (3 : Int32)) % (3 : Int32)).toInt = 2 := by omega
  rcases this with q | q | q
  · exact Or.inl (Int32.toInt_inj.mp (q.trans e0.symm))
  · exact Or.inr (Or.inl (Int32.toInt_inj.mp (q.trans e1.symm)))
  · exact Or.inr (Or.inr (Int32.toInt_inj.mp (q.trans e2.symm)))
theorem pos31 (x : Int32) : ¬ (x &&& (2147483647 : Int32)) < 0 := by
  have := (c_and x 2147483647 (by decide)).1
  rw [Int32.lt_iff_toInt_lt]; have e0 : (0 : Int32).toInt = 0 := rfl; omega

def lnOf (i : Int32) : Int32 := if i = 0 then 64 else if i = 1 then 40 else 32
def lnN (i : Int32) : Nat := if i = 0 then 64 else if i = 1 then 40 else 32
def mkL (i d : Int32) (p : Nat) (e : Int32) : List Int32 := (List.replicate (lnN i) d).set p e
def hxd (n : Int32) : Int32 := if n < 10 then 48 + n else 97 + (n - 10)
def hexd (v : Int32) : Int32 := hxd (v &&& (15 : Int32))
theorem m15 (n : Int32) : 0 ≤ (n &&& (15 : Int32)).toInt ∧ (n &&& (15 : Int32)).toInt ≤ 15 := c_and n 15 (by decide)
theorem hxdT : ∀ m : Fin 16, HexC (hxd (Int32.ofNat m.1)) := by unfold HexC; decide +kernel
theorem hexd_hex (v : Int32) : HexC (hexd v) := by
  obtain ⟨m, hm⟩ : ∃ m : Fin 16, (v &&& (15 : Int32)) = Int32.ofNat m.1 := by
    have h := m15 v
    refine ⟨⟨(v &&& (15 : Int32)).toInt.toNat, by omega⟩, Int32.toInt_inj.mp ?_⟩
    show (v &&& (15 : Int32)).toInt = (((v &&& (15 : Int32)).toInt.toNat).toInt32).toInt
    rw [(len32 (by omega)).2.2]; omega
  unfold hexd; rw [hm]; exact hxdT m
theorem hex_rng {c : Int32} (h : HexC c) : 0 ≤ c.toInt ∧ c.toInt ≤ 255 := by rcases h with h | h <;> omega
theorem hex_nar {c : Int32} (h : HexC c) : nar .char c = c := i2cx (to16 (hex_rng h))
theorem idx3 (x : Int32) : i3 ((x &&& (2147483647 : Int32)) % (3 : Int32)) := by
  have h1 := (c_and x 2147483647 (by decide))
  have h2 := (c_irem (x &&& 2147483647) 3 3 (by decide)).1 h1.1
  have e0 : (0 : Int32).toInt = 0 := rfl
  have e1 : (1 : Int32).toInt = 1 := rfl
  have e2 : (2 : Int32).toInt = 2 := rfl
  have : ((x &&& (2147483647 : Int32)) % (3 : Int32)).toInt = 0 ∨ ((x &&& (2147483647 : Int32)) % (3 : Int32)).toInt = 1 ∨ ((x &&& (2147483647 : Int32)) % (3 : Int32)).toInt = 2 := by omega
  rcases this with q | q | q
  · exact Or.inl (Int32.toInt_inj.mp (q.trans e0.symm))
  · exact Or.inr (Or.inl (Int32.toInt_inj.mp (q.trans e1.symm)))
  · exact Or.inr (Or.inr (Int32.toInt_inj.mp (q.trans e2.symm)))
theorem ln_nz {i : Int32} (hi : i3 i) : lnOf i ≠ 0 := by rcases hi with rfl | rfl | rfl <;> decide
theorem lnN_le {i : Int32} (hi : i3 i) : 0 < lnN i ∧ lnN i ≤ 64 := by rcases hi with rfl | rfl | rfl <;> decide
theorem ln_to {i : Int32} (hi : i3 i) : (lnOf i).toInt = lnN i := by rcases hi with rfl | rfl | rfl <;> decide
theorem ln_dl {i : Int32} (hi : i3 i) : (lnN i).toInt32 = (2 : Int32) * dlOf i := by rcases hi with rfl | rfl | rfl <;> decide
theorem lnN32 {i : Int32} (hi : i3 i) (q : lnOf i = 32) : lnN i = 32 := by rcases hi with rfl | rfl | rfl <;> first | rfl | exact absurd q (by decide)
theorem lnN40 {i : Int32} (hi : i3 i) (q : lnOf i = 40) : lnN i = 40 := by rcases hi with rfl | rfl | rfl <;> first | rfl | exact absurd q (by decide)
theorem lnN64 {i : Int32} (hi : i3 i) (q : ¬ lnOf i = 32) (q' : ¬ lnOf i = 40) : lnN i = 64 := by rcases hi with rfl | rfl | rfl <;> first | rfl | exact absurd rfl q | exact absurd rfl q'
def Ps (i p : Int32) : Prop := ¬ p < 0 ∧ p.toNatClampNeg < lnN i
theorem ps {i : Int32} (hi : i3 i) (x : Int32) : Ps i ((x &&& (2147483647 : Int32)) % lnOf i) := by
  have h1 := (c_and x 2147483647 (by decide))
  have h2 := (c_irem (x &&& 2147483647) (lnOf i) (lnN i) (ln_to hi)).1 h1.1
  have h3 := lnN_le hi
  have hr : 0 ≤ ((x &&& (2147483647 : Int32)) % lnOf i).toInt ∧ ((x &&& (2147483647 : Int32)) % lnOf i).toInt < lnN i := by
    rw [h2]; exact ⟨Int.emod_nonneg _ (by omega), Int.emod_lt_of_pos _ (by omega)⟩
  refine ⟨by rw [Int32.lt_iff_toInt_lt]; have e0 : (0 : Int32).toInt = 0 := rfl; omega, ?_⟩
  simp only [Int32.toNatClampNeg]; omega
theorem mkL_len (i d e : Int32) (p : Nat) : (mkL i d p e).length = lnN i := by simp [mkL]
theorem mkL_hex {i d e : Int32} (p : Nat) (hd : HexC d) (he : HexC e) : ∀ c ∈ mkL i d p e, HexC c := by
  intro c hc
  rcases List.mem_or_eq_of_mem_set hc with h | h
  · rw [List.eq_of_mem_replicate h]; exact hd
  · rw [h]; exact he
theorem mkL_at {i d e : Int32} {p q : Nat} (hq : q < lnN i) : (mkL i d p e)[q]? = some (if p = q then e else d) := by
  unfold mkL
  rw [List.getElem?_set]
  split
  · rename_i h; subst h; simp [hq]
  · rename_i h; rw [List.getElem?_replicate]; simp [hq]
theorem mkL_eq {i d e e' : Int32} {p p' : Nat} (hp : p < lnN i) (hp' : p' < lnN i) : mkL i d p e = mkL i d p' e' ↔ (if p = p' then e = e' else e = d ∧ e' = d) := by
  constructor
  · intro q
    have q1 : (mkL i d p e)[p]? = (mkL i d p' e')[p]? := by rw [q]
    have q2 : (mkL i d p e)[p']? = (mkL i d p' e')[p']? := by rw [q]
    rw [mkL_at hp, mkL_at hp] at q1
    rw [mkL_at hp', mkL_at hp'] at q2
    split
    · rename_i h; subst h; simpa using q1
    · rename_i h
      simp only [h, Ne.symm h, if_true, if_false, Option.some.injEq, if_neg (Ne.symm h)] at q1 q2
      exact ⟨q1, q2.symm⟩
  · intro q
    split at q
    · rename_i h; subst h; rw [q]
    · obtain ⟨rfl, rfl⟩ := q
      have z : ∀ k, mkL i e' k e' = List.replicate (lnN i) e' := by
        intro k
        unfold mkL
        apply List.ext_getElem?
        intro n
        rw [List.getElem?_set]
        split
        · rename_i h; subst h
          rw [List.getElem?_replicate, List.length_replicate]
        · rfl
      rw [z, z]
theorem p_nat {i p p' : Int32} (h : Ps i p) (h' : Ps i p') : p.toNatClampNeg = p'.toNatClampNeg ↔ p = p' := by
  constructor
  · intro q
    have h1 := h.1; have h2 := h'.1
    rw [Int32.lt_iff_toInt_lt] at h1 h2
    have e0 : (0 : Int32).toInt = 0 := rfl
    simp only [Int32.toNatClampNeg] at q
    exact Int32.toInt_inj.mp (by omega)
  · intro q; rw [q]
def Pex (e0 e1 e2 : Addr) (i1 i2 d c1 c2 p1 p2 : Int32) : Prop := eOf e0 e1 e2 i1 = eOf e0 e1 e2 i2 ∧ mkL i1 d p1.toNatClampNeg c1 = mkL i2 d p2.toNatClampNeg c2
theorem ifc {a b : Addr} {c d : List Int32} : (if b = a ∧ d = c then (1 : Int32) else 0) = (if a = b ∧ c = d then (1 : Int32) else 0) := by simp only [eq_comm]

abbrev c_cmp5_q (Z : State) (zC : Int32) (fS : Value) (e0 : Addr) (e1 : Addr) (e2 : Addr) (h : Heap) (B : Addr → Prop) (a d : Addr) (cs : List Int32) (vs : List Value) (xR : Value) (h' : Heap) : Prop := xR = (.int cs.length.toInt32) ∧ Keep h h' [d] ∧ Ar Z h' d .byte (by8 cs)
def c_cmp5_rm : Room := { frames := 0, cells := 0, slots := 0, locals := 0 }
set_option maxRecDepth 65536 in
set_option maxHeartbeats 40000000 in
theorem c_cmp5 {l : Launch} {Z : State} {a0 : Array Value} {zC : Int32} {fS : Value} {e0 : Addr} {e1 : Addr} {e2 : Addr} {h : Heap} {B : Addr → Prop} {a d : Addr} {cs : List Int32} {vs : List Value} (G : Gl Z a0 zC fS e0 e1 e2) (hE : En Z B h) (P0 : Ar Z h a .char (cs.map Value.int)) (P1 : Ar Z h d .byte vs) (P2 : Lat cs) (P3 : vs.length = cs.length) (P4 : Z.heap.size ≤ d) (P5 : ¬ B d) : Con l Z [] [] (⟨"java/lang/StringUTF16", "compress", "([CI[BII)I"⟩ : MethodName) jdk_52_method_21_code 7 (some .int) c_cmp5_rm B h #[(.ref a), (.int (0 : Int32)), (.ref d), (.int (0 : Int32)), (.int cs.length.toInt32)] (fun vR hR BR => ∃ xR, vR = some xR ∧ BR = B ∧ c_cmp5_q Z zC fS e0 e1 e2 h B a d cs vs xR hR) := by
  have hz0 := hE.1.1
  refine Con.intro (ls := #[.val (.ref a), .val (.int (0 : Int32)), .val (.ref d), .val (.int (0 : Int32)), .val (.int cs.length.toInt32), .unset, .unset]) (plainFor_of_name pn0) G.2.1 hE (fun m => by first | rfl | (simp [entryFrame, mkF, argsToLocals, Value.category]; done) | rfl) ?_
  intro p e s m below meth c T hs X
  have hL := P0.len_lt; rw [List.length_map] at hL
  have hne : a ≠ d := ar_ne P0 P1 (by decide)
  have loop : ∀ (r i : Nat) (T : State) (h1 : Heap) (o : Slot), i + r = cs.length → (o = .unset ∨ ∃ x, o = .val (.int x)) → Wk l Z [] (⟨"java/lang/StringUTF16", "compress", "([CI[BII)I"⟩ : MethodName) jdk_52_method_21_code 7 (some .int) c_cmp5_rm B p e s m #[(.ref a), (.int (0 : Int32)), (.ref d), (.int (0 : Int32)), (.int cs.length.toInt32)] below meth c B T h1 0 0 → Keep h h1 [d] → Ar Z h1 a .char (cs.map Value.int) → Ar Z h1 d .byte (by8 (cs.take i) ++ vs.drop i) → Go l Z [] c_cmp5_rm B (fun vR hR BR => ∃ xR, vR = some xR ∧ BR = B ∧ c_cmp5_q Z zC fS e0 e1 e2 h B a d cs vs xR hR) p e s m below T 3 #[.val (.ref a), .val (.int i.toInt32), .val (.ref d), .val (.int i.toInt32), .val (.int cs.length.toInt32), .val (.int i.toInt32), o] [] := by
    intro r
    induction r with
    | zero =>
      intro i T h1 o hi ho X K A D
      obtain rfl : i = cs.length := by omega
      have D : Ar Z h1 d .byte (by8 cs) := by simpa [P3, List.drop_eq_nil_of_le] using D
      refine W.iload (pc' := 5) X d_jdk_52_m21_3 rfl rfl ?_
      refine W.iload (pc' := 7) X d_jdk_52_m21_5 rfl rfl ?_
      refine W.icT (pc' := 44) X d_jdk_52_m21_7 (XT.ii_ge_t (fun q => by rw [Int32.lt_iff_toInt_lt] at q; omega)) (by decide) (by decide) ?_
      refine W.iload (pc' := 46) X d_jdk_52_m21_44 rfl rfl ?_
      exact W.ireturn X d_jdk_52_m21_46 rfl (by decide) rfl (by decide) (by decide) ⟨_, rfl, rfl, ⟨rfl, (Keep.trans (Keep.refl h [d]) K (allS (Or.inl (List.mem_of_getElem? (i := 0) rfl)) all0)), D⟩⟩
    | succ r ih =>
      intro i T h1 o hi ho X K A D
      have hi' : i < cs.length := by omega
      rcases ho with rfl | ⟨x0, rfl⟩
      all_goals
        refine W.iload (pc' := 5) X d_jdk_52_m21_3 rfl rfl ?_
        refine W.iload (pc' := 7) X d_jdk_52_m21_5 rfl rfl ?_
        refine W.icF (pc' := 10) X d_jdk_52_m21_7 (XT.ii_ge_f ((lt32 (by omega) hL).mpr hi')) rfl ?_
        refine W.aloadN (pc' := 11) X d_jdk_52_m21_10 rfl rfl rfl ?_
        refine W.iloadN (pc' := 12) X d_jdk_52_m21_11 rfl rfl ?_
        refine W.caload (pc' := 13) (v := (.int cs[i])) X A (len32 (by omega)).1 (by rw [(len32 (by omega)).2.1]; simp [hi']) d_jdk_52_m21_12 rfl ?_
        refine W.istore (pc' := 15) (ls' := #[.val (.ref a), .val (.int i.toInt32), .val (.ref d), .val (.int i.toInt32), .val (.int cs.length.toInt32), .val (.int i.toInt32), .val (.int cs[i])]) X d_jdk_52_m21_13 rfl rfl ?_
        refine W.iload (pc' := 17) X d_jdk_52_m21_15 rfl rfl ?_
        refine W.sipush (pc' := 20) X (255 : Int32) d_jdk_52_m21_17 (by decide) rfl ?_
        refine W.icT (pc' := 26) X d_jdk_52_m21_20 (XT.ii_le_t (ge255 P2 hi')) (by decide) (by decide) ?_
        refine W.aloadN (pc' := 27) X d_jdk_52_m21_26 rfl rfl rfl ?_
        refine W.iloadN (pc' := 28) X d_jdk_52_m21_27 rfl rfl ?_
        refine W.iload (pc' := 30) X d_jdk_52_m21_28 rfl rfl ?_
        refine W.i2b (pc' := 31) (w := (cs[i]).toInt8.toInt32) X d_jdk_52_m21_30 rfl rfl ?_
        refine W.bastore (pc' := 32) (i := i) X D (len32 (by omega)).1 (len32 (by omega)).2.1 (by simp; omega) (lo8_lo8 _) P4 P5 d_jdk_52_m21_31 rfl fun T h1 X K2 A3 => ?_
        refine W.iinc (pc' := 35) (ls' := #[.val (.ref a), .val (.int (i + 1).toInt32), .val (.ref d), .val (.int i.toInt32), .val (.int cs.length.toInt32), .val (.int i.toInt32), .val (.int cs[i])]) X (1 : Int32) (w := (i + 1).toInt32) d_jdk_52_m21_32 (by decide) rfl (t32s i) rfl rfl ?_
        refine W.iinc (pc' := 38) (ls' := #[.val (.ref a), .val (.int (i + 1).toInt32), .val (.ref d), .val (.int (i + 1).toInt32), .val (.int cs.length.toInt32), .val (.int i.toInt32), .val (.int cs[i])]) X (1 : Int32) (w := (i + 1).toInt32) d_jdk_52_m21_35 (by decide) rfl (t32s i) rfl rfl ?_
        refine W.iinc (pc' := 41) (ls' := #[.val (.ref a), .val (.int (i + 1).toInt32), .val (.ref d), .val (.int (i + 1).toInt32), .val (.int cs.length.toInt32), .val (.int (i + 1).toInt32), .val (.int cs[i])]) X (1 : Int32) (w := (i + 1).toInt32) d_jdk_52_m21_38 (by decide) rfl (t32s i) rfl rfl ?_
        refine W.goto (pc' := 3) X d_jdk_52_m21_41 (by decide) (by decide) ?_
        have F4 := (A.keep K2 (ninS hne nin0))
        have D9 := A3; rw [cmp_set hi' P3] at D9
        exact ih (i + 1) T h1 _ (by omega) (Or.inr ⟨_, rfl⟩) X (K.trans K2 (allS (Or.inl (List.mem_of_getElem? (i := 0) rfl)) all0)) F4 D9
  refine W.iconst (pc' := 1) X (0 : Int32) d_jdk_52_m21_0 (by decide) rfl ?_
  refine W.istore (pc' := 3) (ls' := #[.val (.ref a), .val (.int (0 : Int32)), .val (.ref d), .val (.int (0 : Int32)), .val (.int cs.length.toInt32), .val (.int (0 : Int32)), .unset]) X d_jdk_52_m21_1 rfl rfl ?_
  exact loop cs.length 0 T h .unset (by omega) (Or.inl rfl) X (Keep.refl _ _) P0 (by simpa using P1)
def c_codl_rm : Room := { frames := 0, cells := 0, slots := 0, locals := 0 }
set_option maxRecDepth 65536 in
set_option maxHeartbeats 40000000 in
theorem c_codl {l : Launch} {Z : State} {a0 : Array Value} {zC : Int32} {fS : Value} {e0 : Addr} {e1 : Addr} {e2 : Addr} {h : Heap} {B : Addr → Prop} {d : Addr} {vs : List Value} {n : Int32} (G : Gl Z a0 zC fS e0 e1 e2) (hE : En Z B h) (P0 : Ar Z h d .byte vs) (P1 : vs.length.toInt32 = n) : Con l Z [] [] (⟨"java/lang/StringUTF16", "coderFromArrayLen", "([BI)B"⟩ : MethodName) jdk_52_method_15_code 2 (some .byte) c_codl_rm B h #[(.ref d), (.int n)] (fun vR hR BR => vR = some (.int (0 : Int32)) ∧ hR = h ∧ BR = B) := by
  have hz0 := hE.1.1
  refine Con.intro (ls := #[.val (.ref d), .val (.int n)]) (plainFor_of_name pn0) G.2.1 hE (fun m => by first | rfl | (simp [entryFrame, mkF, argsToLocals, Value.category]; done) | rfl) ?_
  intro p e s m below meth c T hs X
  refine W.iloadN (pc' := 1) X d_jdk_52_m15_0 rfl rfl ?_
  refine W.aloadN (pc' := 2) X d_jdk_52_m15_1 rfl rfl rfl ?_
  refine W.alen (pc' := 3) (z := n) X P0 P1 d_jdk_52_m15_2 rfl ?_
  refine W.isub (pc' := 4) (w := (0 : Int32)) X d_jdk_52_m15_3 (Int32.sub_self _) rfl ?_
  refine W.bipush (pc' := 6) X (31 : Int32) d_jdk_52_m15_4 (by decide) rfl ?_
  refine W.iushr (pc' := 7) (w := (0 : Int32)) X d_jdk_52_m15_6 (by decide) rfl ?_
  refine W.i2b (pc' := 8) (w := (0 : Int32)) X d_jdk_52_m15_7 (by decide) rfl ?_
  exact W.ireturn X d_jdk_52_m15_8 rfl (by decide) (by decide) (by decide) (by decide) ⟨rfl, rfl, rfl⟩
abbrev c_cmp3_q (Z : State) (zC : Int32) (fS : Value) (e0 : Addr) (e1 : Addr) (e2 : Addr) (h : Heap) (B : Addr → Prop) (a : Addr) (cs : List Int32) (xR : Value) (h' : Heap) : Prop := ∃ (t : Addr), xR = (.ref t) ∧ Keep h h' [] ∧ h.size ≤ t ∧ Ar Z h' t .byte (by8 cs)
def c_cmp3_rm : Room := { frames := 1, cells := 1, slots := 64, locals := 18 }
set_option maxRecDepth 65536 in
set_option maxHeartbeats 40000000 in
theorem c_cmp3 {l : Launch} {Z : State} {a0 : Array Value} {zC : Int32} {fS : Value} {e0 : Addr} {e1 : Addr} {e2 : Addr} {h : Heap} {B : Addr → Prop} {a : Addr} {cs : List Int32} (G : Gl Z a0 zC fS e0 e1 e2) (hE : En Z B h) (P0 : Ar Z h a .char (cs.map Value.int)) (P1 : Lat cs) (P2 : cs.length ≤ 64) : Con l Z [] [] (⟨"java/lang/StringUTF16", "compress", "([CII)[B"⟩ : MethodName) jdk_52_method_16_code 6 (some (.array .byte)) c_cmp3_rm B h #[(.ref a), (.int (0 : Int32)), (.int cs.length.toInt32)] (fun vR hR BR => ∃ xR, vR = some xR ∧ BR = B ∧ c_cmp3_q Z zC fS e0 e1 e2 h B a cs xR hR) := by
  have hz0 := hE.1.1
  refine Con.intro (ls := #[.val (.ref a), .val (.int (0 : Int32)), .val (.int cs.length.toInt32), .unset, .unset, .unset]) (plainFor_of_name pn0) G.2.1 hE (fun m => by first | rfl | (simp [entryFrame, mkF, argsToLocals, Value.category]; done) | rfl) ?_
  intro p e s m below meth c T hs X
  refine W.iloadN (pc' := 1) X d_jdk_52_m16_0 rfl rfl ?_
  refine W.newA (aty := .byte) (pc' := 3) (k' := 1) (n' := 64) (cap := 64) X (w39 G) d_jdk_52_m16_1 (len32 (by omega)).1 (by rw [(len32 (by omega)).2.1]; exact P2) (by decide) rfl (by decide) (by decide) (by decide) (by decide) fun T h1 a2 X K3 g4 g5 nb6 A7 => ?_
  have A7 : Ar Z h1 a2 .byte (List.replicate cs.length (.int (0 : Int32))) := by have q := A7; rw [(len32 (by omega)).2.1] at q; exact q
  refine W.astoreN (pc' := 4) (ls' := #[.val (.ref a), .val (.int (0 : Int32)), .val (.int cs.length.toInt32), .val (.ref a2), .unset, .unset]) X d_jdk_52_m16_3 rfl rfl rfl ?_
  refine W.aloadN (pc' := 5) X d_jdk_52_m16_4 rfl rfl rfl ?_
  refine W.iloadN (pc' := 6) X d_jdk_52_m16_5 rfl rfl ?_
  refine W.aloadN (pc' := 7) X d_jdk_52_m16_6 rfl rfl rfl ?_
  refine W.iconst (pc' := 8) X (0 : Int32) d_jdk_52_m16_7 (by decide) rfl ?_
  refine W.iloadN (pc' := 9) X d_jdk_52_m16_8 rfl rfl ?_
  have F8 := (P0.keep K3 nin0)
  refine W.callS (pc' := 12) (W := 0) (argsL := [(.ref a), (.int (0 : Int32)), (.ref a2), (.int (0 : Int32)), (.int cs.length.toInt32)]) (st := []) (k' := 1) (n' := 64) X (c_cmp5 (a := a) (d := a2) (cs := cs) (vs := (List.replicate cs.length (.int (0 : Int32)))) G X.en F8 A7 P1 (by simp) g5 nb6) (w40 G) (w41 G) (w42 G) (w37 G) (by decide) (by decide) (by decide) rfl (lenOf pd1 rfl) rfl rfl (Nat.le_of_eq rfl) d_jdk_52_m16_9 rfl (by decide) (by decide) (by decide) (by decide) (kr fun T h9 xr X z10 q11 => ?_)
  obtain ⟨rfl, K12, F13⟩ := q11
  refine W.istore (pc' := 14) (ls' := #[.val (.ref a), .val (.int (0 : Int32)), .val (.int cs.length.toInt32), .val (.ref a2), .val (.int cs.length.toInt32), .unset]) X d_jdk_52_m16_12 rfl rfl ?_
  refine W.iload (pc' := 16) X d_jdk_52_m16_14 rfl rfl ?_
  refine W.iloadN (pc' := 17) X d_jdk_52_m16_16 rfl rfl ?_
  refine W.icT (pc' := 57) X d_jdk_52_m16_17 (XT.ii_eq_t rfl) (by decide) (by decide) ?_
  refine W.aloadN (pc' := 58) X d_jdk_52_m16_57 rfl rfl rfl ?_
  exact W.areturn X d_jdk_52_m16_58 rfl rfl rfl rfl (by decide) (by decide) ⟨_, rfl, rfl, ⟨a2, rfl, (Keep.trans (Keep.trans (Keep.refl h []) K3 all0) K12 (allS (Or.inr (Nat.le_trans (Nat.le_refl _) g4)) all0)), (Nat.le_trans (Nat.le_refl _) g4), F13⟩⟩
abbrev c_init4_q (Z : State) (zC : Int32) (fS : Value) (e0 : Addr) (e1 : Addr) (e2 : Addr) (h : Heap) (B : Addr → Prop) (x a : Addr) (cs : List Int32) (v0 c0 : Value) (h' : Heap) : Prop := ∃ (t : Addr), Keep h h' [x] ∧ h.size ≤ t ∧ Str Z h' x t cs
def c_init4_rm : Room := { frames := 2, cells := 1, slots := 64, locals := 35 }
set_option maxRecDepth 65536 in
set_option maxHeartbeats 40000000 in
theorem c_init4 {l : Launch} {Z : State} {a0 : Array Value} {zC : Int32} {fS : Value} {e0 : Addr} {e1 : Addr} {e2 : Addr} {h : Heap} {B : Addr → Prop} {x a : Addr} {cs : List Int32} {v0 c0 : Value} (G : Gl Z a0 zC fS e0 e1 e2) (hE : En Z B h) (P0 : Exa Z h x "java/lang/String") (P1 : Fld Z h x "java/lang/String" "value" "[B" v0) (P2 : Fld Z h x "java/lang/String" "coder" "B" c0) (P3 : Ar Z h a .char (cs.map Value.int)) (P4 : Lat cs) (P5 : 0 < cs.length) (P6 : cs.length ≤ 64) (P7 : Z.heap.size ≤ x) (P8 : ¬ B x) : Con l Z [] [] (⟨"java/lang/String", "<init>", "([CIILjava/lang/Void;)V"⟩ : MethodName) jdk_42_method_149_code 6 none c_init4_rm B h #[(.ref x), (.ref a), (.int (0 : Int32)), (.int cs.length.toInt32), .null] (fun vR hR BR => vR = none ∧ BR = B ∧ c_init4_q Z zC fS e0 e1 e2 h B x a cs v0 c0 hR) := by
  have hz0 := hE.1.1
  refine Con.intro (ls := #[.val (.ref x), .val (.ref a), .val (.int (0 : Int32)), .val (.int cs.length.toInt32), .val .null, .unset]) (plainFor_of_name pn4) G.2.1 hE (fun m => by first | rfl | (simp [entryFrame, mkF, argsToLocals, Value.category]; done) | rfl) ?_
  intro p e s m below meth c T hs X
  refine W.aloadN (pc' := 1) X d_jdk_42_m149_0 rfl rfl rfl ?_
  refine W.initO (pc' := 4) (W := 0) X (w31 G) (w32 G) (w33 G) d_jdk_42_m149_1 rfl (by decide) (Nat.le_of_eq rfl) (by decide) rfl fun T X => ?_
  refine W.iloadN (pc' := 5) X d_jdk_42_m149_4 rfl rfl ?_
  refine W.ifT (pc' := 27) X d_jdk_42_m149_5 (XT.i0_ne_t (fun q => absurd ((eq32 (b := 0) (by omega) (by decide)).mp q) (by omega))) (by decide) (by decide) ?_
  refine W.getS (pc' := 30) (host := "") X (Or.inl (w34 G)) Via.refl G.2.2.1 d_jdk_42_m149_27 rfl fun T X => ?_
  refine W.ifF (pc' := 33) X d_jdk_42_m149_30 (XT.i0_eq_f G.2.2.2.1) rfl ?_
  refine W.aloadN (pc' := 34) X d_jdk_42_m149_33 rfl rfl rfl ?_
  refine W.iloadN (pc' := 35) X d_jdk_42_m149_34 rfl rfl ?_
  refine W.iloadN (pc' := 36) X d_jdk_42_m149_35 rfl rfl ?_
  have en1 := X.en
  refine W.callS (pc' := 39) (W := 0) (argsL := [(.ref a), (.int (0 : Int32)), (.int cs.length.toInt32)]) (st := []) (k' := 1) (n' := 64) X (c_cmp3 (a := a) (cs := cs) G X.en P3 P4 P6) (w35 G) (w36 G) (w38 G) (w37 G) (by decide) (by decide) (by decide) rfl (lenOf pd2 rfl) rfl rfl (Nat.le_of_eq rfl) d_jdk_42_m149_36 rfl (by decide) (by decide) (by decide) (by decide) (kr fun T h2 xr X z3 q4 => ?_)
  obtain ⟨a5, rfl, K6, g7, F8⟩ := q4
  have g9 : Z.heap.size ≤ a5 := Nat.le_trans (Nat.le_trans hz0 (Nat.le_refl _)) g7
  have nb10 : ¬ B a5 := fun q => absurd (en1.2 _ q) (Nat.not_lt.mpr g7)
  refine W.astore (pc' := 41) (ls' := #[.val (.ref x), .val (.ref a), .val (.int (0 : Int32)), .val (.int cs.length.toInt32), .val .null, .val (.ref a5)]) X d_jdk_42_m149_39 rfl rfl rfl ?_
  refine W.aloadN (pc' := 42) X d_jdk_42_m149_41 rfl rfl rfl ?_
  refine W.aload (pc' := 44) X d_jdk_42_m149_42 rfl rfl rfl ?_
  refine W.iloadN (pc' := 45) X d_jdk_42_m149_44 rfl rfl ?_
  refine W.callS (pc' := 48) (W := 1) (argsL := [(.ref a5), (.int cs.length.toInt32)]) (st := [(.ref x)]) (k' := 1) (n' := 64) X (c_codl (d := a5) (vs := (by8 cs)) (n := cs.length.toInt32) G X.en F8 (by simp)) (w43 G) (w44 G) (w45 G) (w37 G) (by decide) (by decide) (by decide) rfl (lenOf pd3 rfl) rfl rfl (Nat.le_of_eq rfl) d_jdk_42_m149_45 rfl (by decide) (by decide) (by decide) (by decide) (kp fun T X => ?_)
  have F11 := (P2.keep K6 nin0)
  have F12 := (P0.keep K6)
  refine W.putF (pc' := 51) X (w46 G) Via.refl F11 F12 (Or.inr ⟨(w47 G), rfl, rfl⟩) (w22 G) (ty := .byte) (by decide) (by decide) (by decide) P7 P8 d_jdk_42_m149_48 rfl fun T h13 X W14 => ?_
  have F15 := F11.same W14
  refine W.aloadN (pc' := 52) X d_jdk_42_m149_51 rfl rfl rfl ?_
  refine W.aload (pc' := 54) X d_jdk_42_m149_52 rfl rfl rfl ?_
  have F16 := ((P1.keep K6 nin0).other W14 (Or.inr (slot_ne (Or.inr (w49 G)) (Or.inr (w47 G)) (by decide) (t := (.array .byte)) (t' := .byte) (by decide) (by decide))))
  have F17 := (F12.wr W14)
  refine W.putF (pc' := 57) X (w48 G) Via.refl F16 F17 (Or.inr ⟨(w49 G), rfl, rfl⟩) (w22 G) (ty := (.array .byte)) (by decide) rfl rfl P7 P8 d_jdk_42_m149_54 rfl fun T h18 X W19 => ?_
  have F20 := F16.same W19
  have F21 := (F17.wr W19)
  have F22 := (F15.other W19 (Or.inr (slot_ne (Or.inr (w47 G)) (Or.inr (w49 G)) (by decide) (t := .byte) (t' := (.array .byte)) (by decide) (by decide))))
  have F23 := ((F8.keep (Keep.of_wr W14) (ninS (Nat.ne_of_gt (Nat.lt_of_lt_of_le P0.lt (Nat.le_trans (Nat.le_refl _) g7))) nin0)).keep (Keep.of_wr W19) (ninS (Nat.ne_of_gt (Nat.lt_of_lt_of_le P0.lt (Nat.le_trans (Nat.le_refl _) g7))) nin0))
  exact W.vreturn X d_jdk_42_m149_57 rfl (by decide) (by decide) ⟨rfl, rfl, ⟨a5, (Keep.wr (Keep.wr (Keep.trans (Keep.refl h [x]) K6 all0) W14 (Or.inl (List.mem_of_getElem? (i := 0) rfl))) W19 (Or.inl (List.mem_of_getElem? (i := 0) rfl))), (Nat.le_trans (Nat.le_refl _) g7), ⟨F21, F22, F20, F23, P4⟩⟩⟩
abbrev c_init1_q (Z : State) (zC : Int32) (fS : Value) (e0 : Addr) (e1 : Addr) (e2 : Addr) (h : Heap) (B : Addr → Prop) (x a : Addr) (cs : List Int32) (v0 c0 : Value) (h' : Heap) : Prop := ∃ (t : Addr), Keep h h' [x] ∧ h.size ≤ t ∧ Str Z h' x t cs
def c_init1_rm : Room := { frames := 3, cells := 1, slots := 64, locals := 52 }
set_option maxRecDepth 65536 in
set_option maxHeartbeats 40000000 in
theorem c_init1 {l : Launch} {Z : State} {a0 : Array Value} {zC : Int32} {fS : Value} {e0 : Addr} {e1 : Addr} {e2 : Addr} {h : Heap} {B : Addr → Prop} {x a : Addr} {cs : List Int32} {v0 c0 : Value} (G : Gl Z a0 zC fS e0 e1 e2) (hE : En Z B h) (P0 : Exa Z h x "java/lang/String") (P1 : Fld Z h x "java/lang/String" "value" "[B" v0) (P2 : Fld Z h x "java/lang/String" "coder" "B" c0) (P3 : Ar Z h a .char (cs.map Value.int)) (P4 : Lat cs) (P5 : 0 < cs.length) (P6 : cs.length ≤ 64) (P7 : Z.heap.size ≤ x) (P8 : ¬ B x) : Con l Z [] [] (⟨"java/lang/String", "<init>", "([C)V"⟩ : MethodName) jdk_42_method_3_code 2 none c_init1_rm B h #[(.ref x), (.ref a)] (fun vR hR BR => vR = none ∧ BR = B ∧ c_init1_q Z zC fS e0 e1 e2 h B x a cs v0 c0 hR) := by
  have hz0 := hE.1.1
  refine Con.intro (ls := #[.val (.ref x), .val (.ref a)]) (plainFor_of_name pn4) G.2.1 hE (fun m => by first | rfl | (simp [entryFrame, mkF, argsToLocals, Value.category]; done) | rfl) ?_
  intro p e s m below meth c T hs X
  refine W.aloadN (pc' := 1) X d_jdk_42_m3_0 rfl rfl rfl ?_
  refine W.aloadN (pc' := 2) X d_jdk_42_m3_1 rfl rfl rfl ?_
  refine W.iconst (pc' := 3) X (0 : Int32) d_jdk_42_m3_2 (by decide) rfl ?_
  refine W.aloadN (pc' := 4) X d_jdk_42_m3_3 rfl rfl rfl ?_
  refine W.alen (pc' := 5) (z := cs.length.toInt32) X P3 (by simp) d_jdk_42_m3_4 rfl ?_
  refine W.aconst_null (pc' := 6) X d_jdk_42_m3_5 rfl ?_
  have en1 := X.en
  refine W.callN (pc' := 9) (W := 0) (argsL := [(.ref a), (.int (0 : Int32)), (.int cs.length.toInt32), .null]) (st := []) (k' := 1) (n' := 64) (a := x) X (c_init4 (x := x) (a := a) (cs := cs) (v0 := v0) (c0 := c0) G X.en P0 P1 P2 P3 P4 P5 P6 P7 P8) rfl (w27 G) (w28 G) (w30 G) (w23 G) (by decide) (by decide) (by decide) rfl (lenOf pd5 rfl) rfl rfl (Nat.le_of_eq rfl) d_jdk_42_m3_6 rfl (by decide) (by decide) (by decide) (by decide) (kv fun T h2 X z3 q4 => ?_)
  obtain ⟨a5, K6, g7, F8⟩ := q4
  have g9 : Z.heap.size ≤ a5 := Nat.le_trans (Nat.le_trans hz0 (Nat.le_refl _)) g7
  have nb10 : ¬ B a5 := fun q => absurd (en1.2 _ q) (Nat.not_lt.mpr g7)
  exact W.vreturn X d_jdk_42_m3_9 rfl (by decide) (by decide) ⟨rfl, rfl, ⟨a5, (Keep.trans (Keep.refl h [x]) K6 (allS (Or.inl (List.mem_of_getElem? (i := 0) rfl)) all0)), (Nat.le_trans (Nat.le_refl _) g7), F8⟩⟩
def c_coder_rm : Room := { frames := 0, cells := 0, slots := 0, locals := 0 }
set_option maxRecDepth 65536 in
set_option maxHeartbeats 40000000 in
theorem c_coder {l : Launch} {Z : State} {a0 : Array Value} {zC : Int32} {fS : Value} {e0 : Addr} {e1 : Addr} {e2 : Addr} {h : Heap} {B : Addr → Prop} {a b : Addr} {cs : List Int32} (G : Gl Z a0 zC fS e0 e1 e2) (hE : En Z B h) (P0 : Str Z h a b cs) : Con l Z [] [] (⟨"java/lang/String", "coder", "()B"⟩ : MethodName) jdk_42_method_152_code 1 (some .byte) c_coder_rm B h #[(.ref a)] (fun vR hR BR => vR = some (.int (0 : Int32)) ∧ hR = h ∧ BR = B) := by
  have hz0 := hE.1.1
  refine Con.intro (ls := #[.val (.ref a)]) (plainFor_of_name pn4) G.2.1 hE (fun m => by first | rfl | (simp [entryFrame, mkF, argsToLocals, Value.category]; done) | rfl) ?_
  intro p e s m below meth c T hs X
  refine W.getS (pc' := 3) (host := "") X (Or.inl (w34 G)) Via.refl G.2.2.1 d_jdk_42_m152_0 rfl fun T X => ?_
  refine W.ifF (pc' := 6) X d_jdk_42_m152_3 (XT.i0_eq_f G.2.2.2.1) rfl ?_
  refine W.aloadN (pc' := 7) X d_jdk_42_m152_6 rfl rfl rfl ?_
  refine W.getF (pc' := 10) X (w46 G) Via.refl P0.cod d_jdk_42_m152_7 rfl fun T X => ?_
  refine W.goto (pc' := 14) X d_jdk_42_m152_10 (by decide) (by decide) ?_
  exact W.ireturn X d_jdk_42_m152_14 rfl (by decide) (by decide) (by decide) (by decide) ⟨rfl, rfl, rfl⟩
def c_len_rm : Room := { frames := 1, cells := 0, slots := 0, locals := 13 }
set_option maxRecDepth 65536 in
set_option maxHeartbeats 40000000 in
theorem c_len {l : Launch} {Z : State} {a0 : Array Value} {zC : Int32} {fS : Value} {e0 : Addr} {e1 : Addr} {e2 : Addr} {h : Heap} {B : Addr → Prop} {a b : Addr} {cs : List Int32} (G : Gl Z a0 zC fS e0 e1 e2) (hE : En Z B h) (P0 : Str Z h a b cs) : Con l Z [] [] (⟨"java/lang/String", "length", "()I"⟩ : MethodName) jdk_42_method_54_code 1 (some .int) c_len_rm B h #[(.ref a)] (fun vR hR BR => vR = some (.int cs.length.toInt32) ∧ hR = h ∧ BR = B) := by
  have hz0 := hE.1.1
  refine Con.intro (ls := #[.val (.ref a)]) (plainFor_of_name pn4) G.2.1 hE (fun m => by first | rfl | (simp [entryFrame, mkF, argsToLocals, Value.category]; done) | rfl) ?_
  intro p e s m below meth c T hs X
  refine W.aloadN (pc' := 1) X d_jdk_42_m54_0 rfl rfl rfl ?_
  refine W.getF (pc' := 4) X (w48 G) Via.refl P0.val d_jdk_42_m54_1 rfl fun T X => ?_
  refine W.alen (pc' := 5) (z := (cs).length.toInt32) X P0.arr (by simp) d_jdk_42_m54_4 rfl ?_
  refine W.aloadN (pc' := 6) X d_jdk_42_m54_5 rfl rfl rfl ?_
  refine W.callV (pc' := 9) (W := 1) (argsL := []) (st := [(.int (cs).length.toInt32)]) (k' := 0) (n' := 0) (a := a) X (c_coder (a := a) (b := b) (cs := cs) G X.en P0) (w67 G) (w68 G) (nfM (z' := (⟨"java/lang/String", "length", "()I"⟩ : MethodName)) rfl (w65 G)) (w70 G) (w69 G) P0.exa (w71 G) (w23 G) (by decide) (by decide) (by decide) rfl (lenOf pd6 rfl) rfl rfl (Nat.le_of_eq rfl) d_jdk_42_m54_6 rfl (by decide) (by decide) (by decide) (by decide) (kp fun T X => ?_)
  refine W.ishr (pc' := 10) (w := cs.length.toInt32) X d_jdk_42_m54_9 (shr0 _) rfl ?_
  exact W.ireturn X d_jdk_42_m54_10 rfl (by decide) rfl (by decide) (by decide) ⟨rfl, rfl, rfl⟩
def c_lat1_rm : Room := { frames := 0, cells := 0, slots := 0, locals := 0 }
set_option maxRecDepth 65536 in
set_option maxHeartbeats 40000000 in
theorem c_lat1 {l : Launch} {Z : State} {a0 : Array Value} {zC : Int32} {fS : Value} {e0 : Addr} {e1 : Addr} {e2 : Addr} {h : Heap} {B : Addr → Prop} {a b : Addr} {cs : List Int32} (G : Gl Z a0 zC fS e0 e1 e2) (hE : En Z B h) (P0 : Str Z h a b cs) : Con l Z [] [] (⟨"java/lang/String", "isLatin1", "()Z"⟩ : MethodName) jdk_42_method_154_code 1 (some .boolean) c_lat1_rm B h #[(.ref a)] (fun vR hR BR => vR = some (.int (1 : Int32)) ∧ hR = h ∧ BR = B) := by
  have hz0 := hE.1.1
  refine Con.intro (ls := #[.val (.ref a)]) (plainFor_of_name pn4) G.2.1 hE (fun m => by first | rfl | (simp [entryFrame, mkF, argsToLocals, Value.category]; done) | rfl) ?_
  intro p e s m below meth c T hs X
  refine W.getS (pc' := 3) (host := "") X (Or.inl (w34 G)) Via.refl G.2.2.1 d_jdk_42_m154_0 rfl fun T X => ?_
  refine W.ifF (pc' := 6) X d_jdk_42_m154_3 (XT.i0_eq_f G.2.2.2.1) rfl ?_
  refine W.aloadN (pc' := 7) X d_jdk_42_m154_6 rfl rfl rfl ?_
  refine W.getF (pc' := 10) X (w46 G) Via.refl P0.cod d_jdk_42_m154_7 rfl fun T X => ?_
  refine W.ifF (pc' := 13) X d_jdk_42_m154_10 (by decide) rfl ?_
  refine W.iconst (pc' := 14) X (1 : Int32) d_jdk_42_m154_13 (by decide) rfl ?_
  refine W.goto (pc' := 18) X d_jdk_42_m154_14 (by decide) (by decide) ?_
  exact W.ireturn X d_jdk_42_m154_18 rfl (by decide) (by decide) (by decide) (by decide) ⟨rfl, rfl, rfl⟩
def c_chk_rm : Room := { frames := 0, cells := 0, slots := 0, locals := 0 }
set_option maxRecDepth 65536 in
set_option maxHeartbeats 40000000 in
theorem c_chk {l : Launch} {Z : State} {a0 : Array Value} {zC : Int32} {fS : Value} {e0 : Addr} {e1 : Addr} {e2 : Addr} {h : Heap} {B : Addr → Prop} {i n : Int32} {f : Value} (G : Gl Z a0 zC fS e0 e1 e2) (hE : En Z B h) (P0 : ¬ i < 0) (P1 : i < n) (P2 : f.isRef = true) : Con l Z [] [] (⟨"jdk/internal/util/Preconditions", "checkIndex", "(IILjava/util/function/BiFunction;)I"⟩ : MethodName) jdk_41_method_11_code 3 (some .int) c_chk_rm B h #[(.int i), (.int n), f] (fun vR hR BR => vR = some (.int i) ∧ hR = h ∧ BR = B) := by
  have hz0 := hE.1.1
  refine Con.intro (ls := #[.val (.int i), .val (.int n), .val f]) (plainFor_of_name pn7) G.2.1 hE (fun m => by cases f <;> first | rfl | (exact absurd P2 (by simp [Value.isRef])) | first | rfl | (simp [entryFrame, mkF, argsToLocals, Value.category]; done) | rfl) ?_
  intro p e s m below meth c T hs X
  refine W.iloadN (pc' := 1) X d_jdk_41_m11_0 rfl rfl ?_
  refine W.ifF (pc' := 4) X d_jdk_41_m11_1 (XT.i0_lt_f P0) rfl ?_
  refine W.iloadN (pc' := 5) X d_jdk_41_m11_4 rfl rfl ?_
  refine W.iloadN (pc' := 6) X d_jdk_41_m11_5 rfl rfl ?_
  refine W.icT (pc' := 16) X d_jdk_41_m11_6 (XT.ii_lt_t P1) (by decide) (by decide) ?_
  refine W.iloadN (pc' := 17) X d_jdk_41_m11_16 rfl rfl ?_
  exact W.ireturn X d_jdk_41_m11_17 rfl (by decide) rfl (by decide) (by decide) ⟨rfl, rfl, rfl⟩
def c_schk_rm : Room := { frames := 1, cells := 0, slots := 0, locals := 14 }
set_option maxRecDepth 65536 in
set_option maxHeartbeats 40000000 in
theorem c_schk {l : Launch} {Z : State} {a0 : Array Value} {zC : Int32} {fS : Value} {e0 : Addr} {e1 : Addr} {e2 : Addr} {h : Heap} {B : Addr → Prop} {i n : Int32} (G : Gl Z a0 zC fS e0 e1 e2) (hE : En Z B h) (P0 : ¬ i < 0) (P1 : i < n) : Con l Z [] [] (⟨"java/lang/String", "checkIndex", "(II)V"⟩ : MethodName) jdk_42_method_155_code 2 none c_schk_rm B h #[(.int i), (.int n)] (fun vR hR BR => vR = none ∧ hR = h ∧ BR = B) := by
  have hz0 := hE.1.1
  refine Con.intro (ls := #[.val (.int i), .val (.int n)]) (plainFor_of_name pn4) G.2.1 hE (fun m => by first | rfl | (simp [entryFrame, mkF, argsToLocals, Value.category]; done) | rfl) ?_
  intro p e s m below meth c T hs X
  refine W.iloadN (pc' := 1) X d_jdk_42_m155_0 rfl rfl ?_
  refine W.iloadN (pc' := 2) X d_jdk_42_m155_1 rfl rfl ?_
  refine W.getS (pc' := 5) (host := "") X (Or.inl (w91 G)) Via.refl G.2.2.2.2.1 d_jdk_42_m155_2 rfl fun T X => ?_
  refine W.callS (pc' := 8) (W := 0) (argsL := [(.int i), (.int n), fS]) (st := []) (k' := 0) (n' := 0) X (c_chk (i := i) (n := n) (f := fS) G X.en P0 P1 G.2.2.2.2.2.1) (w93 G) (w94 G) (w95 G) (w92 G) (by decide) (by decide) (by decide) rfl (lenOf pd8 rfl) rfl rfl (Nat.le_of_eq rfl) d_jdk_42_m155_5 rfl (by decide) (by decide) (by decide) (by decide) (kp fun T X => ?_)
  refine W.popV (pc' := 9) X d_jdk_42_m155_8 rfl rfl ?_
  exact W.vreturn X d_jdk_42_m155_9 rfl (by decide) (by decide) ⟨rfl, rfl, rfl⟩
def c_l1ch_rm : Room := { frames := 2, cells := 0, slots := 0, locals := 27 }
set_option maxRecDepth 65536 in
set_option maxHeartbeats 40000000 in
theorem c_l1ch {l : Launch} {Z : State} {a0 : Array Value} {zC : Int32} {fS : Value} {e0 : Addr} {e1 : Addr} {e2 : Addr} {h : Heap} {B : Addr → Prop} {b : Addr} {cs : List Int32} {i : Nat} (G : Gl Z a0 zC fS e0 e1 e2) (hE : En Z B h) (P0 : Ar Z h b .byte (by8 cs)) (P1 : Lat cs) (P2 : i < cs.length) : Con l Z [] [] (⟨"java/lang/StringLatin1", "charAt", "([BI)C"⟩ : MethodName) jdk_43_method_2_code 2 (some .char) c_l1ch_rm B h #[(.ref b), (.int i.toInt32)] (fun vR hR BR => vR = some (.int (cs.getD i 0)) ∧ hR = h ∧ BR = B) := by
  have hz0 := hE.1.1
  refine Con.intro (ls := #[.val (.ref b), .val (.int i.toInt32)]) (plainFor_of_name pn10) G.2.1 hE (fun m => by first | rfl | (simp [entryFrame, mkF, argsToLocals, Value.category]; done) | rfl) ?_
  intro p e s m below meth c T hs X
  have hL := P0.len_lt; rw [List.length_map] at hL
  refine W.iloadN (pc' := 1) X d_jdk_43_m2_0 rfl rfl ?_
  refine W.aloadN (pc' := 2) X d_jdk_43_m2_1 rfl rfl rfl ?_
  refine W.alen (pc' := 3) (z := cs.length.toInt32) X P0 (by simp) d_jdk_43_m2_2 rfl ?_
  refine W.callS (pc' := 6) (W := 0) (argsL := [(.int i.toInt32), (.int cs.length.toInt32)]) (st := []) (k' := 0) (n' := 0) X (c_schk (i := i.toInt32) (n := cs.length.toInt32) G X.en (len32 (by omega)).1 ((lt32 (by omega) hL).mpr P2)) (w88 G) (w89 G) (w90 G) (w23 G) (by decide) (by decide) (by decide) rfl (lenOf pd9 rfl) rfl rfl (Nat.le_of_eq rfl) d_jdk_43_m2_3 rfl (by decide) (by decide) (by decide) (by decide) (kpv fun T X => ?_)
  refine W.aloadN (pc' := 7) X d_jdk_43_m2_6 rfl rfl rfl ?_
  refine W.iloadN (pc' := 8) X d_jdk_43_m2_7 rfl rfl ?_
  refine W.baload (pc' := 9) (v := (.int (cs.getD i 0).toInt8.toInt32)) X P0 (len32 (by omega)).1 (by8_get P2 hL) d_jdk_43_m2_8 rfl ?_
  refine W.sipush (pc' := 12) X (255 : Int32) d_jdk_43_m2_9 (by decide) rfl ?_
  refine W.iand (pc' := 13) (w := (cs.getD i 0)) X d_jdk_43_m2_12 (lo8m (P1.at P2)) rfl ?_
  refine W.i2c (pc' := 14) (w := (cs.getD i 0)) X d_jdk_43_m2_13 (i2cx (to16 (P1.at P2))) rfl ?_
  exact W.ireturn X d_jdk_43_m2_14 rfl (by decide) (narc (to16 (P1.at P2))) (by decide) (by decide) ⟨rfl, rfl, rfl⟩
def c_ch_rm : Room := { frames := 3, cells := 0, slots := 0, locals := 40 }
set_option maxRecDepth 65536 in
set_option maxHeartbeats 40000000 in
theorem c_ch {l : Launch} {Z : State} {a0 : Array Value} {zC : Int32} {fS : Value} {e0 : Addr} {e1 : Addr} {e2 : Addr} {h : Heap} {B : Addr → Prop} {a b : Addr} {cs : List Int32} {i : Nat} (G : Gl Z a0 zC fS e0 e1 e2) (hE : En Z B h) (P0 : Str Z h a b cs) (P1 : i < cs.length) : Con l Z [] [] (⟨"java/lang/String", "charAt", "(I)C"⟩ : MethodName) jdk_42_method_56_code 2 (some .char) c_ch_rm B h #[(.ref a), (.int i.toInt32)] (fun vR hR BR => vR = some (.int (cs.getD i 0)) ∧ hR = h ∧ BR = B) := by
  have hz0 := hE.1.1
  refine Con.intro (ls := #[.val (.ref a), .val (.int i.toInt32)]) (plainFor_of_name pn4) G.2.1 hE (fun m => by first | rfl | (simp [entryFrame, mkF, argsToLocals, Value.category]; done) | rfl) ?_
  intro p e s m below meth c T hs X
  refine W.aloadN (pc' := 1) X d_jdk_42_m56_0 rfl rfl rfl ?_
  refine W.callV (pc' := 4) (W := 0) (argsL := []) (st := []) (k' := 0) (n' := 0) (a := a) X (c_lat1 (a := a) (b := b) (cs := cs) G X.en P0) (w79 G) (w80 G) (nfM (z' := (⟨"java/lang/String", "length", "()I"⟩ : MethodName)) rfl (w65 G)) (w82 G) (w81 G) P0.exa (w83 G) (w23 G) (by decide) (by decide) (by decide) rfl (lenOf pd11 rfl) rfl rfl (Nat.le_of_eq rfl) d_jdk_42_m56_1 rfl (by decide) (by decide) (by decide) (by decide) (kp fun T X => ?_)
  refine W.ifF (pc' := 7) X d_jdk_42_m56_4 (by decide) rfl ?_
  refine W.aloadN (pc' := 8) X d_jdk_42_m56_7 rfl rfl rfl ?_
  refine W.getF (pc' := 11) X (w48 G) Via.refl P0.val d_jdk_42_m56_8 rfl fun T X => ?_
  refine W.iloadN (pc' := 12) X d_jdk_42_m56_11 rfl rfl ?_
  refine W.callS (pc' := 15) (W := 0) (argsL := [(.ref b), (.int i.toInt32)]) (st := []) (k' := 0) (n' := 0) X (c_l1ch (b := b) (cs := cs) (i := i) G X.en P0.arr P0.lat P1) (w84 G) (w85 G) (w87 G) (w86 G) (by decide) (by decide) (by decide) rfl (lenOf pd12 rfl) rfl rfl (Nat.le_of_eq rfl) d_jdk_42_m56_12 rfl (by decide) (by decide) (by decide) (by decide) (kp fun T X => ?_)
  exact W.ireturn X d_jdk_42_m56_15 rfl (by decide) (narc (to16 (P0.lat.at P1))) (by decide) (by decide) ⟨rfl, rfl, rfl⟩
def c_l1eq_rm : Room := { frames := 0, cells := 0, slots := 0, locals := 0 }
set_option maxRecDepth 65536 in
set_option maxHeartbeats 40000000 in
theorem c_l1eq {l : Launch} {Z : State} {a0 : Array Value} {zC : Int32} {fS : Value} {e0 : Addr} {e1 : Addr} {e2 : Addr} {h : Heap} {B : Addr → Prop} {a b : Addr} {cs ds : List Int32} (G : Gl Z a0 zC fS e0 e1 e2) (hE : En Z B h) (P0 : Ar Z h a .byte (by8 cs)) (P1 : Ar Z h b .byte (by8 ds)) (P2 : Lat cs) (P3 : Lat ds) : Con l Z [] [] (⟨"java/lang/StringLatin1", "equals", "([B[B)Z"⟩ : MethodName) jdk_43_method_13_code 3 (some .boolean) c_l1eq_rm B h #[(.ref a), (.ref b)] (fun vR hR BR => vR = some (.int (if cs = ds then (1 : Int32) else 0)) ∧ hR = h ∧ BR = B) := by
  have hz0 := hE.1.1
  refine Con.intro (ls := #[.val (.ref a), .val (.ref b), .unset]) (plainFor_of_name pn10) G.2.1 hE (fun m => by first | rfl | (simp [entryFrame, mkF, argsToLocals, Value.category]; done) | rfl) ?_
  intro p e s m below meth c T hs X
  have hc := P0.len_lt; rw [List.length_map] at hc
  have hd := P1.len_lt; rw [List.length_map] at hd
  refine W.aloadN (pc' := 1) X d_jdk_43_m13_0 rfl rfl rfl ?_
  refine W.alen (pc' := 2) (z := cs.length.toInt32) X P0 (by simp) d_jdk_43_m13_1 rfl ?_
  refine W.aloadN (pc' := 3) X d_jdk_43_m13_2 rfl rfl rfl ?_
  refine W.alen (pc' := 4) (z := ds.length.toInt32) X P1 (by simp) d_jdk_43_m13_3 rfl ?_
  by_cases hl : cs.length.toInt32 = ds.length.toInt32
  · skip
    refine W.icF (pc' := 7) X d_jdk_43_m13_4 (XT.ii_ne_f hl) rfl ?_
    refine W.iconst (pc' := 8) X (0 : Int32) d_jdk_43_m13_7 (by decide) rfl ?_
    refine W.istoreN (pc' := 9) (ls' := #[.val (.ref a), .val (.ref b), .val (.int (0 : Int32))]) X d_jdk_43_m13_8 rfl rfl ?_
    have hl' : cs.length = ds.length := (eq32 hc hd).mp hl
    have loop : ∀ (r i : Nat) (T : State), i + r = cs.length → cs.take i = ds.take i → Wk l Z [] (⟨"java/lang/StringLatin1", "equals", "([B[B)Z"⟩ : MethodName) jdk_43_method_13_code 3 (some .boolean) c_l1eq_rm B p e s m #[(.ref a), (.ref b)] below meth c B T h 0 0 → Go l Z [] c_l1eq_rm B (fun vR hR BR => vR = some (.int (if cs = ds then (1 : Int32) else 0)) ∧ hR = h ∧ BR = B) p e s m below T 9 #[.val (.ref a), .val (.ref b), .val (.int i.toInt32)] [] := by
      intro r
      induction r with
      | zero =>
        intro i T hi ht X
        obtain rfl : i = cs.length := by omega
        have hcd : cs = ds := by rw [List.take_of_length_le (Nat.le_refl _), List.take_of_length_le (by omega)] at ht; exact ht
        refine W.iloadN (pc' := 10) X d_jdk_43_m13_9 rfl rfl ?_
        refine W.aloadN (pc' := 11) X d_jdk_43_m13_10 rfl rfl rfl ?_
        refine W.alen (pc' := 12) (z := cs.length.toInt32) X P0 (by simp) d_jdk_43_m13_11 rfl ?_
        refine W.icT (pc' := 32) X d_jdk_43_m13_12 (XT.ii_ge_t (fun q => by rw [Int32.lt_iff_toInt_lt] at q; omega)) (by decide) (by decide) ?_
        refine W.iconst (pc' := 33) X (1 : Int32) d_jdk_43_m13_32 (by decide) rfl ?_
        exact W.ireturn X d_jdk_43_m13_33 rfl (by decide) (by decide) (by decide) (by decide) ⟨(by rw [if_pos hcd]), rfl, rfl⟩
      | succ r ih =>
        intro i T hi ht X
        have hi' : i < cs.length := by omega
        have hj' : i < ds.length := by omega
        refine W.iloadN (pc' := 10) X d_jdk_43_m13_9 rfl rfl ?_
        refine W.aloadN (pc' := 11) X d_jdk_43_m13_10 rfl rfl rfl ?_
        refine W.alen (pc' := 12) (z := cs.length.toInt32) X P0 (by simp) d_jdk_43_m13_11 rfl ?_
        refine W.icF (pc' := 15) X d_jdk_43_m13_12 (XT.ii_ge_f ((lt32 (by omega) hc).mpr hi')) rfl ?_
        refine W.aloadN (pc' := 16) X d_jdk_43_m13_15 rfl rfl rfl ?_
        refine W.iloadN (pc' := 17) X d_jdk_43_m13_16 rfl rfl ?_
        refine W.baload (pc' := 18) (v := (.int (cs.getD i 0).toInt8.toInt32)) X P0 (len32 (by omega)).1 (by8_get hi' hc) d_jdk_43_m13_17 rfl ?_
        refine W.aloadN (pc' := 19) X d_jdk_43_m13_18 rfl rfl rfl ?_
        refine W.iloadN (pc' := 20) X d_jdk_43_m13_19 rfl rfl ?_
        refine W.baload (pc' := 21) (v := (.int (ds.getD i 0).toInt8.toInt32)) X P1 (len32 (by omega)).1 (by8_get hj' hd) d_jdk_43_m13_20 rfl ?_
        by_cases he : (cs.getD i 0).toInt8.toInt32 = (ds.getD i 0).toInt8.toInt32
        · skip
          refine W.icT (pc' := 26) X d_jdk_43_m13_21 (XT.ii_eq_t he) (by decide) (by decide) ?_
          refine W.iinc (pc' := 29) (ls' := #[.val (.ref a), .val (.ref b), .val (.int (i + 1).toInt32)]) X (1 : Int32) (w := (i + 1).toInt32) d_jdk_43_m13_26 (by decide) rfl (t32s i) rfl rfl ?_
          refine W.goto (pc' := 9) X d_jdk_43_m13_29 (by decide) (by decide) ?_
          exact ih (i + 1) T (by omega) (take_step ht hi' hj' (lo8_inj (P2.at hi') (P3.at hj') he)) X
        · skip
          refine W.icF (pc' := 24) X d_jdk_43_m13_21 (XT.ii_eq_f he) rfl ?_
          refine W.iconst (pc' := 25) X (0 : Int32) d_jdk_43_m13_24 (by decide) rfl ?_
          exact W.ireturn X d_jdk_43_m13_25 rfl (by decide) (by decide) (by decide) (by decide) ⟨(by rw [if_neg (fun q => he (by rw [q]))]), rfl, rfl⟩
    exact loop cs.length 0 T (by omega) rfl X
  · skip
    refine W.icT (pc' := 34) X d_jdk_43_m13_4 (XT.ii_ne_t hl) (by decide) (by decide) ?_
    refine W.iconst (pc' := 35) X (0 : Int32) d_jdk_43_m13_34 (by decide) rfl ?_
    exact W.ireturn X d_jdk_43_m13_35 rfl (by decide) (by decide) (by decide) (by decide) ⟨(by rw [if_neg (fun q => hl (by rw [q]))]), rfl, rfl⟩
def c_eq_rm : Room := { frames := 1, cells := 0, slots := 0, locals := 14 }
set_option maxRecDepth 65536 in
set_option maxHeartbeats 40000000 in
theorem c_eq {l : Launch} {Z : State} {a0 : Array Value} {zC : Int32} {fS : Value} {e0 : Addr} {e1 : Addr} {e2 : Addr} {h : Heap} {B : Addr → Prop} {a b a' b' : Addr} {cs ds : List Int32} (G : Gl Z a0 zC fS e0 e1 e2) (hE : En Z B h) (P0 : Str Z h a b cs) (P1 : Str Z h a' b' ds) (P2 : a ≠ a') : Con l Z [] [] (⟨"java/lang/String", "equals", "(Ljava/lang/Object;)Z"⟩ : MethodName) jdk_42_method_66_code 3 (some .boolean) c_eq_rm B h #[(.ref a), (.ref a')] (fun vR hR BR => vR = some (.int (if cs = ds then (1 : Int32) else 0)) ∧ hR = h ∧ BR = B) := by
  have hz0 := hE.1.1
  refine Con.intro (ls := #[.val (.ref a), .val (.ref a'), .unset]) (plainFor_of_name pn4) G.2.1 hE (fun m => by first | rfl | (simp [entryFrame, mkF, argsToLocals, Value.category]; done) | rfl) ?_
  intro p e s m below meth c T hs X
  refine W.aloadN (pc' := 1) X d_jdk_42_m66_0 rfl rfl rfl ?_
  refine W.aloadN (pc' := 2) X d_jdk_42_m66_1 rfl rfl rfl ?_
  refine W.acT (pc' := 7) X d_jdk_42_m66_2 rfl rfl (XT.aa_ne_t (fun q => P2 (Value.ref.inj q))) (by decide) (by decide) ?_
  refine W.aloadN (pc' := 8) X d_jdk_42_m66_7 rfl rfl rfl ?_
  refine W.instY (pc' := 11) X (w136 G) (Ins.self P1.exa) d_jdk_42_m66_8 rfl fun T X => ?_
  refine W.ifF (pc' := 14) X d_jdk_42_m66_11 (by decide) rfl ?_
  refine W.aloadN (pc' := 15) X d_jdk_42_m66_14 rfl rfl rfl ?_
  refine W.cast (pc' := 18) X (w136 G) (Ins.self P1.exa) d_jdk_42_m66_15 rfl fun T X => ?_
  refine W.astoreN (pc' := 19) (ls' := #[.val (.ref a), .val (.ref a'), .val (.ref a')]) X d_jdk_42_m66_18 rfl rfl rfl ?_
  refine W.getS (pc' := 22) (host := "") X (Or.inl (w34 G)) Via.refl G.2.2.1 d_jdk_42_m66_19 rfl fun T X => ?_
  refine W.ifF (pc' := 25) X d_jdk_42_m66_22 (XT.i0_eq_f G.2.2.2.1) rfl ?_
  refine W.aloadN (pc' := 26) X d_jdk_42_m66_25 rfl rfl rfl ?_
  refine W.getF (pc' := 29) X (w46 G) Via.refl P0.cod d_jdk_42_m66_26 rfl fun T X => ?_
  refine W.aloadN (pc' := 30) X d_jdk_42_m66_29 rfl rfl rfl ?_
  refine W.getF (pc' := 33) X (w46 G) Via.refl P1.cod d_jdk_42_m66_30 rfl fun T X => ?_
  refine W.icF (pc' := 36) X d_jdk_42_m66_33 (by decide) rfl ?_
  refine W.aloadN (pc' := 37) X d_jdk_42_m66_36 rfl rfl rfl ?_
  refine W.getF (pc' := 40) X (w48 G) Via.refl P0.val d_jdk_42_m66_37 rfl fun T X => ?_
  refine W.aloadN (pc' := 41) X d_jdk_42_m66_40 rfl rfl rfl ?_
  refine W.getF (pc' := 44) X (w48 G) Via.refl P1.val d_jdk_42_m66_41 rfl fun T X => ?_
  refine W.callS (pc' := 47) (W := 0) (argsL := [(.ref b), (.ref b')]) (st := []) (k' := 0) (n' := 0) X (c_l1eq (a := b) (b := b') (cs := cs) (ds := ds) G X.en P0.arr P1.arr P0.lat P1.lat) (w137 G) (w138 G) (w139 G) (w86 G) (by decide) (by decide) (by decide) rfl (lenOf pd13 rfl) rfl rfl (Nat.le_of_eq rfl) d_jdk_42_m66_44 rfl (by decide) (by decide) (by decide) (by decide) (kp fun T X => ?_)
  by_cases hq : (if cs = ds then (1 : Int32) else 0) = (0 : Int32)
  · skip
    refine W.ifT (pc' := 54) X d_jdk_42_m66_47 (XT.i0_eq_t hq) (by decide) (by decide) ?_
    refine W.iconst (pc' := 55) X (0 : Int32) d_jdk_42_m66_54 (by decide) rfl ?_
    exact W.ireturn X d_jdk_42_m66_55 rfl (by decide) (by decide) (by decide) (by decide) ⟨(by rw [if_neg (fun n => by rw [if_pos n] at hq; exact absurd hq (by decide))]), rfl, rfl⟩
  · skip
    refine W.ifF (pc' := 50) X d_jdk_42_m66_47 (XT.i0_eq_f hq) rfl ?_
    refine W.iconst (pc' := 51) X (1 : Int32) d_jdk_42_m66_50 (by decide) rfl ?_
    refine W.goto (pc' := 55) X d_jdk_42_m66_51 (by decide) (by decide) ?_
    exact W.ireturn X d_jdk_42_m66_55 rfl (by decide) (by decide) (by decide) (by decide) ⟨(by rw [if_pos (Classical.byContradiction fun n => hq (if_neg n))]), rfl, rfl⟩
def c_eqsame_rm : Room := { frames := 0, cells := 0, slots := 0, locals := 0 }
set_option maxRecDepth 65536 in
set_option maxHeartbeats 40000000 in
theorem c_eqsame {l : Launch} {Z : State} {a0 : Array Value} {zC : Int32} {fS : Value} {e0 : Addr} {e1 : Addr} {e2 : Addr} {h : Heap} {B : Addr → Prop} {a : Addr} (G : Gl Z a0 zC fS e0 e1 e2) (hE : En Z B h)  : Con l Z [] [] (⟨"java/lang/String", "equals", "(Ljava/lang/Object;)Z"⟩ : MethodName) jdk_42_method_66_code 3 (some .boolean) c_eqsame_rm B h #[(.ref a), (.ref a)] (fun vR hR BR => vR = some (.int (1 : Int32)) ∧ hR = h ∧ BR = B) := by
  have hz0 := hE.1.1
  refine Con.intro (ls := #[.val (.ref a), .val (.ref a), .unset]) (plainFor_of_name pn4) G.2.1 hE (fun m => by first | rfl | (simp [entryFrame, mkF, argsToLocals, Value.category]; done) | rfl) ?_
  intro p e s m below meth c T hs X
  refine W.aloadN (pc' := 1) X d_jdk_42_m66_0 rfl rfl rfl ?_
  refine W.aloadN (pc' := 2) X d_jdk_42_m66_1 rfl rfl rfl ?_
  refine W.acF (pc' := 5) X d_jdk_42_m66_2 rfl rfl (XT.aa_ne_f rfl) rfl ?_
  refine W.iconst (pc' := 6) X (1 : Int32) d_jdk_42_m66_5 (by decide) rfl ?_
  exact W.ireturn X d_jdk_42_m66_6 rfl (by decide) (by decide) (by decide) (by decide) ⟨rfl, rfl, rfl⟩
def c_reqnnS_rm : Room := { frames := 0, cells := 0, slots := 0, locals := 0 }
set_option maxRecDepth 65536 in
set_option maxHeartbeats 40000000 in
theorem c_reqnnS {l : Launch} {Z : State} {a0 : Array Value} {zC : Int32} {fS : Value} {e0 : Addr} {e1 : Addr} {e2 : Addr} {h : Heap} {B : Addr → Prop} {a b : Addr} (G : Gl Z a0 zC fS e0 e1 e2) (hE : En Z B h)  : Con l Z [] [] (⟨"java/util/Objects", "requireNonNull", "(Ljava/lang/Object;Ljava/lang/String;)Ljava/lang/Object;"⟩ : MethodName) jdk_31_method_11_code 2 (some (.object "java/lang/Object")) c_reqnnS_rm B h #[(.ref a), (.ref b)] (fun vR hR BR => vR = some (.ref a) ∧ hR = h ∧ BR = B) := by
  have hz0 := hE.1.1
  refine Con.intro (ls := #[.val (.ref a), .val (.ref b)]) (plainFor_of_name pn14) G.2.1 hE (fun m => by first | rfl | (simp [entryFrame, mkF, argsToLocals, Value.category]; done) | rfl) ?_
  intro p e s m below meth c T hs X
  refine W.aloadN (pc' := 1) X d_jdk_31_m11_0 rfl rfl rfl ?_
  refine W.nonnullT (pc' := 13) X d_jdk_31_m11_1 (by decide) (by decide) ?_
  refine W.aloadN (pc' := 14) X d_jdk_31_m11_13 rfl rfl rfl ?_
  exact W.areturn X d_jdk_31_m11_14 rfl rfl rfl rfl (by decide) (by decide) ⟨rfl, rfl, rfl⟩
def c_isSig_rm : Room := { frames := 4, cells := 0, slots := 0, locals := 53 }
set_option maxRecDepth 65536 in
set_option maxHeartbeats 40000000 in
theorem c_isSig {l : Launch} {Z : State} {a0 : Array Value} {zC : Int32} {fS : Value} {e0 : Addr} {e1 : Addr} {e2 : Addr} {h : Heap} {B : Addr → Prop} {q a b : Addr} {cs : List Int32} {dl : Int32} (G : Gl Z a0 zC fS e0 e1 e2) (hE : En Z B h) (P0 : Fld Z h q "com/example/campo_grande/campogrande/SignatureAlgorithm" "digestLength" "I" (.int dl)) (P1 : Str Z h a b cs) (P2 : cs.length.toInt32 = (2 : Int32) * dl) (P3 : ∀ c ∈ cs, HexC c) : Con l Z [] [] (⟨"com/example/campo_grande/campogrande/SignatureAlgorithm", "isSignature", "(Ljava/lang/String;)Z"⟩ : MethodName) prog_25_method_6_code 4 (some .boolean) c_isSig_rm B h #[(.ref q), (.ref a)] (fun vR hR BR => vR = some (.int (1 : Int32)) ∧ hR = h ∧ BR = B) := by
  have hz0 := hE.1.1
  refine Con.intro (ls := #[.val (.ref q), .val (.ref a), .unset, .unset]) (plainFor_of_name pn17) G.2.1 hE (fun m => by first | rfl | (simp [entryFrame, mkF, argsToLocals, Value.category]; done) | rfl) ?_
  intro p e s m below meth c T hs X
  have hL := P1.len_lt
  refine W.aloadN (pc' := 1) X d_prog_25_m6_0 rfl rfl rfl ?_
  refine W.callV (pc' := 4) (W := 0) (argsL := []) (st := []) (k' := 0) (n' := 0) (a := a) X (c_len (a := a) (b := b) (cs := cs) G X.en P1) (w62 G) (w63 G) (nfM (z' := (⟨"java/lang/String", "length", "()I"⟩ : MethodName)) rfl (w65 G)) (w65 G) (w64 G) P1.exa (w66 G) (w23 G) (by decide) (by decide) (by decide) rfl (lenOf pd15 rfl) rfl rfl (Nat.le_of_eq rfl) d_prog_25_m6_1 rfl (by decide) (by decide) (by decide) (by decide) (kp fun T X => ?_)
  refine W.iconst (pc' := 5) X (2 : Int32) d_prog_25_m6_4 (by decide) rfl ?_
  refine W.aloadN (pc' := 6) X d_prog_25_m6_5 rfl rfl rfl ?_
  refine W.getF (pc' := 9) X (w72 G) Via.refl P0 d_prog_25_m6_6 rfl fun T X => ?_
  refine W.imul (pc' := 10) (w := ((2 : Int32) * dl)) X d_prog_25_m6_9 rfl rfl ?_
  refine W.icT (pc' := 15) X d_prog_25_m6_10 (XT.ii_eq_t P2) (by decide) (by decide) ?_
  refine W.iconst (pc' := 16) X (0 : Int32) d_prog_25_m6_15 (by decide) rfl ?_
  refine W.istoreN (pc' := 17) (ls' := #[.val (.ref q), .val (.ref a), .val (.int (0 : Int32)), .unset]) X d_prog_25_m6_16 rfl rfl ?_
  have loop : ∀ (r i : Nat) (T : State) (o : Slot), i + r = cs.length → (o = .unset ∨ ∃ x, o = .val (.int x)) → Wk l Z [] (⟨"com/example/campo_grande/campogrande/SignatureAlgorithm", "isSignature", "(Ljava/lang/String;)Z"⟩ : MethodName) prog_25_method_6_code 4 (some .boolean) c_isSig_rm B p e s m #[(.ref q), (.ref a)] below meth c B T h 0 0 → Go l Z [] c_isSig_rm B (fun vR hR BR => vR = some (.int (1 : Int32)) ∧ hR = h ∧ BR = B) p e s m below T 17 #[.val (.ref q), .val (.ref a), .val (.int i.toInt32), o] [] := by
    intro r
    induction r with
    | zero =>
      intro i T o hi ho X
      obtain rfl : i = cs.length := by omega
      refine W.iloadN (pc' := 18) X d_prog_25_m6_17 rfl rfl ?_
      refine W.aloadN (pc' := 19) X d_prog_25_m6_18 rfl rfl rfl ?_
      refine W.callV (pc' := 22) (W := 1) (argsL := []) (st := [(.int cs.length.toInt32)]) (k' := 0) (n' := 0) (a := a) X (c_len (a := a) (b := b) (cs := cs) G X.en P1) (w62 G) (w63 G) (nfM (z' := (⟨"java/lang/String", "length", "()I"⟩ : MethodName)) rfl (w65 G)) (w65 G) (w64 G) P1.exa (w66 G) (w23 G) (by decide) (by decide) (by decide) rfl (lenOf pd15 rfl) rfl rfl (Nat.le_of_eq rfl) d_prog_25_m6_19 rfl (by decide) (by decide) (by decide) (by decide) (kp fun T X => ?_)
      refine W.icT (pc' := 63) X d_prog_25_m6_22 (XT.ii_ge_t (fun q => by rw [Int32.lt_iff_toInt_lt] at q; omega)) (by decide) (by decide) ?_
      refine W.iconst (pc' := 64) X (1 : Int32) d_prog_25_m6_63 (by decide) rfl ?_
      exact W.ireturn X d_prog_25_m6_64 rfl (by decide) (by decide) (by decide) (by decide) ⟨rfl, rfl, rfl⟩
    | succ r ih =>
      intro i T o hi ho X
      have hi' : i < cs.length := by omega
      have hx := hex_at P3 hi'
      have hlat := P1.lat.at hi'
      obtain ⟨cc, hcc⟩ : ∃ z, z = cs.getD i 0 := ⟨_, rfl⟩
      rcases ho with rfl | ⟨x0, rfl⟩
      all_goals
        refine W.iloadN (pc' := 18) X d_prog_25_m6_17 rfl rfl ?_
        refine W.aloadN (pc' := 19) X d_prog_25_m6_18 rfl rfl rfl ?_
        refine W.callV (pc' := 22) (W := 1) (argsL := []) (st := [(.int i.toInt32)]) (k' := 0) (n' := 0) (a := a) X (c_len (a := a) (b := b) (cs := cs) G X.en P1) (w62 G) (w63 G) (nfM (z' := (⟨"java/lang/String", "length", "()I"⟩ : MethodName)) rfl (w65 G)) (w65 G) (w64 G) P1.exa (w66 G) (w23 G) (by decide) (by decide) (by decide) rfl (lenOf pd15 rfl) rfl rfl (Nat.le_of_eq rfl) d_prog_25_m6_19 rfl (by decide) (by decide) (by decide) (by decide) (kp fun T X => ?_)
        refine W.icF (pc' := 25) X d_prog_25_m6_22 (XT.ii_ge_f ((lt32 (by omega) hL).mpr hi')) rfl ?_
        refine W.aloadN (pc' := 26) X d_prog_25_m6_25 rfl rfl rfl ?_
        refine W.iloadN (pc' := 27) X d_prog_25_m6_26 rfl rfl ?_
        refine W.callV (pc' := 30) (W := 0) (argsL := [(.int i.toInt32)]) (st := []) (k' := 0) (n' := 0) (a := a) X (c_ch (a := a) (b := b) (cs := cs) (i := i) G X.en P1 hi') (w74 G) (w75 G) (nfM (z' := (⟨"java/lang/String", "length", "()I"⟩ : MethodName)) rfl (w65 G)) (w77 G) (w76 G) P1.exa (w78 G) (w23 G) (by decide) (by decide) (by decide) rfl (lenOf pd16 rfl) rfl rfl (Nat.le_of_eq rfl) d_prog_25_m6_27 rfl (by decide) (by decide) (by decide) (by decide) (kp fun T X => ?_)
        refine W.istoreN (pc' := 31) (ls' := #[.val (.ref q), .val (.ref a), .val (.int i.toInt32), .val (.int (cs.getD i 0))]) X d_prog_25_m6_30 rfl rfl ?_
        refine W.iloadN (pc' := 32) X d_prog_25_m6_31 rfl rfl ?_
        refine W.bipush (pc' := 34) X (48 : Int32) d_prog_25_m6_32 (by decide) rfl ?_
        by_cases h48 : (cs.getD i 0) < (48 : Int32)
        · skip
          refine W.icT (pc' := 43) X d_prog_25_m6_34 (XT.ii_lt_t h48) (by decide) (by decide) ?_
          refine W.iloadN (pc' := 44) X d_prog_25_m6_43 rfl rfl ?_
          refine W.bipush (pc' := 46) X (97 : Int32) d_prog_25_m6_44 (by decide) rfl ?_
          refine W.icF (pc' := 49) X d_prog_25_m6_46 (XT.ii_lt_f (fun q => by rw [Int32.lt_iff_toInt_lt] at q h48; have e1 : (48 : Int32).toInt = 48 := rfl; have e2 : (97 : Int32).toInt = 97 := rfl; rcases hx with z | z <;> omega)) rfl ?_
          refine W.iloadN (pc' := 50) X d_prog_25_m6_49 rfl rfl ?_
          refine W.bipush (pc' := 52) X (102 : Int32) d_prog_25_m6_50 (by decide) rfl ?_
          refine W.icT (pc' := 57) X d_prog_25_m6_52 (XT.ii_le_t (fun q => by rw [Int32.lt_iff_toInt_lt] at q h48; have e1 : (48 : Int32).toInt = 48 := rfl; have e2 : (102 : Int32).toInt = 102 := rfl; rcases hx with z | z <;> omega)) (by decide) (by decide) ?_
          refine W.iinc (pc' := 60) (ls' := #[.val (.ref q), .val (.ref a), .val (.int (i + 1).toInt32), .val (.int (cs.getD i 0))]) X (1 : Int32) (w := (i + 1).toInt32) d_prog_25_m6_57 (by decide) rfl (t32s i) rfl rfl ?_
          refine W.goto (pc' := 17) X d_prog_25_m6_60 (by decide) (by decide) ?_
          exact ih (i + 1) T _ (by omega) (Or.inr ⟨_, rfl⟩) X
        · skip
          refine W.icF (pc' := 37) X d_prog_25_m6_34 (XT.ii_lt_f h48) rfl ?_
          refine W.iloadN (pc' := 38) X d_prog_25_m6_37 rfl rfl ?_
          refine W.bipush (pc' := 40) X (57 : Int32) d_prog_25_m6_38 (by decide) rfl ?_
          by_cases h57 : (57 : Int32) < (cs.getD i 0)
          · skip
            refine W.icF (pc' := 43) X d_prog_25_m6_40 (XT.ii_le_f h57) rfl ?_
            refine W.iloadN (pc' := 44) X d_prog_25_m6_43 rfl rfl ?_
            refine W.bipush (pc' := 46) X (97 : Int32) d_prog_25_m6_44 (by decide) rfl ?_
            refine W.icF (pc' := 49) X d_prog_25_m6_46 (XT.ii_lt_f (fun q => by rw [Int32.lt_iff_toInt_lt] at q h57; have e1 : (57 : Int32).toInt = 57 := rfl; have e2 : (97 : Int32).toInt = 97 := rfl; rcases hx with z | z <;> omega)) rfl ?_
            refine W.iloadN (pc' := 50) X d_prog_25_m6_49 rfl rfl ?_
            refine W.bipush (pc' := 52) X (102 : Int32) d_prog_25_m6_50 (by decide) rfl ?_
            refine W.icT (pc' := 57) X d_prog_25_m6_52 (XT.ii_le_t (fun q => by rw [Int32.lt_iff_toInt_lt] at q h57; have e1 : (57 : Int32).toInt = 57 := rfl; have e2 : (102 : Int32).toInt = 102 := rfl; rcases hx with z | z <;> omega)) (by decide) (by decide) ?_
            refine W.iinc (pc' := 60) (ls' := #[.val (.ref q), .val (.ref a), .val (.int (i + 1).toInt32), .val (.int (cs.getD i 0))]) X (1 : Int32) (w := (i + 1).toInt32) d_prog_25_m6_57 (by decide) rfl (t32s i) rfl rfl ?_
            refine W.goto (pc' := 17) X d_prog_25_m6_60 (by decide) (by decide) ?_
            exact ih (i + 1) T _ (by omega) (Or.inr ⟨_, rfl⟩) X
          · skip
            refine W.icT (pc' := 57) X d_prog_25_m6_40 (XT.ii_le_t h57) (by decide) (by decide) ?_
            refine W.iinc (pc' := 60) (ls' := #[.val (.ref q), .val (.ref a), .val (.int (i + 1).toInt32), .val (.int (cs.getD i 0))]) X (1 : Int32) (w := (i + 1).toInt32) d_prog_25_m6_57 (by decide) rfl (t32s i) rfl rfl ?_
            refine W.goto (pc' := 17) X d_prog_25_m6_60 (by decide) (by decide) ?_
            exact ih (i + 1) T _ (by omega) (Or.inr ⟨_, rfl⟩) X
  exact loop cs.length 0 T .unset (by omega) (Or.inl rfl) X
abbrev c_key_q (Z : State) (zC : Int32) (fS : Value) (e0 : Addr) (e1 : Addr) (e2 : Addr) (h : Heap) (B : Addr → Prop) (x q a b : Addr) (cs : List Int32) (dl vo ov : Int32) (v0 v1 v2 v3 : Value) (h' : Heap) (B' : Addr → Prop) : Prop := Keep h h' [x] ∧ Fld Z h' x "com/example/campo_grande/campogrande/ContentKey" "volume" "I" (.int vo) ∧ Fld Z h' x "com/example/campo_grande/campogrande/ContentKey" "algorithm" "Lcom/example/campo_grande/campogrande/SignatureAlgorithm;" (.ref q) ∧ Fld Z h' x "com/example/campo_grande/campogrande/ContentKey" "signature" "Ljava/lang/String;" (.ref a) ∧ Fld Z h' x "com/example/campo_grande/campogrande/ContentKey" "overflow" "I" (.int ov)
def c_key_rm : Room := { frames := 5, cells := 4, slots := 80, locals := 68 }
set_option maxRecDepth 65536 in
set_option maxHeartbeats 40000000 in
theorem c_key {l : Launch} {Z : State} {a0 : Array Value} {zC : Int32} {fS : Value} {e0 : Addr} {e1 : Addr} {e2 : Addr} {h : Heap} {B : Addr → Prop} {x q a b : Addr} {cs : List Int32} {dl vo ov : Int32} {v0 v1 v2 v3 : Value} (G : Gl Z a0 zC fS e0 e1 e2) (hE : En Z B h) (P0 : Exa Z h x "com/example/campo_grande/campogrande/ContentKey") (P1 : Fld Z h x "com/example/campo_grande/campogrande/ContentKey" "volume" "I" v0) (P2 : Fld Z h x "com/example/campo_grande/campogrande/ContentKey" "algorithm" "Lcom/example/campo_grande/campogrande/SignatureAlgorithm;" v1) (P3 : Fld Z h x "com/example/campo_grande/campogrande/ContentKey" "signature" "Ljava/lang/String;" v2) (P4 : Fld Z h x "com/example/campo_grande/campogrande/ContentKey" "overflow" "I" v3) (P5 : Exa Z h q "com/example/campo_grande/campogrande/SignatureAlgorithm") (P6 : Fld Z h q "com/example/campo_grande/campogrande/SignatureAlgorithm" "digestLength" "I" (.int dl)) (P7 : Str Z h a b cs) (P8 : cs.length.toInt32 = (2 : Int32) * dl) (P9 : ∀ c ∈ cs, HexC c) (P10 : ¬ vo < 0) (P11 : ¬ ov < 0) (P12 : Z.heap.size ≤ x) (P13 : ¬ B x) (P14 : x ≠ q) (P15 : x ≠ a) (P16 : x ≠ b) : Con l Z [] [] (⟨"com/example/campo_grande/campogrande/ContentKey", "<init>", "(ILcom/example/campo_grande/campogrande/SignatureAlgorithm;Ljava/lang/String;I)V"⟩ : MethodName) prog_13_method_1_code 5 none c_key_rm B h #[(.ref x), (.int vo), (.ref q), (.ref a), (.int ov)] (fun vR hR BR => vR = none ∧ c_key_q Z zC fS e0 e1 e2 h B x q a b cs dl vo ov v0 v1 v2 v3 hR BR) := by
  have hz0 := hE.1.1
  refine Con.intro (ls := #[.val (.ref x), .val (.int vo), .val (.ref q), .val (.ref a), .val (.int ov)]) (plainFor_of_name pn20) G.2.1 hE (fun m => by first | rfl | (simp [entryFrame, mkF, argsToLocals, Value.category]; done) | rfl) ?_
  intro p e s m below meth c T hs X
  refine W.aloadN (pc' := 1) X d_prog_13_m1_0 rfl rfl rfl ?_
  refine W.initO (pc' := 4) (W := 0) X (w106 G) (w32 G) (w33 G) d_prog_13_m1_1 rfl (by decide) (Nat.le_of_eq rfl) (by decide) rfl fun T X => ?_
  refine W.aloadN (pc' := 5) X d_prog_13_m1_4 rfl rfl rfl ?_
  refine W.ldcO (pc' := 7) (k' := 2) (n' := 40) (cap := 36) X G.2.1 (w107 G) (watoms G) d_prog_13_m1_5 (by decide) (by decide) rfl (by decide) (by decide) (by decide) (by decide) fun T h1 B5 a2 X K3 zb4 => ?_
  refine W.callS (pc' := 10) (W := 0) (argsL := [(.ref q), (.ref a2)]) (st := []) (k' := 2) (n' := 40) X (c_reqnnS (a := q) (b := a2) G X.en) (w110 G) (w111 G) (w113 G) (w112 G) (by decide) (by decide) (by decide) rfl (lenOf pd18 rfl) rfl rfl (Nat.le_of_eq rfl) d_prog_13_m1_7 rfl (by decide) (by decide) (by decide) (by decide) (kp fun T X => ?_)
  refine W.popV (pc' := 11) X d_prog_13_m1_10 rfl rfl ?_
  refine W.aloadN (pc' := 12) X d_prog_13_m1_11 rfl rfl rfl ?_
  refine W.ldcO (pc' := 14) (k' := 4) (n' := 80) (cap := 36) X G.2.1 (w114 G) (watoms G) d_prog_13_m1_12 (by decide) (by decide) rfl (by decide) (by decide) (by decide) (by decide) fun T h6 B10 a7 X K8 zb9 => ?_
  refine W.callS (pc' := 17) (W := 0) (argsL := [(.ref a), (.ref a7)]) (st := []) (k' := 4) (n' := 80) X (c_reqnnS (a := a) (b := a7) G X.en) (w110 G) (w111 G) (w113 G) (w112 G) (by decide) (by decide) (by decide) rfl (lenOf pd18 rfl) rfl rfl (Nat.le_of_eq rfl) d_prog_13_m1_14 rfl (by decide) (by decide) (by decide) (by decide) (kp fun T X => ?_)
  refine W.popV (pc' := 18) X d_prog_13_m1_17 rfl rfl ?_
  refine W.iloadN (pc' := 19) X d_prog_13_m1_18 rfl rfl ?_
  refine W.ifT (pc' := 28) X d_prog_13_m1_19 (XT.i0_ge_t P10) (by decide) (by decide) ?_
  refine W.aloadN (pc' := 29) X d_prog_13_m1_28 rfl rfl rfl ?_
  refine W.aloadN (pc' := 30) X d_prog_13_m1_29 rfl rfl rfl ?_
  have F11 := ((P5.keep K3).keep K8)
  have F12 := ((P6.keep K3 nin0).keep K8 nin0)
  have F13 := ((P7.keep K3 nin0 nin0).keep K8 nin0 nin0)
  refine W.callV (pc' := 33) (W := 0) (argsL := [(.ref a)]) (st := []) (k' := 4) (n' := 80) (a := q) X (c_isSig (q := q) (a := a) (b := b) (cs := cs) (dl := dl) G X.en F12 F13 P8 P9) (w115 G) (w58 G) (nfM (z' := (⟨"com/example/campo_grande/campogrande/SignatureAlgorithm", "isSignature", "(Ljava/lang/String;)Z"⟩ : MethodName)) rfl (w60 G)) (w60 G) (w59 G) F11 (w61 G) (w9 G) (by decide) (by decide) (by decide) rfl (lenOf pd19 rfl) rfl rfl (Nat.le_of_eq rfl) d_prog_13_m1_30 rfl (by decide) (by decide) (by decide) (by decide) (kp fun T X => ?_)
  refine W.ifT (pc' := 55) X d_prog_13_m1_33 (by decide) (by decide) (by decide) ?_
  refine W.iload (pc' := 57) X d_prog_13_m1_55 rfl rfl ?_
  refine W.ifT (pc' := 66) X d_prog_13_m1_57 (XT.i0_ge_t P11) (by decide) (by decide) ?_
  refine W.aloadN (pc' := 67) X d_prog_13_m1_66 rfl rfl rfl ?_
  refine W.iloadN (pc' := 68) X d_prog_13_m1_67 rfl rfl ?_
  have F14 := ((P1.keep K3 nin0).keep K8 nin0)
  have F15 := ((P0.keep K3).keep K8)
  have nb19 : ¬ B5 x := fun q => (zb4 _ q).elim P13 (fun r => absurd (Nat.lt_of_lt_of_le P0.lt (Nat.le_refl _)) (Nat.not_lt.mpr r))
  have nb20 : ¬ B10 x := fun q => (zb9 _ q).elim nb19 (fun r => absurd (Nat.lt_of_lt_of_le P0.lt K3.1) (Nat.not_lt.mpr r))
  refine W.putF (pc' := 71) X (w116 G) Via.refl F14 F15 (Or.inr ⟨(w117 G), rfl, rfl⟩) (w101 G) (ty := .int) (by decide) rfl rfl P12 nb20 d_prog_13_m1_68 rfl fun T h16 X W17 => ?_
  have F18 := F14.same W17
  refine W.aloadN (pc' := 72) X d_prog_13_m1_71 rfl rfl rfl ?_
  refine W.aloadN (pc' := 73) X d_prog_13_m1_72 rfl rfl rfl ?_
  have F21 := (((P2.keep K3 nin0).keep K8 nin0).other W17 (Or.inr (slot_ne (Or.inr (w119 G)) (Or.inr (w117 G)) (by decide) (t := (.object "com/example/campo_grande/campogrande/SignatureAlgorithm")) (t' := .int) (by decide) (by decide))))
  have F22 := (F15.wr W17)
  refine W.putF (pc' := 76) X (w118 G) Via.refl F21 F22 (Or.inr ⟨(w119 G), rfl, rfl⟩) (w101 G) (ty := (.object "com/example/campo_grande/campogrande/SignatureAlgorithm")) (by decide) rfl rfl P12 nb20 d_prog_13_m1_73 rfl fun T h23 X W24 => ?_
  have F25 := F21.same W24
  refine W.aloadN (pc' := 77) X d_prog_13_m1_76 rfl rfl rfl ?_
  refine W.aloadN (pc' := 78) X d_prog_13_m1_77 rfl rfl rfl ?_
  have F26 := ((((P3.keep K3 nin0).keep K8 nin0).other W17 (Or.inr (slot_ne (Or.inr (w121 G)) (Or.inr (w117 G)) (by decide) (t := (.object "java/lang/String")) (t' := .int) (by decide) (by decide)))).other W24 (Or.inr (slot_ne (Or.inr (w121 G)) (Or.inr (w119 G)) (by decide) (t := (.object "java/lang/String")) (t' := (.object "com/example/campo_grande/campogrande/SignatureAlgorithm")) (by decide) (by decide))))
  have F27 := (F22.wr W24)
  refine W.putF (pc' := 81) X (w120 G) Via.refl F26 F27 (Or.inr ⟨(w121 G), rfl, rfl⟩) (w101 G) (ty := (.object "java/lang/String")) (by decide) rfl rfl P12 nb20 d_prog_13_m1_78 rfl fun T h28 X W29 => ?_
  have F30 := F26.same W29
  refine W.aloadN (pc' := 82) X d_prog_13_m1_81 rfl rfl rfl ?_
  refine W.iload (pc' := 84) X d_prog_13_m1_82 rfl rfl ?_
  have F31 := (((((P4.keep K3 nin0).keep K8 nin0).other W17 (Or.inr (slot_ne (Or.inr (w123 G)) (Or.inr (w117 G)) (by decide) (t := .int) (t' := .int) (by decide) (by decide)))).other W24 (Or.inr (slot_ne (Or.inr (w123 G)) (Or.inr (w119 G)) (by decide) (t := .int) (t' := (.object "com/example/campo_grande/campogrande/SignatureAlgorithm")) (by decide) (by decide)))).other W29 (Or.inr (slot_ne (Or.inr (w123 G)) (Or.inr (w121 G)) (by decide) (t := .int) (t' := (.object "java/lang/String")) (by decide) (by decide))))
  have F32 := (F27.wr W29)
  refine W.putF (pc' := 87) X (w122 G) Via.refl F31 F32 (Or.inr ⟨(w123 G), rfl, rfl⟩) (w101 G) (ty := .int) (by decide) rfl rfl P12 nb20 d_prog_13_m1_84 rfl fun T h33 X W34 => ?_
  have F35 := F31.same W34
  have F36 := (((F18.other W24 (Or.inr (slot_ne (Or.inr (w117 G)) (Or.inr (w119 G)) (by decide) (t := .int) (t' := (.object "com/example/campo_grande/campogrande/SignatureAlgorithm")) (by decide) (by decide)))).other W29 (Or.inr (slot_ne (Or.inr (w117 G)) (Or.inr (w121 G)) (by decide) (t := .int) (t' := (.object "java/lang/String")) (by decide) (by decide)))).other W34 (Or.inr (slot_ne (Or.inr (w117 G)) (Or.inr (w123 G)) (by decide) (t := .int) (t' := .int) (by decide) (by decide))))
  have F37 := ((F25.other W29 (Or.inr (slot_ne (Or.inr (w119 G)) (Or.inr (w121 G)) (by decide) (t := (.object "com/example/campo_grande/campogrande/SignatureAlgorithm")) (t' := (.object "java/lang/String")) (by decide) (by decide)))).other W34 (Or.inr (slot_ne (Or.inr (w119 G)) (Or.inr (w123 G)) (by decide) (t := (.object "com/example/campo_grande/campogrande/SignatureAlgorithm")) (t' := .int) (by decide) (by decide))))
  have F38 := (F30.other W34 (Or.inr (slot_ne (Or.inr (w121 G)) (Or.inr (w123 G)) (by decide) (t := (.object "java/lang/String")) (t' := .int) (by decide) (by decide))))
  exact W.vreturn X d_prog_13_m1_87 rfl (by decide) (by decide) ⟨rfl, ⟨(Keep.wr (Keep.wr (Keep.wr (Keep.wr (Keep.trans (Keep.trans (Keep.refl h [x]) K3 all0) K8 all0) W17 (Or.inl (List.mem_of_getElem? (i := 0) rfl))) W24 (Or.inl (List.mem_of_getElem? (i := 0) rfl))) W29 (Or.inl (List.mem_of_getElem? (i := 0) rfl))) W34 (Or.inl (List.mem_of_getElem? (i := 0) rfl))), F36, F37, F38, F35⟩⟩
def c_idx_rm : Room := { frames := 0, cells := 0, slots := 0, locals := 0 }
set_option maxRecDepth 65536 in
set_option maxHeartbeats 40000000 in
theorem c_idx {l : Launch} {Z : State} {a0 : Array Value} {zC : Int32} {fS : Value} {e0 : Addr} {e1 : Addr} {e2 : Addr} {h : Heap} {B : Addr → Prop} {n : Int32} (G : Gl Z a0 zC fS e0 e1 e2) (hE : En Z B h)  : Con l Z [] [] (⟨"com/example/campo_grande/campogrande/PayloadDigestEqualsPinLaw", "index", "(I)I"⟩ : MethodName) method_3_code 1 (some .int) c_idx_rm B h #[(.int n)] (fun vR hR BR => vR = some (.int ((n &&& (2147483647 : Int32)) % (3 : Int32))) ∧ hR = h ∧ BR = B) := by
  have hz0 := hE.1.1
  refine Con.intro (ls := #[.val (.int n)]) (plainFor_of_name pn21) G.2.1 hE (fun m => by first | rfl | (simp [entryFrame, mkF, argsToLocals, Value.category]; done) | rfl) ?_
  intro p e s m below meth c T hs X
  refine W.iloadN (pc' := 1) X d_m3_0 rfl rfl ?_
  refine W.ldcI (pc' := 3) X (w4 G) d_m3_1 rfl ?_
  refine W.iand (pc' := 4) (w := (n &&& (2147483647 : Int32))) X d_m3_3 rfl rfl ?_
  refine W.iconst (pc' := 5) X (3 : Int32) d_m3_4 (by decide) rfl ?_
  refine W.irem (pc' := 6) (w := ((n &&& (2147483647 : Int32)) % (3 : Int32))) X d_m3_5 (by decide) rfl rfl ?_
  exact W.ireturn X d_m3_6 rfl (by decide) rfl (by decide) (by decide) ⟨rfl, rfl, rfl⟩
def c_alg_rm : Room := { frames := 0, cells := 0, slots := 0, locals := 0 }
set_option maxRecDepth 65536 in
set_option maxHeartbeats 40000000 in
theorem c_alg {l : Launch} {Z : State} {a0 : Array Value} {zC : Int32} {fS : Value} {e0 : Addr} {e1 : Addr} {e2 : Addr} {h : Heap} {B : Addr → Prop} {i : Int32} (G : Gl Z a0 zC fS e0 e1 e2) (hE : En Z B h)  : Con l Z [] [] (⟨"com/example/campo_grande/campogrande/PayloadDigestEqualsPinLaw", "algorithm", "(I)Lcom/example/campo_grande/campogrande/SignatureAlgorithm;"⟩ : MethodName) method_4_code 1 (some (.object "com/example/campo_grande/campogrande/SignatureAlgorithm")) c_alg_rm B h #[(.int i)] (fun vR hR BR => vR = some (.ref (eOf e0 e1 e2 i)) ∧ hR = h ∧ BR = B) := by
  have hz0 := hE.1.1
  refine Con.intro (ls := #[.val (.int i)]) (plainFor_of_name pn21) G.2.1 hE (fun m => by first | rfl | (simp [entryFrame, mkF, argsToLocals, Value.category]; done) | rfl) ?_
  intro p e s m below meth c T hs X
  refine W.iloadN (pc' := 1) X d_m4_0 rfl rfl ?_
  by_cases hi0 : i = (0 : Int32)
  · skip
    refine W.ifF (pc' := 4) X d_m4_1 (XT.i0_ne_f hi0) rfl ?_
    refine W.getS (pc' := 7) (host := "") X (Or.inl (w8 G)) Via.refl G.2.2.2.2.2.2.1 d_m4_4 rfl fun T X => ?_
    exact W.areturn X d_m4_7 rfl rfl rfl rfl (by decide) (by decide) ⟨(by rw [eOf, if_pos hi0]), rfl, rfl⟩
  · skip
    refine W.ifT (pc' := 8) X d_m4_1 (XT.i0_ne_t hi0) (by decide) (by decide) ?_
    refine W.iloadN (pc' := 9) X d_m4_8 rfl rfl ?_
    refine W.iconst (pc' := 10) X (1 : Int32) d_m4_9 (by decide) rfl ?_
    by_cases hi1 : i = (1 : Int32)
    · skip
      refine W.icF (pc' := 13) X d_m4_10 (XT.ii_ne_f hi1) rfl ?_
      refine W.getS (pc' := 16) (host := "") X (Or.inl (w145 G)) Via.refl G.2.2.2.2.2.2.2.1 d_m4_13 rfl fun T X => ?_
      exact W.areturn X d_m4_16 rfl rfl rfl rfl (by decide) (by decide) ⟨(by rw [eOf, if_neg hi0, if_pos hi1]), rfl, rfl⟩
    · skip
      refine W.icT (pc' := 17) X d_m4_10 (XT.ii_ne_t hi1) (by decide) (by decide) ?_
      refine W.getS (pc' := 20) (host := "") X (Or.inl (w143 G)) Via.refl G.2.2.2.2.2.2.2.2.1 d_m4_17 rfl fun T X => ?_
      exact W.areturn X d_m4_20 rfl rfl rfl rfl (by decide) (by decide) ⟨(by rw [eOf, if_neg hi0, if_neg hi1]), rfl, rfl⟩
def c_lenI_rm : Room := { frames := 0, cells := 0, slots := 0, locals := 0 }
set_option maxRecDepth 65536 in
set_option maxHeartbeats 40000000 in
theorem c_lenI {l : Launch} {Z : State} {a0 : Array Value} {zC : Int32} {fS : Value} {e0 : Addr} {e1 : Addr} {e2 : Addr} {h : Heap} {B : Addr → Prop} {i : Int32} (G : Gl Z a0 zC fS e0 e1 e2) (hE : En Z B h)  : Con l Z [] [] (⟨"com/example/campo_grande/campogrande/PayloadDigestEqualsPinLaw", "length", "(I)I"⟩ : MethodName) method_5_code 1 (some .int) c_lenI_rm B h #[(.int i)] (fun vR hR BR => vR = some (.int (lnOf i)) ∧ hR = h ∧ BR = B) := by
  have hz0 := hE.1.1
  refine Con.intro (ls := #[.val (.int i)]) (plainFor_of_name pn21) G.2.1 hE (fun m => by first | rfl | (simp [entryFrame, mkF, argsToLocals, Value.category]; done) | rfl) ?_
  intro p e s m below meth c T hs X
  refine W.iloadN (pc' := 1) X d_m5_0 rfl rfl ?_
  by_cases hi0 : i = (0 : Int32)
  · skip
    refine W.ifF (pc' := 4) X d_m5_1 (XT.i0_ne_f hi0) rfl ?_
    refine W.bipush (pc' := 6) X (64 : Int32) d_m5_4 (by decide) rfl ?_
    exact W.ireturn X d_m5_6 rfl (by decide) rfl (by decide) (by decide) ⟨(by rw [lnOf, if_pos hi0]), rfl, rfl⟩
  · skip
    refine W.ifT (pc' := 7) X d_m5_1 (XT.i0_ne_t hi0) (by decide) (by decide) ?_
    refine W.iloadN (pc' := 8) X d_m5_7 rfl rfl ?_
    refine W.iconst (pc' := 9) X (1 : Int32) d_m5_8 (by decide) rfl ?_
    by_cases hi1 : i = (1 : Int32)
    · skip
      refine W.icF (pc' := 12) X d_m5_9 (XT.ii_ne_f hi1) rfl ?_
      refine W.bipush (pc' := 14) X (40 : Int32) d_m5_12 (by decide) rfl ?_
      exact W.ireturn X d_m5_14 rfl (by decide) rfl (by decide) (by decide) ⟨(by rw [lnOf, if_neg hi0, if_pos hi1]), rfl, rfl⟩
    · skip
      refine W.icT (pc' := 15) X d_m5_9 (XT.ii_ne_t hi1) (by decide) (by decide) ?_
      refine W.bipush (pc' := 17) X (32 : Int32) d_m5_15 (by decide) rfl ?_
      exact W.ireturn X d_m5_17 rfl (by decide) rfl (by decide) (by decide) ⟨(by rw [lnOf, if_neg hi0, if_neg hi1]), rfl, rfl⟩
def c_hex_rm : Room := { frames := 0, cells := 0, slots := 0, locals := 0 }
set_option maxRecDepth 65536 in
set_option maxHeartbeats 40000000 in
theorem c_hex {l : Launch} {Z : State} {a0 : Array Value} {zC : Int32} {fS : Value} {e0 : Addr} {e1 : Addr} {e2 : Addr} {h : Heap} {B : Addr → Prop} {n : Int32} (G : Gl Z a0 zC fS e0 e1 e2) (hE : En Z B h)  : Con l Z [] [] (⟨"com/example/campo_grande/campogrande/PayloadDigestEqualsPinLaw", "hex", "(I)C"⟩ : MethodName) method_6_code 2 (some .char) c_hex_rm B h #[(.int n)] (fun vR hR BR => vR = some (.int (hexd n)) ∧ hR = h ∧ BR = B) := by
  have hz0 := hE.1.1
  refine Con.intro (ls := #[.val (.int n), .unset]) (plainFor_of_name pn21) G.2.1 hE (fun m => by first | rfl | (simp [entryFrame, mkF, argsToLocals, Value.category]; done) | rfl) ?_
  intro p e s m below meth c T hs X
  refine W.iloadN (pc' := 1) X d_m6_0 rfl rfl ?_
  refine W.bipush (pc' := 3) X (15 : Int32) d_m6_1 (by decide) rfl ?_
  refine W.iand (pc' := 4) (w := (n &&& (15 : Int32))) X d_m6_3 rfl rfl ?_
  refine W.istoreN (pc' := 5) (ls' := #[.val (.int n), .val (.int (n &&& (15 : Int32)))]) X d_m6_4 rfl rfl ?_
  refine W.iloadN (pc' := 6) X d_m6_5 rfl rfl ?_
  refine W.bipush (pc' := 8) X (10 : Int32) d_m6_6 (by decide) rfl ?_
  by_cases hq10 : (n &&& (15 : Int32)) < (10 : Int32)
  · skip
    refine W.icF (pc' := 11) X d_m6_8 (XT.ii_ge_f hq10) rfl ?_
    refine W.bipush (pc' := 13) X (48 : Int32) d_m6_11 (by decide) rfl ?_
    refine W.iloadN (pc' := 14) X d_m6_13 rfl rfl ?_
    refine W.iadd (pc' := 15) (w := ((48 : Int32) + (n &&& (15 : Int32)))) X d_m6_14 rfl rfl ?_
    refine W.i2c (pc' := 16) (w := (hexd n)) X d_m6_15 (by have e : hexd n = (48 : Int32) + (n &&& (15 : Int32)) := (by unfold hexd hxd; rw [if_pos hq10]); rw [← e]; exact hex_nar (hexd_hex n)) rfl ?_
    exact W.ireturn X d_m6_16 rfl (by decide) (narc (to16 (hex_rng (hexd_hex n)))) (by decide) (by decide) ⟨rfl, rfl, rfl⟩
  · skip
    refine W.icT (pc' := 17) X d_m6_8 (XT.ii_ge_t hq10) (by decide) (by decide) ?_
    refine W.bipush (pc' := 19) X (97 : Int32) d_m6_17 (by decide) rfl ?_
    refine W.iloadN (pc' := 20) X d_m6_19 rfl rfl ?_
    refine W.bipush (pc' := 22) X (10 : Int32) d_m6_20 (by decide) rfl ?_
    refine W.isub (pc' := 23) (w := ((n &&& (15 : Int32)) - (10 : Int32))) X d_m6_22 rfl rfl ?_
    refine W.iadd (pc' := 24) (w := ((97 : Int32) + ((n &&& (15 : Int32)) - (10 : Int32)))) X d_m6_23 rfl rfl ?_
    refine W.i2c (pc' := 25) (w := (hexd n)) X d_m6_24 (by have e : hexd n = (97 : Int32) + ((n &&& (15 : Int32)) - (10 : Int32)) := (by unfold hexd hxd; rw [if_neg hq10]); rw [← e]; exact hex_nar (hexd_hex n)) rfl ?_
    exact W.ireturn X d_m6_25 rfl (by decide) (narc (to16 (hex_rng (hexd_hex n)))) (by decide) (by decide) ⟨rfl, rfl, rfl⟩
abbrev c_fill_q (Z : State) (zC : Int32) (fS : Value) (e0 : Addr) (e1 : Addr) (e2 : Addr) (h : Heap) (B : Addr → Prop) (i d : Int32) (xR : Value) (h' : Heap) : Prop := ∃ (t : Addr), xR = (.ref t) ∧ Keep h h' [] ∧ h.size ≤ t ∧ Ar Z h' t .char ((List.replicate (lnN i) d).map Value.int)
def c_fill_rm : Room := { frames := 0, cells := 1, slots := 64, locals := 0 }
set_option maxRecDepth 65536 in
set_option maxHeartbeats 40000000 in
theorem c_fill {l : Launch} {Z : State} {a0 : Array Value} {zC : Int32} {fS : Value} {e0 : Addr} {e1 : Addr} {e2 : Addr} {h : Heap} {B : Addr → Prop} {i d : Int32} (G : Gl Z a0 zC fS e0 e1 e2) (hE : En Z B h) (P0 : i3 i) (P1 : nar .char d = d) : Con l Z [] [] (⟨"com/example/campo_grande/campogrande/PayloadDigestEqualsPinLaw", "filled", "(IC)[C"⟩ : MethodName) method_7_code 2 (some (.array .char)) c_fill_rm B h #[(.int (lnOf i)), (.int d)] (fun vR hR BR => ∃ xR, vR = some xR ∧ BR = B ∧ c_fill_q Z zC fS e0 e1 e2 h B i d xR hR) := by
  have hz0 := hE.1.1
  refine Con.intro (ls := #[.val (.int (lnOf i)), .val (.int d)]) (plainFor_of_name pn21) G.2.1 hE (fun m => by first | rfl | (simp [entryFrame, mkF, argsToLocals, Value.category]; done) | rfl) ?_
  intro p e s m below meth c T hs X
  refine W.iloadN (pc' := 1) X d_m7_0 rfl rfl ?_
  refine W.bipush (pc' := 3) X (32 : Int32) d_m7_1 (by decide) rfl ?_
  by_cases hq32 : (lnOf i) = (32 : Int32)
  · skip
    refine W.icF (pc' := 6) X d_m7_3 (XT.ii_ne_f hq32) rfl ?_
    refine W.bipush (pc' := 8) X (32 : Int32) d_m7_6 (by decide) rfl ?_
    refine W.newA (aty := .char) (pc' := 10) (k' := 1) (n' := 32) (cap := 32) X (w20 G) d_m7_8 (by decide) (by decide) (by decide) rfl (by decide) (by decide) (by decide) (by decide) fun T h1 a2 X K3 g4 g5 nb6 A7 => ?_
    have A7 : Ar Z h1 a2 .char [(.int (0 : Int32)), (.int (0 : Int32)), (.int (0 : Int32)), (.int (0 : Int32)), (.int (0 : Int32)), (.int (0 : Int32)), (.int (0 : Int32)), (.int (0 : Int32)), (.int (0 : Int32)), (.int (0 : Int32)), (.int (0 : Int32)), (.int (0 : Int32)), (.int (0 : Int32)), (.int (0 : Int32)), (.int (0 : Int32)), (.int (0 : Int32)), (.int (0 : Int32)), (.int (0 : Int32)), (.int (0 : Int32)), (.int (0 : Int32)), (.int (0 : Int32)), (.int (0 : Int32)), (.int (0 : Int32)), (.int (0 : Int32)), (.int (0 : Int32)), (.int (0 : Int32)), (.int (0 : Int32)), (.int (0 : Int32)), (.int (0 : Int32)), (.int (0 : Int32)), (.int (0 : Int32)), (.int (0 : Int32))] := A7
    refine W.dup (pc' := 11) X d_m7_10 rfl rfl ?_
    refine W.iconst (pc' := 12) X (0 : Int32) d_m7_11 (by decide) rfl ?_
    refine W.iloadN (pc' := 13) X d_m7_12 rfl rfl ?_
    refine W.castore (pc' := 14) (i := 0) X A7 (by decide) rfl (ltb rfl) P1 g5 nb6 d_m7_13 rfl fun T h8 X K9 A10 => ?_
    have A10 : Ar Z h8 a2 .char [(.int d), (.int (0 : Int32)), (.int (0 : Int32)), (.int (0 : Int32)), (.int (0 : Int32)), (.int (0 : Int32)), (.int (0 : Int32)), (.int (0 : Int32)), (.int (0 : Int32)), (.int (0 : Int32)), (.int (0 : Int32)), (.int (0 : Int32)), (.int (0 : Int32)), (.int (0 : Int32)), (.int (0 : Int32)), (.int (0 : Int32)), (.int (0 : Int32)), (.int (0 : Int32)), (.int (0 : Int32)), (.int (0 : Int32)), (.int (0 : Int32)), (.int (0 : Int32)), (.int (0 : Int32)), (.int (0 : Int32)), (.int (0 : Int32)), (.int (0 : Int32)), (.int (0 : Int32)), (.int (0 : Int32)), (.int (0 : Int32)), (.int (0 : Int32)), (.int (0 : Int32)), (.int (0 : Int32))] := A10
    refine W.dup (pc' := 15) X d_m7_14 rfl rfl ?_
    refine W.iconst (pc' := 16) X (1 : Int32) d_m7_15 (by decide) rfl ?_
    refine W.iloadN (pc' := 17) X d_m7_16 rfl rfl ?_
    refine W.castore (pc' := 18) (i := 1) X A10 (by decide) rfl (ltb rfl) P1 g5 nb6 d_m7_17 rfl fun T h11 X K12 A13 => ?_
    have A13 : Ar Z h11 a2 .char [(.int d), (.int d), (.int (0 : Int32)), (.int (0 : Int32)), (.int (0 : Int32)), (.int (0 : Int32)), (.int (0 : Int32)), (.int (0 : Int32)), (.int (0 : Int32)), (.int (0 : Int32)), (.int (0 : Int32)), (.int (0 : Int32)), (.int (0 : Int32)), (.int (0 : Int32)), (.int (0 : Int32)), (.int (0 : Int32)), (.int (0 : Int32)), (.int (0 : Int32)), (.int (0 : Int32)), (.int (0 : Int32)), (.int (0 : Int32)), (.int (0 : Int32)), (.int (0 : Int32)), (.int (0 : Int32)), (.int (0 : Int32)), (.int (0 : Int32)), (.int (0 : Int32)), (.int (0 : Int32)), (.int (0 : Int32)), (.int (0 : Int32)), (.int (0 : Int32)), (.int (0 : Int32))] := A13
    refine W.dup (pc' := 19) X d_m7_18 rfl rfl ?_
    refine W.iconst (pc' := 20) X (2 : Int32) d_m7_19 (by decide) rfl ?_
    refine W.iloadN (pc' := 21) X d_m7_20 rfl rfl ?_
    refine W.castore (pc' := 22) (i := 2) X A13 (by decide) rfl (ltb rfl) P1 g5 nb6 d_m7_21 rfl fun T h14 X K15 A16 => ?_
    have A16 : Ar Z h14 a2 .char [(.int d), (.int d), (.int d), (.int (0 : Int32)), (.int (0 : Int32)), (.int (0 : Int32)), (.int (0 : Int32)), (.int (0 : Int32)), (.int (0 : Int32)), (.int (0 : Int32)), (.int (0 : Int32)), (.int (0 : Int32)), (.int (0 : Int32)), (.int (0 : Int32)), (.int (0 : Int32)), (.int (0 : Int32)), (.int (0 : Int32)), (.int (0 : Int32)), (.int (0 : Int32)), (.int (0 : Int32)), (.int (0 : Int32)), (.int (0 : Int32)), (.int (0 : Int32)), (.int (0 : Int32)), (.int (0 : Int32)), (.int (0 : Int32)), (.int (0 : Int32)), (.int (0 : Int32)), (.int (0 : Int32)), (.int (0 : Int32)), (.int (0 : Int32)), (.int (0 : Int32))] := A16
    refine W.dup (pc' := 23) X d_m7_22 rfl rfl ?_
    refine W.iconst (pc' := 24) X (3 : Int32) d_m7_23 (by decide) rfl ?_
    refine W.iloadN (pc' := 25) X d_m7_24 rfl rfl ?_
    refine W.castore (pc' := 26) (i := 3) X A16 (by decide) rfl (ltb rfl) P1 g5 nb6 d_m7_25 rfl fun T h17 X K18 A19 => ?_
    have A19 : Ar Z h17 a2 .char [(.int d), (.int d), (.int d), (.int d), (.int (0 : Int32)), (.int (0 : Int32)), (.int (0 : Int32)), (.int (0 : Int32)), (.int (0 : Int32)), (.int (0 : Int32)), (.int (0 : Int32)), (.int (0 : Int32)), (.int (0 : Int32)), (.int (0 : Int32)), (.int (0 : Int32)), (.int (0 : Int32)), (.int (0 : Int32)), (.int (0 : Int32)), (.int (0 : Int32)), (.int (0 : Int32)), (.int (0 : Int32)), (.int (0 : Int32)), (.int (0 : Int32)), (.int (0 : Int32)), (.int (0 : Int32)), (.int (0 : Int32)), (.int (0 : Int32)), (.int (0 : Int32)), (.int (0 : Int32)), (.int (0 : Int32)), (.int (0 : Int32)), (.int (0 : Int32))] := A19
    refine W.dup (pc' := 27) X d_m7_26 rfl rfl ?_
    refine W.iconst (pc' := 28) X (4 : Int32) d_m7_27 (by decide) rfl ?_
    refine W.iloadN (pc' := 29) X d_m7_28 rfl rfl ?_
    refine W.castore (pc' := 30) (i := 4) X A19 (by decide) rfl (ltb rfl) P1 g5 nb6 d_m7_29 rfl fun T h20 X K21 A22 => ?_
    have A22 : Ar Z h20 a2 .char [(.int d), (.int d), (.int d), (.int d), (.int d), (.int (0 : Int32)), (.int (0 : Int32)), (.int (0 : Int32)), (.int (0 : Int32)), (.int (0 : Int32)), (.int (0 : Int32)), (.int (0 : Int32)), (.int (0 : Int32)), (.int (0 : Int32)), (.int (0 : Int32)), (.int (0 : Int32)), (.int (0 : Int32)), (.int (0 : Int32)), (.int (0 : Int32)), (.int (0 : Int32)), (.int (0 : Int32)), (.int (0 : Int32)), (.int (0 : Int32)), (.int (0 : Int32)), (.int (0 : Int32)), (.int (0 : Int32)), (.int (0 : Int32)), (.int (0 : Int32)), (.int (0 : Int32)), (.int (0 : Int32)), (.int (0 : Int32)), (.int (0 : Int32))] := A22
    refine W.dup (pc' := 31) X d_m7_30 rfl rfl ?_
    refine W.iconst (pc' := 32) X (5 : Int32) d_m7_31 (by decide) rfl ?_
    refine W.iloadN (pc' := 33) X d_m7_32 rfl rfl ?_
    refine W.castore (pc' := 34) (i := 5) X A22 (by decide) rfl (ltb rfl) P1 g5 nb6 d_m7_33 rfl fun T h23 X K24 A25 => ?_
    have A25 : Ar Z h23 a2 .char [(.int d), (.int d), (.int d), (.int d), (.int d), (.int d), (.int (0 : Int32)), (.int (0 : Int32)), (.int (0 : Int32)), (.int (0 : Int32)), (.int (0 : Int32)), (.int (0 : Int32)), (.int (0 : Int32)), (.int (0 : Int32)), (.int (0 : Int32)), (.int (0 : Int32)), (.int (0 : Int32)), (.int (0 : Int32)), (.int (0 : Int32)), (.int (0 : Int32)), (.int (0 : Int32)), (.int (0 : Int32)), (.int (0 : Int32)), (.int (0 : Int32)), (.int (0 : Int32)), (.int (0 : Int32)), (.int (0 : Int32)), (.int (0 : Int32)), (.int (0 : Int32)), (.int (0 : Int32)), (.int (0 : Int32)), (.int (0 : Int32))] := A25
    refine W.dup (pc' := 35) X d_m7_34 rfl rfl ?_
    refine W.bipush (pc' := 37) X (6 : Int32) d_m7_35 (by decide) rfl ?_
    refine W.iloadN (pc' := 38) X d_m7_37 rfl rfl ?_
    refine W.castore (pc' := 39) (i := 6) X A25 (by decide) rfl (ltb rfl) P1 g5 nb6 d_m7_38 rfl fun T h26 X K27 A28 => ?_
    have A28 : Ar Z h26 a2 .char [(.int d), (.int d), (.int d), (.int d), (.int d), (.int d), (.int d), (.int (0 : Int32)), (.int (0 : Int32)), (.int (0 : Int32)), (.int (0 : Int32)), (.int (0 : Int32)), (.int (0 : Int32)), (.int (0 : Int32)), (.int (0 : Int32)), (.int (0 : Int32)), (.int (0 : Int32)), (.int (0 : Int32)), (.int (0 : Int32)), (.int (0 : Int32)), (.int (0 : Int32)), (.int (0 : Int32)), (.int (0 : Int32)), (.int (0 : Int32)), (.int (0 : Int32)), (.int (0 : Int32)), (.int (0 : Int32)), (.int (0 : Int32)), (.int (0 : Int32)), (.int (0 : Int32)), (.int (0 : Int32)), (.int (0 : Int32))] := A28
    refine W.dup (pc' := 40) X d_m7_39 rfl rfl ?_
    refine W.bipush (pc' := 42) X (7 : Int32) d_m7_40 (by decide) rfl ?_
    refine W.iloadN (pc' := 43) X d_m7_42 rfl rfl ?_
    refine W.castore (pc' := 44) (i := 7) X A28 (by decide) rfl (ltb rfl) P1 g5 nb6 d_m7_43 rfl fun T h29 X K30 A31 => ?_
    have A31 : Ar Z h29 a2 .char [(.int d), (.int d), (.int d), (.int d), (.int d), (.int d), (.int d), (.int d), (.int (0 : Int32)), (.int (0 : Int32)), (.int (0 : Int32)), (.int (0 : Int32)), (.int (0 : Int32)), (.int (0 : Int32)), (.int (0 : Int32)), (.int (0 : Int32)), (.int (0 : Int32)), (.int (0 : Int32)), (.int (0 : Int32)), (.int (0 : Int32)), (.int (0 : Int32)), (.int (0 : Int32)), (.int (0 : Int32)), (.int (0 : Int32)), (.int (0 : Int32)), (.int (0 : Int32)), (.int (0 : Int32)), (.int (0 : Int32)), (.int (0 : Int32)), (.int (0 : Int32)), (.int (0 : Int32)), (.int (0 : Int32))] := A31
    refine W.dup (pc' := 45) X d_m7_44 rfl rfl ?_
    refine W.bipush (pc' := 47) X (8 : Int32) d_m7_45 (by decide) rfl ?_
    refine W.iloadN (pc' := 48) X d_m7_47 rfl rfl ?_
    refine W.castore (pc' := 49) (i := 8) X A31 (by decide) rfl (ltb rfl) P1 g5 nb6 d_m7_48 rfl fun T h32 X K33 A34 => ?_
    have A34 : Ar Z h32 a2 .char [(.int d), (.int d), (.int d), (.int d), (.int d), (.int d), (.int d), (.int d), (.int d), (.int (0 : Int32)), (.int (0 : Int32)), (.int (0 : Int32)), (.int (0 : Int32)), (.int (0 : Int32)), (.int (0 : Int32)), (.int (0 : Int32)), (.int (0 : Int32)), (.int (0 : Int32)), (.int (0 : Int32)), (.int (0 : Int32)), (.int (0 : Int32)), (.int (0 : Int32)), (.int (0 : Int32)), (.int (0 : Int32)), (.int (0 : Int32)), (.int (0 : Int32)), (.int (0 : Int32)), (.int (0 : Int32)), (.int (0 : Int32)), (.int (0 : Int32)), (.int (0 : Int32)), (.int (0 : Int32))] := A34
    refine W.dup (pc' := 50) X d_m7_49 rfl rfl ?_
    refine W.bipush (pc' := 52) X (9 : Int32) d_m7_50 (by decide) rfl ?_
    refine W.iloadN (pc' := 53) X d_m7_52 rfl rfl ?_
    refine W.castore (pc' := 54) (i := 9) X A34 (by decide) rfl (ltb rfl) P1 g5 nb6 d_m7_53 rfl fun T h35 X K36 A37 => ?_
    have A37 : Ar Z h35 a2 .char [(.int d), (.int d), (.int d), (.int d), (.int d), (.int d), (.int d), (.int d), (.int d), (.int d), (.int (0 : Int32)), (.int (0 : Int32)), (.int (0 : Int32)), (.int (0 : Int32)), (.int (0 : Int32)), (.int (0 : Int32)), (.int (0 : Int32)), (.int (0 : Int32)), (.int (0 : Int32)), (.int (0 : Int32)), (.int (0 : Int32)), (.int (0 : Int32)), (.int (0 : Int32)), (.int (0 : Int32)), (.int (0 : Int32)), (.int (0 : Int32)), (.int (0 : Int32)), (.int (0 : Int32)), (.int (0 : Int32)), (.int (0 : Int32)), (.int (0 : Int32)), (.int (0 : Int32))] := A37
    refine W.dup (pc' := 55) X d_m7_54 rfl rfl ?_
    refine W.bipush (pc' := 57) X (10 : Int32) d_m7_55 (by decide) rfl ?_
    refine W.iloadN (pc' := 58) X d_m7_57 rfl rfl ?_
    refine W.castore (pc' := 59) (i := 10) X A37 (by decide) rfl (ltb rfl) P1 g5 nb6 d_m7_58 rfl fun T h38 X K39 A40 => ?_
    have A40 : Ar Z h38 a2 .char [(.int d), (.int d), (.int d), (.int d), (.int d), (.int d), (.int d), (.int d), (.int d), (.int d), (.int d), (.int (0 : Int32)), (.int (0 : Int32)), (.int (0 : Int32)), (.int (0 : Int32)), (.int (0 : Int32)), (.int (0 : Int32)), (.int (0 : Int32)), (.int (0 : Int32)), (.int (0 : Int32)), (.int (0 : Int32)), (.int (0 : Int32)), (.int (0 : Int32)), (.int (0 : Int32)), (.int (0 : Int32)), (.int (0 : Int32)), (.int (0 : Int32)), (.int (0 : Int32)), (.int (0 : Int32)), (.int (0 : Int32)), (.int (0 : Int32)), (.int (0 : Int32))] := A40
    refine W.dup (pc' := 60) X d_m7_59 rfl rfl ?_
    refine W.bipush (pc' := 62) X (11 : Int32) d_m7_60 (by decide) rfl ?_
    refine W.iloadN (pc' := 63) X d_m7_62 rfl rfl ?_
    refine W.castore (pc' := 64) (i := 11) X A40 (by decide) rfl (ltb rfl) P1 g5 nb6 d_m7_63 rfl fun T h41 X K42 A43 => ?_
    have A43 : Ar Z h41 a2 .char [(.int d), (.int d), (.int d), (.int d), (.int d), (.int d), (.int d), (.int d), (.int d), (.int d), (.int d), (.int d), (.int (0 : Int32)), (.int (0 : Int32)), (.int (0 : Int32)), (.int (0 : Int32)), (.int (0 : Int32)), (.int (0 : Int32)), (.int (0 : Int32)), (.int (0 : Int32)), (.int (0 : Int32)), (.int (0 : Int32)), (.int (0 : Int32)), (.int (0 : Int32)), (.int (0 : Int32)), (.int (0 : Int32)), (.int (0 : Int32)), (.int (0 : Int32)), (.int (0 : Int32)), (.int (0 : Int32)), (.int (0 : Int32)), (.int (0 : Int32))] := A43
    refine W.dup (pc' := 65) X d_m7_64 rfl rfl ?_
    refine W.bipush (pc' := 67) X (12 : Int32) d_m7_65 (by decide) rfl ?_
    refine W.iloadN (pc' := 68) X d_m7_67 rfl rfl ?_
    refine W.castore (pc' := 69) (i := 12) X A43 (by decide) rfl (ltb rfl) P1 g5 nb6 d_m7_68 rfl fun T h44 X K45 A46 => ?_
    have A46 : Ar Z h44 a2 .char [(.int d), (.int d), (.int d), (.int d), (.int d), (.int d), (.int d), (.int d), (.int d), (.int d), (.int d), (.int d), (.int d), (.int (0 : Int32)), (.int (0 : Int32)), (.int (0 : Int32)), (.int (0 : Int32)), (.int (0 : Int32)), (.int (0 : Int32)), (.int (0 : Int32)), (.int (0 : Int32)), (.int (0 : Int32)), (.int (0 : Int32)), (.int (0 : Int32)), (.int (0 : Int32)), (.int (0 : Int32)), (.int (0 : Int32)), (.int (0 : Int32)), (.int (0 : Int32)), (.int (0 : Int32)), (.int (0 : Int32)), (.int (0 : Int32))] := A46
    refine W.dup (pc' := 70) X d_m7_69 rfl rfl ?_
    refine W.bipush (pc' := 72) X (13 : Int32) d_m7_70 (by decide) rfl ?_
    refine W.iloadN (pc' := 73) X d_m7_72 rfl rfl ?_
    refine W.castore (pc' := 74) (i := 13) X A46 (by decide) rfl (ltb rfl) P1 g5 nb6 d_m7_73 rfl fun T h47 X K48 A49 => ?_
    have A49 : Ar Z h47 a2 .char [(.int d), (.int d), (.int d), (.int d), (.int d), (.int d), (.int d), (.int d), (.int d), (.int d), (.int d), (.int d), (.int d), (.int d), (.int (0 : Int32)), (.int (0 : Int32)), (.int (0 : Int32)), (.int (0 : Int32)), (.int (0 : Int32)), (.int (0 : Int32)), (.int (0 : Int32)), (.int (0 : Int32)), (.int (0 : Int32)), (.int (0 : Int32)), (.int (0 : Int32)), (.int (0 : Int32)), (.int (0 : Int32)), (.int (0 : Int32)), (.int (0 : Int32)), (.int (0 : Int32)), (.int (0 : Int32)), (.int (0 : Int32))] := A49
    refine W.dup (pc' := 75) X d_m7_74 rfl rfl ?_
    refine W.bipush (pc' := 77) X (14 : Int32) d_m7_75 (by decide) rfl ?_
    refine W.iloadN (pc' := 78) X d_m7_77 rfl rfl ?_
    refine W.castore (pc' := 79) (i := 14) X A49 (by decide) rfl (ltb rfl) P1 g5 nb6 d_m7_78 rfl fun T h50 X K51 A52 => ?_
    have A52 : Ar Z h50 a2 .char [(.int d), (.int d), (.int d), (.int d), (.int d), (.int d), (.int d), (.int d), (.int d), (.int d), (.int d), (.int d), (.int d), (.int d), (.int d), (.int (0 : Int32)), (.int (0 : Int32)), (.int (0 : Int32)), (.int (0 : Int32)), (.int (0 : Int32)), (.int (0 : Int32)), (.int (0 : Int32)), (.int (0 : Int32)), (.int (0 : Int32)), (.int (0 : Int32)), (.int (0 : Int32)), (.int (0 : Int32)), (.int (0 : Int32)), (.int (0 : Int32)), (.int (0 : Int32)), (.int (0 : Int32)), (.int (0 : Int32))] := A52
    refine W.dup (pc' := 80) X d_m7_79 rfl rfl ?_
    refine W.bipush (pc' := 82) X (15 : Int32) d_m7_80 (by decide) rfl ?_
    refine W.iloadN (pc' := 83) X d_m7_82 rfl rfl ?_
    refine W.castore (pc' := 84) (i := 15) X A52 (by decide) rfl (ltb rfl) P1 g5 nb6 d_m7_83 rfl fun T h53 X K54 A55 => ?_
    have A55 : Ar Z h53 a2 .char [(.int d), (.int d), (.int d), (.int d), (.int d), (.int d), (.int d), (.int d), (.int d), (.int d), (.int d), (.int d), (.int d), (.int d), (.int d), (.int d), (.int (0 : Int32)), (.int (0 : Int32)), (.int (0 : Int32)), (.int (0 : Int32)), (.int (0 : Int32)), (.int (0 : Int32)), (.int (0 : Int32)), (.int (0 : Int32)), (.int (0 : Int32)), (.int (0 : Int32)), (.int (0 : Int32)), (.int (0 : Int32)), (.int (0 : Int32)), (.int (0 : Int32)), (.int (0 : Int32)), (.int (0 : Int32))] := A55
    refine W.dup (pc' := 85) X d_m7_84 rfl rfl ?_
    refine W.bipush (pc' := 87) X (16 : Int32) d_m7_85 (by decide) rfl ?_
    refine W.iloadN (pc' := 88) X d_m7_87 rfl rfl ?_
    refine W.castore (pc' := 89) (i := 16) X A55 (by decide) rfl (ltb rfl) P1 g5 nb6 d_m7_88 rfl fun T h56 X K57 A58 => ?_
    have A58 : Ar Z h56 a2 .char [(.int d), (.int d), (.int d), (.int d), (.int d), (.int d), (.int d), (.int d), (.int d), (.int d), (.int d), (.int d), (.int d), (.int d), (.int d), (.int d), (.int d), (.int (0 : Int32)), (.int (0 : Int32)), (.int (0 : Int32)), (.int (0 : Int32)), (.int (0 : Int32)), (.int (0 : Int32)), (.int (0 : Int32)), (.int (0 : Int32)), (.int (0 : Int32)), (.int (0 : Int32)), (.int (0 : Int32)), (.int (0 : Int32)), (.int (0 : Int32)), (.int (0 : Int32)), (.int (0 : Int32))] := A58
    refine W.dup (pc' := 90) X d_m7_89 rfl rfl ?_
    refine W.bipush (pc' := 92) X (17 : Int32) d_m7_90 (by decide) rfl ?_
    refine W.iloadN (pc' := 93) X d_m7_92 rfl rfl ?_
    refine W.castore (pc' := 94) (i := 17) X A58 (by decide) rfl (ltb rfl) P1 g5 nb6 d_m7_93 rfl fun T h59 X K60 A61 => ?_
    have A61 : Ar Z h59 a2 .char [(.int d), (.int d), (.int d), (.int d), (.int d), (.int d), (.int d), (.int d), (.int d), (.int d), (.int d), (.int d), (.int d), (.int d), (.int d), (.int d), (.int d), (.int d), (.int (0 : Int32)), (.int (0 : Int32)), (.int (0 : Int32)), (.int (0 : Int32)), (.int (0 : Int32)), (.int (0 : Int32)), (.int (0 : Int32)), (.int (0 : Int32)), (.int (0 : Int32)), (.int (0 : Int32)), (.int (0 : Int32)), (.int (0 : Int32)), (.int (0 : Int32)), (.int (0 : Int32))] := A61
    refine W.dup (pc' := 95) X d_m7_94 rfl rfl ?_
    refine W.bipush (pc' := 97) X (18 : Int32) d_m7_95 (by decide) rfl ?_
    refine W.iloadN (pc' := 98) X d_m7_97 rfl rfl ?_
    refine W.castore (pc' := 99) (i := 18) X A61 (by decide) rfl (ltb rfl) P1 g5 nb6 d_m7_98 rfl fun T h62 X K63 A64 => ?_
    have A64 : Ar Z h62 a2 .char [(.int d), (.int d), (.int d), (.int d), (.int d), (.int d), (.int d), (.int d), (.int d), (.int d), (.int d), (.int d), (.int d), (.int d), (.int d), (.int d), (.int d), (.int d), (.int d), (.int (0 : Int32)), (.int (0 : Int32)), (.int (0 : Int32)), (.int (0 : Int32)), (.int (0 : Int32)), (.int (0 : Int32)), (.int (0 : Int32)), (.int (0 : Int32)), (.int (0 : Int32)), (.int (0 : Int32)), (.int (0 : Int32)), (.int (0 : Int32)), (.int (0 : Int32))] := A64
    refine W.dup (pc' := 100) X d_m7_99 rfl rfl ?_
    refine W.bipush (pc' := 102) X (19 : Int32) d_m7_100 (by decide) rfl ?_
    refine W.iloadN (pc' := 103) X d_m7_102 rfl rfl ?_
    refine W.castore (pc' := 104) (i := 19) X A64 (by decide) rfl (ltb rfl) P1 g5 nb6 d_m7_103 rfl fun T h65 X K66 A67 => ?_
    have A67 : Ar Z h65 a2 .char [(.int d), (.int d), (.int d), (.int d), (.int d), (.int d), (.int d), (.int d), (.int d), (.int d), (.int d), (.int d), (.int d), (.int d), (.int d), (.int d), (.int d), (.int d), (.int d), (.int d), (.int (0 : Int32)), (.int (0 : Int32)), (.int (0 : Int32)), (.int (0 : Int32)), (.int (0 : Int32)), (.int (0 : Int32)), (.int (0 : Int32)), (.int (0 : Int32)), (.int (0 : Int32)), (.int (0 : Int32)), (.int (0 : Int32)), (.int (0 : Int32))] := A67
    refine W.dup (pc' := 105) X d_m7_104 rfl rfl ?_
    refine W.bipush (pc' := 107) X (20 : Int32) d_m7_105 (by decide) rfl ?_
    refine W.iloadN (pc' := 108) X d_m7_107 rfl rfl ?_
    refine W.castore (pc' := 109) (i := 20) X A67 (by decide) rfl (ltb rfl) P1 g5 nb6 d_m7_108 rfl fun T h68 X K69 A70 => ?_
    have A70 : Ar Z h68 a2 .char [(.int d), (.int d), (.int d), (.int d), (.int d), (.int d), (.int d), (.int d), (.int d), (.int d), (.int d), (.int d), (.int d), (.int d), (.int d), (.int d), (.int d), (.int d), (.int d), (.int d), (.int d), (.int (0 : Int32)), (.int (0 : Int32)), (.int (0 : Int32)), (.int (0 : Int32)), (.int (0 : Int32)), (.int (0 : Int32)), (.int (0 : Int32)), (.int (0 : Int32)), (.int (0 : Int32)), (.int (0 : Int32)), (.int (0 : Int32))] := A70
    refine W.dup (pc' := 110) X d_m7_109 rfl rfl ?_
    refine W.bipush (pc' := 112) X (21 : Int32) d_m7_110 (by decide) rfl ?_
    refine W.iloadN (pc' := 113) X d_m7_112 rfl rfl ?_
    refine W.castore (pc' := 114) (i := 21) X A70 (by decide) rfl (ltb rfl) P1 g5 nb6 d_m7_113 rfl fun T h71 X K72 A73 => ?_
    have A73 : Ar Z h71 a2 .char [(.int d), (.int d), (.int d), (.int d), (.int d), (.int d), (.int d), (.int d), (.int d), (.int d), (.int d), (.int d), (.int d), (.int d), (.int d), (.int d), (.int d), (.int d), (.int d), (.int d), (.int d), (.int d), (.int (0 : Int32)), (.int (0 : Int32)), (.int (0 : Int32)), (.int (0 : Int32)), (.int (0 : Int32)), (.int (0 : Int32)), (.int (0 : Int32)), (.int (0 : Int32)), (.int (0 : Int32)), (.int (0 : Int32))] := A73
    refine W.dup (pc' := 115) X d_m7_114 rfl rfl ?_
    refine W.bipush (pc' := 117) X (22 : Int32) d_m7_115 (by decide) rfl ?_
    refine W.iloadN (pc' := 118) X d_m7_117 rfl rfl ?_
    refine W.castore (pc' := 119) (i := 22) X A73 (by decide) rfl (ltb rfl) P1 g5 nb6 d_m7_118 rfl fun T h74 X K75 A76 => ?_
    have A76 : Ar Z h74 a2 .char [(.int d), (.int d), (.int d), (.int d), (.int d), (.int d), (.int d), (.int d), (.int d), (.int d), (.int d), (.int d), (.int d), (.int d), (.int d), (.int d), (.int d), (.int d), (.int d), (.int d), (.int d), (.int d), (.int d), (.int (0 : Int32)), (.int (0 : Int32)), (.int (0 : Int32)), (.int (0 : Int32)), (.int (0 : Int32)), (.int (0 : Int32)), (.int (0 : Int32)), (.int (0 : Int32)), (.int (0 : Int32))] := A76
    refine W.dup (pc' := 120) X d_m7_119 rfl rfl ?_
    refine W.bipush (pc' := 122) X (23 : Int32) d_m7_120 (by decide) rfl ?_
    refine W.iloadN (pc' := 123) X d_m7_122 rfl rfl ?_
    refine W.castore (pc' := 124) (i := 23) X A76 (by decide) rfl (ltb rfl) P1 g5 nb6 d_m7_123 rfl fun T h77 X K78 A79 => ?_
    have A79 : Ar Z h77 a2 .char [(.int d), (.int d), (.int d), (.int d), (.int d), (.int d), (.int d), (.int d), (.int d), (.int d), (.int d), (.int d), (.int d), (.int d), (.int d), (.int d), (.int d), (.int d), (.int d), (.int d), (.int d), (.int d), (.int d), (.int d), (.int (0 : Int32)), (.int (0 : Int32)), (.int (0 : Int32)), (.int (0 : Int32)), (.int (0 : Int32)), (.int (0 : Int32)), (.int (0 : Int32)), (.int (0 : Int32))] := A79
    refine W.dup (pc' := 125) X d_m7_124 rfl rfl ?_
    refine W.bipush (pc' := 127) X (24 : Int32) d_m7_125 (by decide) rfl ?_
    refine W.iloadN (pc' := 128) X d_m7_127 rfl rfl ?_
    refine W.castore (pc' := 129) (i := 24) X A79 (by decide) rfl (ltb rfl) P1 g5 nb6 d_m7_128 rfl fun T h80 X K81 A82 => ?_
    have A82 : Ar Z h80 a2 .char [(.int d), (.int d), (.int d), (.int d), (.int d), (.int d), (.int d), (.int d), (.int d), (.int d), (.int d), (.int d), (.int d), (.int d), (.int d), (.int d), (.int d), (.int d), (.int d), (.int d), (.int d), (.int d), (.int d), (.int d), (.int d), (.int (0 : Int32)), (.int (0 : Int32)), (.int (0 : Int32)), (.int (0 : Int32)), (.int (0 : Int32)), (.int (0 : Int32)), (.int (0 : Int32))] := A82
    refine W.dup (pc' := 130) X d_m7_129 rfl rfl ?_
    refine W.bipush (pc' := 132) X (25 : Int32) d_m7_130 (by decide) rfl ?_
    refine W.iloadN (pc' := 133) X d_m7_132 rfl rfl ?_
    refine W.castore (pc' := 134) (i := 25) X A82 (by decide) rfl (ltb rfl) P1 g5 nb6 d_m7_133 rfl fun T h83 X K84 A85 => ?_
    have A85 : Ar Z h83 a2 .char [(.int d), (.int d), (.int d), (.int d), (.int d), (.int d), (.int d), (.int d), (.int d), (.int d), (.int d), (.int d), (.int d), (.int d), (.int d), (.int d), (.int d), (.int d), (.int d), (.int d), (.int d), (.int d), (.int d), (.int d), (.int d), (.int d), (.int (0 : Int32)), (.int (0 : Int32)), (.int (0 : Int32)), (.int (0 : Int32)), (.int (0 : Int32)), (.int (0 : Int32))] := A85
    refine W.dup (pc' := 135) X d_m7_134 rfl rfl ?_
    refine W.bipush (pc' := 137) X (26 : Int32) d_m7_135 (by decide) rfl ?_
    refine W.iloadN (pc' := 138) X d_m7_137 rfl rfl ?_
    refine W.castore (pc' := 139) (i := 26) X A85 (by decide) rfl (ltb rfl) P1 g5 nb6 d_m7_138 rfl fun T h86 X K87 A88 => ?_
    have A88 : Ar Z h86 a2 .char [(.int d), (.int d), (.int d), (.int d), (.int d), (.int d), (.int d), (.int d), (.int d), (.int d), (.int d), (.int d), (.int d), (.int d), (.int d), (.int d), (.int d), (.int d), (.int d), (.int d), (.int d), (.int d), (.int d), (.int d), (.int d), (.int d), (.int d), (.int (0 : Int32)), (.int (0 : Int32)), (.int (0 : Int32)), (.int (0 : Int32)), (.int (0 : Int32))] := A88
    refine W.dup (pc' := 140) X d_m7_139 rfl rfl ?_
    refine W.bipush (pc' := 142) X (27 : Int32) d_m7_140 (by decide) rfl ?_
    refine W.iloadN (pc' := 143) X d_m7_142 rfl rfl ?_
    refine W.castore (pc' := 144) (i := 27) X A88 (by decide) rfl (ltb rfl) P1 g5 nb6 d_m7_143 rfl fun T h89 X K90 A91 => ?_
    have A91 : Ar Z h89 a2 .char [(.int d), (.int d), (.int d), (.int d), (.int d), (.int d), (.int d), (.int d), (.int d), (.int d), (.int d), (.int d), (.int d), (.int d), (.int d), (.int d), (.int d), (.int d), (.int d), (.int d), (.int d), (.int d), (.int d), (.int d), (.int d), (.int d), (.int d), (.int d), (.int (0 : Int32)), (.int (0 : Int32)), (.int (0 : Int32)), (.int (0 : Int32))] := A91
    refine W.dup (pc' := 145) X d_m7_144 rfl rfl ?_
    refine W.bipush (pc' := 147) X (28 : Int32) d_m7_145 (by decide) rfl ?_
    refine W.iloadN (pc' := 148) X d_m7_147 rfl rfl ?_
    refine W.castore (pc' := 149) (i := 28) X A91 (by decide) rfl (ltb rfl) P1 g5 nb6 d_m7_148 rfl fun T h92 X K93 A94 => ?_
    have A94 : Ar Z h92 a2 .char [(.int d), (.int d), (.int d), (.int d), (.int d), (.int d), (.int d), (.int d), (.int d), (.int d), (.int d), (.int d), (.int d), (.int d), (.int d), (.int d), (.int d), (.int d), (.int d), (.int d), (.int d), (.int d), (.int d), (.int d), (.int d), (.int d), (.int d), (.int d), (.int d), (.int (0 : Int32)), (.int (0 : Int32)), (.int (0 : Int32))] := A94
    refine W.dup (pc' := 150) X d_m7_149 rfl rfl ?_
    refine W.bipush (pc' := 152) X (29 : Int32) d_m7_150 (by decide) rfl ?_
    refine W.iloadN (pc' := 153) X d_m7_152 rfl rfl ?_
    refine W.castore (pc' := 154) (i := 29) X A94 (by decide) rfl (ltb rfl) P1 g5 nb6 d_m7_153 rfl fun T h95 X K96 A97 => ?_
    have A97 : Ar Z h95 a2 .char [(.int d), (.int d), (.int d), (.int d), (.int d), (.int d), (.int d), (.int d), (.int d), (.int d), (.int d), (.int d), (.int d), (.int d), (.int d), (.int d), (.int d), (.int d), (.int d), (.int d), (.int d), (.int d), (.int d), (.int d), (.int d), (.int d), (.int d), (.int d), (.int d), (.int d), (.int (0 : Int32)), (.int (0 : Int32))] := A97
    refine W.dup (pc' := 155) X d_m7_154 rfl rfl ?_
    refine W.bipush (pc' := 157) X (30 : Int32) d_m7_155 (by decide) rfl ?_
    refine W.iloadN (pc' := 158) X d_m7_157 rfl rfl ?_
    refine W.castore (pc' := 159) (i := 30) X A97 (by decide) rfl (ltb rfl) P1 g5 nb6 d_m7_158 rfl fun T h98 X K99 A100 => ?_
    have A100 : Ar Z h98 a2 .char [(.int d), (.int d), (.int d), (.int d), (.int d), (.int d), (.int d), (.int d), (.int d), (.int d), (.int d), (.int d), (.int d), (.int d), (.int d), (.int d), (.int d), (.int d), (.int d), (.int d), (.int d), (.int d), (.int d), (.int d), (.int d), (.int d), (.int d), (.int d), (.int d), (.int d), (.int d), (.int (0 : Int32))] := A100
    refine W.dup (pc' := 160) X d_m7_159 rfl rfl ?_
    refine W.bipush (pc' := 162) X (31 : Int32) d_m7_160 (by decide) rfl ?_
    refine W.iloadN (pc' := 163) X d_m7_162 rfl rfl ?_
    refine W.castore (pc' := 164) (i := 31) X A100 (by decide) rfl (ltb rfl) P1 g5 nb6 d_m7_163 rfl fun T h101 X K102 A103 => ?_
    have A103 : Ar Z h101 a2 .char [(.int d), (.int d), (.int d), (.int d), (.int d), (.int d), (.int d), (.int d), (.int d), (.int d), (.int d), (.int d), (.int d), (.int d), (.int d), (.int d), (.int d), (.int d), (.int d), (.int d), (.int d), (.int d), (.int d), (.int d), (.int d), (.int d), (.int d), (.int d), (.int d), (.int d), (.int d), (.int d)] := A103
    exact W.areturn X d_m7_164 rfl rfl rfl rfl (by decide) (by decide) ⟨_, rfl, rfl, ⟨a2, rfl, (Keep.trans (Keep.trans (Keep.trans (Keep.trans (Keep.trans (Keep.trans (Keep.trans (Keep.trans (Keep.trans (Keep.trans (Keep.trans (Keep.trans (Keep.trans (Keep.trans (Keep.trans (Keep.trans (Keep.trans (Keep.trans (Keep.trans (Keep.trans (Keep.trans (Keep.trans (Keep.trans (Keep.trans (Keep.trans (Keep.trans (Keep.trans (Keep.trans (Keep.trans (Keep.trans (Keep.trans (Keep.trans (Keep.trans (Keep.refl h []) K3 all0) K9 (allS (Or.inr (Nat.le_trans (Nat.le_refl _) g4)) all0)) K12 (allS (Or.inr (Nat.le_trans (Nat.le_refl _) g4)) all0)) K15 (allS (Or.inr (Nat.le_trans (Nat.le_refl _) g4)) all0)) K18 (allS (Or.inr (Nat.le_trans (Nat.le_refl _) g4)) all0)) K21 (allS (Or.inr (Nat.le_trans (Nat.le_refl _) g4)) all0)) K24 (allS (Or.inr (Nat.le_trans (Nat.le_refl _) g4)) all0)) K27 (allS (Or.inr (Nat.le_trans (Nat.le_refl _) g4)) all0)) K30 (allS (Or.inr (Nat.le_trans (Nat.le_refl _) g4)) all0)) K33 (allS (Or.inr (Nat.le_trans (Nat.le_refl _) g4)) all0)) K36 (allS (Or.inr (Nat.le_trans (Nat.le_refl _) g4)) all0)) K39 (allS (Or.inr (Nat.le_trans (Nat.le_refl _) g4)) all0)) K42 (allS (Or.inr (Nat.le_trans (Nat.le_refl _) g4)) all0)) K45 (allS (Or.inr (Nat.le_trans (Nat.le_refl _) g4)) all0)) K48 (allS (Or.inr (Nat.le_trans (Nat.le_refl _) g4)) all0)) K51 (allS (Or.inr (Nat.le_trans (Nat.le_refl _) g4)) all0)) K54 (allS (Or.inr (Nat.le_trans (Nat.le_refl _) g4)) all0)) K57 (allS (Or.inr (Nat.le_trans (Nat.le_refl _) g4)) all0)) K60 (allS (Or.inr (Nat.le_trans (Nat.le_refl _) g4)) all0)) K63 (allS (Or.inr (Nat.le_trans (Nat.le_refl _) g4)) all0)) K66 (allS (Or.inr (Nat.le_trans (Nat.le_refl _) g4)) all0)) K69 (allS (Or.inr (Nat.le_trans (Nat.le_refl _) g4)) all0)) K72 (allS (Or.inr (Nat.le_trans (Nat.le_refl _) g4)) all0)) K75 (allS (Or.inr (Nat.le_trans (Nat.le_refl _) g4)) all0)) K78 (allS (Or.inr (Nat.le_trans (Nat.le_refl _) g4)) all0)) K81 (allS (Or.inr (Nat.le_trans (Nat.le_refl _) g4)) all0)) K84 (allS (Or.inr (Nat.le_trans (Nat.le_refl _) g4)) all0)) K87 (allS (Or.inr (Nat.le_trans (Nat.le_refl _) g4)) all0)) K90 (allS (Or.inr (Nat.le_trans (Nat.le_refl _) g4)) all0)) K93 (allS (Or.inr (Nat.le_trans (Nat.le_refl _) g4)) all0)) K96 (allS (Or.inr (Nat.le_trans (Nat.le_refl _) g4)) all0)) K99 (allS (Or.inr (Nat.le_trans (Nat.le_refl _) g4)) all0)) K102 (allS (Or.inr (Nat.le_trans (Nat.le_refl _) g4)) all0)), (Nat.le_trans (Nat.le_refl _) g4), (by rw [lnN32 P0 hq32]; exact A103)⟩⟩
  · skip
    refine W.icT (pc' := 165) X d_m7_3 (XT.ii_ne_t hq32) (by decide) (by decide) ?_
    refine W.iloadN (pc' := 166) X d_m7_165 rfl rfl ?_
    refine W.bipush (pc' := 168) X (40 : Int32) d_m7_166 (by decide) rfl ?_
    by_cases hq40 : (lnOf i) = (40 : Int32)
    · skip
      refine W.icF (pc' := 171) X d_m7_168 (XT.ii_ne_f hq40) rfl ?_
      refine W.bipush (pc' := 173) X (40 : Int32) d_m7_171 (by decide) rfl ?_
      refine W.newA (aty := .char) (pc' := 175) (k' := 1) (n' := 40) (cap := 40) X (w20 G) d_m7_173 (by decide) (by decide) (by decide) rfl (by decide) (by decide) (by decide) (by decide) fun T h104 a105 X K106 g107 g108 nb109 A110 => ?_
      have A110 : Ar Z h104 a105 .char [(.int (0 : Int32)), (.int (0 : Int32)), (.int (0 : Int32)), (.int (0 : Int32)), (.int (0 : Int32)), (.int (0 : Int32)), (.int (0 : Int32)), (.int (0 : Int32)), (.int (0 : Int32)), (.int (0 : Int32)), (.int (0 : Int32)), (.int (0 : Int32)), (.int (0 : Int32)), (.int (0 : Int32)), (.int (0 : Int32)), (.int (0 : Int32)), (.int (0 : Int32)), (.int (0 : Int32)), (.int (0 : Int32)), (.int (0 : Int32)), (.int (0 : Int32)), (.int (0 : Int32)), (.int (0 : Int32)), (.int (0 : Int32)), (.int (0 : Int32)), (.int (0 : Int32)), (.int (0 : Int32)), (.int (0 : Int32)), (.int (0 : Int32)), (.int (0 : Int32)), (.int (0 : Int32)), (.int (0 : Int32)), (.int (0 : Int32)), (.int (0 : Int32)), (.int (0 : Int32)), (.int (0 : Int32)), (.int (0 : Int32)), (.int (0 : Int32)), (.int (0 : Int32)), (.int (0 : Int32))] := A110
      refine W.dup (pc' := 176) X d_m7_175 rfl rfl ?_
      refine W.iconst (pc' := 177) X (0 : Int32) d_m7_176 (by decide) rfl ?_
      refine W.iloadN (pc' := 178) X d_m7_177 rfl rfl ?_
      refine W.castore (pc' := 179) (i := 0) X A110 (by decide) rfl (ltb rfl) P1 g108 nb109 d_m7_178 rfl fun T h111 X K112 A113 => ?_
      have A113 : Ar Z h111 a105 .char [(.int d), (.int (0 : Int32)), (.int (0 : Int32)), (.int (0 : Int32)), (.int (0 : Int32)), (.int (0 : Int32)), (.int (0 : Int32)), (.int (0 : Int32)), (.int (0 : Int32)), (.int (0 : Int32)), (.int (0 : Int32)), (.int (0 : Int32)), (.int (0 : Int32)), (.int (0 : Int32)), (.int (0 : Int32)), (.int (0 : Int32)), (.int (0 : Int32)), (.int (0 : Int32)), (.int (0 : Int32)), (.int (0 : Int32)), (.int (0 : Int32)), (.int (0 : Int32)), (.int (0 : Int32)), (.int (0 : Int32)), (.int (0 : Int32)), (.int (0 : Int32)), (.int (0 : Int32)), (.int (0 : Int32)), (.int (0 : Int32)), (.int (0 : Int32)), (.int (0 : Int32)), (.int (0 : Int32)), (.int (0 : Int32)), (.int (0 : Int32)), (.int (0 : Int32)), (.int (0 : Int32)), (.int (0 : Int32)), (.int (0 : Int32)), (.int (0 : Int32)), (.int (0 : Int32))] := A113
      refine W.dup (pc' := 180) X d_m7_179 rfl rfl ?_
      refine W.iconst (pc' := 181) X (1 : Int32) d_m7_180 (by decide) rfl ?_
      refine W.iloadN (pc' := 182) X d_m7_181 rfl rfl ?_
      refine W.castore (pc' := 183) (i := 1) X A113 (by decide) rfl (ltb rfl) P1 g108 nb109 d_m7_182 rfl fun T h114 X K115 A116 => ?_
      have A116 : Ar Z h114 a105 .char [(.int d), (.int d), (.int (0 : Int32)), (.int (0 : Int32)), (.int (0 : Int32)), (.int (0 : Int32)), (.int (0 : Int32)), (.int (0 : Int32)), (.int (0 : Int32)), (.int (0 : Int32)), (.int (0 : Int32)), (.int (0 : Int32)), (.int (0 : Int32)), (.int (0 : Int32)), (.int (0 : Int32)), (.int (0 : Int32)), (.int (0 : Int32)), (.int (0 : Int32)), (.int (0 : Int32)), (.int (0 : Int32)), (.int (0 : Int32)), (.int (0 : Int32)), (.int (0 : Int32)), (.int (0 : Int32)), (.int (0 : Int32)), (.int (0 : Int32)), (.int (0 : Int32)), (.int (0 : Int32)), (.int (0 : Int32)), (.int (0 : Int32)), (.int (0 : Int32)), (.int (0 : Int32)), (.int (0 : Int32)), (.int (0 : Int32)), (.int (0 : Int32)), (.int (0 : Int32)), (.int (0 : Int32)), (.int (0 : Int32)), (.int (0 : Int32)), (.int (0 : Int32))] := A116
      refine W.dup (pc' := 184) X d_m7_183 rfl rfl ?_
      refine W.iconst (pc' := 185) X (2 : Int32) d_m7_184 (by decide) rfl ?_
      refine W.iloadN (pc' := 186) X d_m7_185 rfl rfl ?_
      refine W.castore (pc' := 187) (i := 2) X A116 (by decide) rfl (ltb rfl) P1 g108 nb109 d_m7_186 rfl fun T h117 X K118 A119 => ?_
      have A119 : Ar Z h117 a105 .char [(.int d), (.int d), (.int d), (.int (0 : Int32)), (.int (0 : Int32)), (.int (0 : Int32)), (.int (0 : Int32)), (.int (0 : Int32)), (.int (0 : Int32)), (.int (0 : Int32)), (.int (0 : Int32)), (.int (0 : Int32)), (.int (0 : Int32)), (.int (0 : Int32)), (.int (0 : Int32)), (.int (0 : Int32)), (.int (0 : Int32)), (.int (0 : Int32)), (.int (0 : Int32)), (.int (0 : Int32)), (.int (0 : Int32)), (.int (0 : Int32)), (.int (0 : Int32)), (.int (0 : Int32)), (.int (0 : Int32)), (.int (0 : Int32)), (.int (0 : Int32)), (.int (0 : Int32)), (.int (0 : Int32)), (.int (0 : Int32)), (.int (0 : Int32)), (.int (0 : Int32)), (.int (0 : Int32)), (.int (0 : Int32)), (.int (0 : Int32)), (.int (0 : Int32)), (.int (0 : Int32)), (.int (0 : Int32)), (.int (0 : Int32)), (.int (0 : Int32))] := A119
      refine W.dup (pc' := 188) X d_m7_187 rfl rfl ?_
      refine W.iconst (pc' := 189) X (3 : Int32) d_m7_188 (by decide) rfl ?_
      refine W.iloadN (pc' := 190) X d_m7_189 rfl rfl ?_
      refine W.castore (pc' := 191) (i := 3) X A119 (by decide) rfl (ltb rfl) P1 g108 nb109 d_m7_190 rfl fun T h120 X K121 A122 => ?_
      have A122 : Ar Z h120 a105 .char [(.int d), (.int d), (.int d), (.int d), (.int (0 : Int32)), (.int (0 : Int32)), (.int (0 : Int32)), (.int (0 : Int32)), (.int (0 : Int32)), (.int (0 : Int32)), (.int (0 : Int32)), (.int (0 : Int32)), (.int (0 : Int32)), (.int (0 : Int32)), (.int (0 : Int32)), (.int (0 : Int32)), (.int (0 : Int32)), (.int (0 : Int32)), (.int (0 : Int32)), (.int (0 : Int32)), (.int (0 : Int32)), (.int (0 : Int32)), (.int (0 : Int32)), (.int (0 : Int32)), (.int (0 : Int32)), (.int (0 : Int32)), (.int (0 : Int32)), (.int (0 : Int32)), (.int (0 : Int32)), (.int (0 : Int32)), (.int (0 : Int32)), (.int (0 : Int32)), (.int (0 : Int32)), (.int (0 : Int32)), (.int (0 : Int32)), (.int (0 : Int32)), (.int (0 : Int32)), (.int (0 : Int32)), (.int (0 : Int32)), (.int (0 : Int32))] := A122
      refine W.dup (pc' := 192) X d_m7_191 rfl rfl ?_
      refine W.iconst (pc' := 193) X (4 : Int32) d_m7_192 (by decide) rfl ?_
      refine W.iloadN (pc' := 194) X d_m7_193 rfl rfl ?_
      refine W.castore (pc' := 195) (i := 4) X A122 (by decide) rfl (ltb rfl) P1 g108 nb109 d_m7_194 rfl fun T h123 X K124 A125 => ?_
      have A125 : Ar Z h123 a105 .char [(.int d), (.int d), (.int d), (.int d), (.int d), (.int (0 : Int32)), (.int (0 : Int32)), (.int (0 : Int32)), (.int (0 : Int32)), (.int (0 : Int32)), (.int (0 : Int32)), (.int (0 : Int32)), (.int (0 : Int32)), (.int (0 : Int32)), (.int (0 : Int32)), (.int (0 : Int32)), (.int (0 : Int32)), (.int (0 : Int32)), (.int (0 : Int32)), (.int (0 : Int32)), (.int (0 : Int32)), (.int (0 : Int32)), (.int (0 : Int32)), (.int (0 : Int32)), (.int (0 : Int32)), (.int (0 : Int32)), (.int (0 : Int32)), (.int (0 : Int32)), (.int (0 : Int32)), (.int (0 : Int32)), (.int (0 : Int32)), (.int (0 : Int32)), (.int (0 : Int32)), (.int (0 : Int32)), (.int (0 : Int32)), (.int (0 : Int32)), (.int (0 : Int32)), (.int (0 : Int32)), (.int (0 : Int32)), (.int (0 : Int32))] := A125
      refine W.dup (pc' := 196) X d_m7_195 rfl rfl ?_
      refine W.iconst (pc' := 197) X (5 : Int32) d_m7_196 (by decide) rfl ?_
      refine W.iloadN (pc' := 198) X d_m7_197 rfl rfl ?_
      refine W.castore (pc' := 199) (i := 5) X A125 (by decide) rfl (ltb rfl) P1 g108 nb109 d_m7_198 rfl fun T h126 X K127 A128 => ?_
      have A128 : Ar Z h126 a105 .char [(.int d), (.int d), (.int d), (.int d), (.int d), (.int d), (.int (0 : Int32)), (.int (0 : Int32)), (.int (0 : Int32)), (.int (0 : Int32)), (.int (0 : Int32)), (.int (0 : Int32)), (.int (0 : Int32)), (.int (0 : Int32)), (.int (0 : Int32)), (.int (0 : Int32)), (.int (0 : Int32)), (.int (0 : Int32)), (.int (0 : Int32)), (.int (0 : Int32)), (.int (0 : Int32)), (.int (0 : Int32)), (.int (0 : Int32)), (.int (0 : Int32)), (.int (0 : Int32)), (.int (0 : Int32)), (.int (0 : Int32)), (.int (0 : Int32)), (.int (0 : Int32)), (.int (0 : Int32)), (.int (0 : Int32)), (.int (0 : Int32)), (.int (0 : Int32)), (.int (0 : Int32)), (.int (0 : Int32)), (.int (0 : Int32)), (.int (0 : Int32)), (.int (0 : Int32)), (.int (0 : Int32)), (.int (0 : Int32))] := A128
      refine W.dup (pc' := 200) X d_m7_199 rfl rfl ?_
      refine W.bipush (pc' := 202) X (6 : Int32) d_m7_200 (by decide) rfl ?_
      refine W.iloadN (pc' := 203) X d_m7_202 rfl rfl ?_
      refine W.castore (pc' := 204) (i := 6) X A128 (by decide) rfl (ltb rfl) P1 g108 nb109 d_m7_203 rfl fun T h129 X K130 A131 => ?_
      have A131 : Ar Z h129 a105 .char [(.int d), (.int d), (.int d), (.int d), (.int d), (.int d), (.int d), (.int (0 : Int32)), (.int (0 : Int32)), (.int (0 : Int32)), (.int (0 : Int32)), (.int (0 : Int32)), (.int (0 : Int32)), (.int (0 : Int32)), (.int (0 : Int32)), (.int (0 : Int32)), (.int (0 : Int32)), (.int (0 : Int32)), (.int (0 : Int32)), (.int (0 : Int32)), (.int (0 : Int32)), (.int (0 : Int32)), (.int (0 : Int32)), (.int (0 : Int32)), (.int (0 : Int32)), (.int (0 : Int32)), (.int (0 : Int32)), (.int (0 : Int32)), (.int (0 : Int32)), (.int (0 : Int32)), (.int (0 : Int32)), (.int (0 : Int32)), (.int (0 : Int32)), (.int (0 : Int32)), (.int (0 : Int32)), (.int (0 : Int32)), (.int (0 : Int32)), (.int (0 : Int32)), (.int (0 : Int32)), (.int (0 : Int32))] := A131
      refine W.dup (pc' := 205) X d_m7_204 rfl rfl ?_
      refine W.bipush (pc' := 207) X (7 : Int32) d_m7_205 (by decide) rfl ?_
      refine W.iloadN (pc' := 208) X d_m7_207 rfl rfl ?_
      refine W.castore (pc' := 209) (i := 7) X A131 (by decide) rfl (ltb rfl) P1 g108 nb109 d_m7_208 rfl fun T h132 X K133 A134 => ?_
      have A134 : Ar Z h132 a105 .char [(.int d), (.int d), (.int d), (.int d), (.int d), (.int d), (.int d), (.int d), (.int (0 : Int32)), (.int (0 : Int32)), (.int (0 : Int32)), (.int (0 : Int32)), (.int (0 : Int32)), (.int (0 : Int32)), (.int (0 : Int32)), (.int (0 : Int32)), (.int (0 : Int32)), (.int (0 : Int32)), (.int (0 : Int32)), (.int (0 : Int32)), (.int (0 : Int32)), (.int (0 : Int32)), (.int (0 : Int32)), (.int (0 : Int32)), (.int (0 : Int32)), (.int (0 : Int32)), (.int (0 : Int32)), (.int (0 : Int32)), (.int (0 : Int32)), (.int (0 : Int32)), (.int (0 : Int32)), (.int (0 : Int32)), (.int (0 : Int32)), (.int (0 : Int32)), (.int (0 : Int32)), (.int (0 : Int32)), (.int (0 : Int32)), (.int (0 : Int32)), (.int (0 : Int32)), (.int (0 : Int32))] := A134
      refine W.dup (pc' := 210) X d_m7_209 rfl rfl ?_
      refine W.bipush (pc' := 212) X (8 : Int32) d_m7_210 (by decide) rfl ?_
      refine W.iloadN (pc' := 213) X d_m7_212 rfl rfl ?_
      refine W.castore (pc' := 214) (i := 8) X A134 (by decide) rfl (ltb rfl) P1 g108 nb109 d_m7_213 rfl fun T h135 X K136 A137 => ?_
      have A137 : Ar Z h135 a105 .char [(.int d), (.int d), (.int d), (.int d), (.int d), (.int d), (.int d), (.int d), (.int d), (.int (0 : Int32)), (.int (0 : Int32)), (.int (0 : Int32)), (.int (0 : Int32)), (.int (0 : Int32)), (.int (0 : Int32)), (.int (0 : Int32)), (.int (0 : Int32)), (.int (0 : Int32)), (.int (0 : Int32)), (.int (0 : Int32)), (.int (0 : Int32)), (.int (0 : Int32)), (.int (0 : Int32)), (.int (0 : Int32)), (.int (0 : Int32)), (.int (0 : Int32)), (.int (0 : Int32)), (.int (0 : Int32)), (.int (0 : Int32)), (.int (0 : Int32)), (.int (0 : Int32)), (.int (0 : Int32)), (.int (0 : Int32)), (.int (0 : Int32)), (.int (0 : Int32)), (.int (0 : Int32)), (.int (0 : Int32)), (.int (0 : Int32)), (.int (0 : Int32)), (.int (0 : Int32))] := A137
      refine W.dup (pc' := 215) X d_m7_214 rfl rfl ?_
      refine W.bipush (pc' := 217) X (9 : Int32) d_m7_215 (by decide) rfl ?_
      refine W.iloadN (pc' := 218) X d_m7_217 rfl rfl ?_
      refine W.castore (pc' := 219) (i := 9) X A137 (by decide) rfl (ltb rfl) P1 g108 nb109 d_m7_218 rfl fun T h138 X K139 A140 => ?_
      have A140 : Ar Z h138 a105 .char [(.int d), (.int d), (.int d), (.int d), (.int d), (.int d), (.int d), (.int d), (.int d), (.int d), (.int (0 : Int32)), (.int (0 : Int32)), (.int (0 : Int32)), (.int (0 : Int32)), (.int (0 : Int32)), (.int (0 : Int32)), (.int (0 : Int32)), (.int (0 : Int32)), (.int (0 : Int32)), (.int (0 : Int32)), (.int (0 : Int32)), (.int (0 : Int32)), (.int (0 : Int32)), (.int (0 : Int32)), (.int (0 : Int32)), (.int (0 : Int32)), (.int (0 : Int32)), (.int (0 : Int32)), (.int (0 : Int32)), (.int (0 : Int32)), (.int (0 : Int32)), (.int (0 : Int32)), (.int (0 : Int32)), (.int (0 : Int32)), (.int (0 : Int32)), (.int (0 : Int32)), (.int (0 : Int32)), (.int (0 : Int32)), (.int (0 : Int32)), (.int (0 : Int32))] := A140
      refine W.dup (pc' := 220) X d_m7_219 rfl rfl ?_
      refine W.bipush (pc' := 222) X (10 : Int32) d_m7_220 (by decide) rfl ?_
      refine W.iloadN (pc' := 223) X d_m7_222 rfl rfl ?_
      refine W.castore (pc' := 224) (i := 10) X A140 (by decide) rfl (ltb rfl) P1 g108 nb109 d_m7_223 rfl fun T h141 X K142 A143 => ?_
      have A143 : Ar Z h141 a105 .char [(.int d), (.int d), (.int d), (.int d), (.int d), (.int d), (.int d), (.int d), (.int d), (.int d), (.int d), (.int (0 : Int32)), (.int (0 : Int32)), (.int (0 : Int32)), (.int (0 : Int32)), (.int (0 : Int32)), (.int (0 : Int32)), (.int (0 : Int32)), (.int (0 : Int32)), (.int (0 : Int32)), (.int (0 : Int32)), (.int (0 : Int32)), (.int (0 : Int32)), (.int (0 : Int32)), (.int (0 : Int32)), (.int (0 : Int32)), (.int (0 : Int32)), (.int (0 : Int32)), (.int (0 : Int32)), (.int (0 : Int32)), (.int (0 : Int32)), (.int (0 : Int32)), (.int (0 : Int32)), (.int (0 : Int32)), (.int (0 : Int32)), (.int (0 : Int32)), (.int (0 : Int32)), (.int (0 : Int32)), (.int (0 : Int32)), (.int (0 : Int32))] := A143
      refine W.dup (pc' := 225) X d_m7_224 rfl rfl ?_
      refine W.bipush (pc' := 227) X (11 : Int32) d_m7_225 (by decide) rfl ?_
      refine W.iloadN (pc' := 228) X d_m7_227 rfl rfl ?_
      refine W.castore (pc' := 229) (i := 11) X A143 (by decide) rfl (ltb rfl) P1 g108 nb109 d_m7_228 rfl fun T h144 X K145 A146 => ?_
      have A146 : Ar Z h144 a105 .char [(.int d), (.int d), (.int d), (.int d), (.int d), (.int d), (.int d), (.int d), (.int d), (.int d), (.int d), (.int d), (.int (0 : Int32)), (.int (0 : Int32)), (.int (0 : Int32)), (.int (0 : Int32)), (.int (0 : Int32)), (.int (0 : Int32)), (.int (0 : Int32)), (.int (0 : Int32)), (.int (0 : Int32)), (.int (0 : Int32)), (.int (0 : Int32)), (.int (0 : Int32)), (.int (0 : Int32)), (.int (0 : Int32)), (.int (0 : Int32)), (.int (0 : Int32)), (.int (0 : Int32)), (.int (0 : Int32)), (.int (0 : Int32)), (.int (0 : Int32)), (.int (0 : Int32)), (.int (0 : Int32)), (.int (0 : Int32)), (.int (0 : Int32)), (.int (0 : Int32)), (.int (0 : Int32)), (.int (0 : Int32)), (.int (0 : Int32))] := A146
      refine W.dup (pc' := 230) X d_m7_229 rfl rfl ?_
      refine W.bipush (pc' := 232) X (12 : Int32) d_m7_230 (by decide) rfl ?_
      refine W.iloadN (pc' := 233) X d_m7_232 rfl rfl ?_
      refine W.castore (pc' := 234) (i := 12) X A146 (by decide) rfl (ltb rfl) P1 g108 nb109 d_m7_233 rfl fun T h147 X K148 A149 => ?_
      have A149 : Ar Z h147 a105 .char [(.int d), (.int d), (.int d), (.int d), (.int d), (.int d), (.int d), (.int d), (.int d), (.int d), (.int d), (.int d), (.int d), (.int (0 : Int32)), (.int (0 : Int32)), (.int (0 : Int32)), (.int (0 : Int32)), (.int (0 : Int32)), (.int (0 : Int32)), (.int (0 : Int32)), (.int (0 : Int32)), (.int (0 : Int32)), (.int (0 : Int32)), (.int (0 : Int32)), (.int (0 : Int32)), (.int (0 : Int32)), (.int (0 : Int32)), (.int (0 : Int32)), (.int (0 : Int32)), (.int (0 : Int32)), (.int (0 : Int32)), (.int (0 : Int32)), (.int (0 : Int32)), (.int (0 : Int32)), (.int (0 : Int32)), (.int (0 : Int32)), (.int (0 : Int32)), (.int (0 : Int32)), (.int (0 : Int32)), (.int (0 : Int32))] := A149
      refine W.dup (pc' := 235) X d_m7_234 rfl rfl ?_
      refine W.bipush (pc' := 237) X (13 : Int32) d_m7_235 (by decide) rfl ?_
      refine W.iloadN (pc' := 238) X d_m7_237 rfl rfl ?_
      refine W.castore (pc' := 239) (i := 13) X A149 (by decide) rfl (ltb rfl) P1 g108 nb109 d_m7_238 rfl fun T h150 X K151 A152 => ?_
      have A152 : Ar Z h150 a105 .char [(.int d), (.int d), (.int d), (.int d), (.int d), (.int d), (.int d), (.int d), (.int d), (.int d), (.int d), (.int d), (.int d), (.int d), (.int (0 : Int32)), (.int (0 : Int32)), (.int (0 : Int32)), (.int (0 : Int32)), (.int (0 : Int32)), (.int (0 : Int32)), (.int (0 : Int32)), (.int (0 : Int32)), (.int (0 : Int32)), (.int (0 : Int32)), (.int (0 : Int32)), (.int (0 : Int32)), (.int (0 : Int32)), (.int (0 : Int32)), (.int (0 : Int32)), (.int (0 : Int32)), (.int (0 : Int32)), (.int (0 : Int32)), (.int (0 : Int32)), (.int (0 : Int32)), (.int (0 : Int32)), (.int (0 : Int32)), (.int (0 : Int32)), (.int (0 : Int32)), (.int (0 : Int32)), (.int (0 : Int32))] := A152
      refine W.dup (pc' := 240) X d_m7_239 rfl rfl ?_
      refine W.bipush (pc' := 242) X (14 : Int32) d_m7_240 (by decide) rfl ?_
      refine W.iloadN (pc' := 243) X d_m7_242 rfl rfl ?_
      refine W.castore (pc' := 244) (i := 14) X A152 (by decide) rfl (ltb rfl) P1 g108 nb109 d_m7_243 rfl fun T h153 X K154 A155 => ?_
      have A155 : Ar Z h153 a105 .char [(.int d), (.int d), (.int d), (.int d), (.int d), (.int d), (.int d), (.int d), (.int d), (.int d), (.int d), (.int d), (.int d), (.int d), (.int d), (.int (0 : Int32)), (.int (0 : Int32)), (.int (0 : Int32)), (.int (0 : Int32)), (.int (0 : Int32)), (.int (0 : Int32)), (.int (0 : Int32)), (.int (0 : Int32)), (.int (0 : Int32)), (.int (0 : Int32)), (.int (0 : Int32)), (.int (0 : Int32)), (.int (0 : Int32)), (.int (0 : Int32)), (.int (0 : Int32)), (.int (0 : Int32)), (.int (0 : Int32)), (.int (0 : Int32)), (.int (0 : Int32)), (.int (0 : Int32)), (.int (0 : Int32)), (.int (0 : Int32)), (.int (0 : Int32)), (.int (0 : Int32)), (.int (0 : Int32))] := A155
      refine W.dup (pc' := 245) X d_m7_244 rfl rfl ?_
      refine W.bipush (pc' := 247) X (15 : Int32) d_m7_245 (by decide) rfl ?_
      refine W.iloadN (pc' := 248) X d_m7_247 rfl rfl ?_
      refine W.castore (pc' := 249) (i := 15) X A155 (by decide) rfl (ltb rfl) P1 g108 nb109 d_m7_248 rfl fun T h156 X K157 A158 => ?_
      have A158 : Ar Z h156 a105 .char [(.int d), (.int d), (.int d), (.int d), (.int d), (.int d), (.int d), (.int d), (.int d), (.int d), (.int d), (.int d), (.int d), (.int d), (.int d), (.int d), (.int (0 : Int32)), (.int (0 : Int32)), (.int (0 : Int32)), (.int (0 : Int32)), (.int (0 : Int32)), (.int (0 : Int32)), (.int (0 : Int32)), (.int (0 : Int32)), (.int (0 : Int32)), (.int (0 : Int32)), (.int (0 : Int32)), (.int (0 : Int32)), (.int (0 : Int32)), (.int (0 : Int32)), (.int (0 : Int32)), (.int (0 : Int32)), (.int (0 : Int32)), (.int (0 : Int32)), (.int (0 : Int32)), (.int (0 : Int32)), (.int (0 : Int32)), (.int (0 : Int32)), (.int (0 : Int32)), (.int (0 : Int32))] := A158
      refine W.dup (pc' := 250) X d_m7_249 rfl rfl ?_
      refine W.bipush (pc' := 252) X (16 : Int32) d_m7_250 (by decide) rfl ?_
      refine W.iloadN (pc' := 253) X d_m7_252 rfl rfl ?_
      refine W.castore (pc' := 254) (i := 16) X A158 (by decide) rfl (ltb rfl) P1 g108 nb109 d_m7_253 rfl fun T h159 X K160 A161 => ?_
      have A161 : Ar Z h159 a105 .char [(.int d), (.int d), (.int d), (.int d), (.int d), (.int d), (.int d), (.int d), (.int d), (.int d), (.int d), (.int d), (.int d), (.int d), (.int d), (.int d), (.int d), (.int (0 : Int32)), (.int (0 : Int32)), (.int (0 : Int32)), (.int (0 : Int32)), (.int (0 : Int32)), (.int (0 : Int32)), (.int (0 : Int32)), (.int (0 : Int32)), (.int (0 : Int32)), (.int (0 : Int32)), (.int (0 : Int32)), (.int (0 : Int32)), (.int (0 : Int32)), (.int (0 : Int32)), (.int (0 : Int32)), (.int (0 : Int32)), (.int (0 : Int32)), (.int (0 : Int32)), (.int (0 : Int32)), (.int (0 : Int32)), (.int (0 : Int32)), (.int (0 : Int32)), (.int (0 : Int32))] := A161
      refine W.dup (pc' := 255) X d_m7_254 rfl rfl ?_
      refine W.bipush (pc' := 257) X (17 : Int32) d_m7_255 (by decide) rfl ?_
      refine W.iloadN (pc' := 258) X d_m7_257 rfl rfl ?_
      refine W.castore (pc' := 259) (i := 17) X A161 (by decide) rfl (ltb rfl) P1 g108 nb109 d_m7_258 rfl fun T h162 X K163 A164 => ?_
      have A164 : Ar Z h162 a105 .char [(.int d), (.int d), (.int d), (.int d), (.int d), (.int d), (.int d), (.int d), (.int d), (.int d), (.int d), (.int d), (.int d), (.int d), (.int d), (.int d), (.int d), (.int d), (.int (0 : Int32)), (.int (0 : Int32)), (.int (0 : Int32)), (.int (0 : Int32)), (.int (0 : Int32)), (.int (0 : Int32)), (.int (0 : Int32)), (.int (0 : Int32)), (.int (0 : Int32)), (.int (0 : Int32)), (.int (0 : Int32)), (.int (0 : Int32)), (.int (0 : Int32)), (.int (0 : Int32)), (.int (0 : Int32)), (.int (0 : Int32)), (.int (0 : Int32)), (.int (0 : Int32)), (.int (0 : Int32)), (.int (0 : Int32)), (.int (0 : Int32)), (.int (0 : Int32))] := A164
      refine W.dup (pc' := 260) X d_m7_259 rfl rfl ?_
      refine W.bipush (pc' := 262) X (18 : Int32) d_m7_260 (by decide) rfl ?_
      refine W.iloadN (pc' := 263) X d_m7_262 rfl rfl ?_
      refine W.castore (pc' := 264) (i := 18) X A164 (by decide) rfl (ltb rfl) P1 g108 nb109 d_m7_263 rfl fun T h165 X K166 A167 => ?_
      have A167 : Ar Z h165 a105 .char [(.int d), (.int d), (.int d), (.int d), (.int d), (.int d), (.int d), (.int d), (.int d), (.int d), (.int d), (.int d), (.int d), (.int d), (.int d), (.int d), (.int d), (.int d), (.int d), (.int (0 : Int32)), (.int (0 : Int32)), (.int (0 : Int32)), (.int (0 : Int32)), (.int (0 : Int32)), (.int (0 : Int32)), (.int (0 : Int32)), (.int (0 : Int32)), (.int (0 : Int32)), (.int (0 : Int32)), (.int (0 : Int32)), (.int (0 : Int32)), (.int (0 : Int32)), (.int (0 : Int32)), (.int (0 : Int32)), (.int (0 : Int32)), (.int (0 : Int32)), (.int (0 : Int32)), (.int (0 : Int32)), (.int (0 : Int32)), (.int (0 : Int32))] := A167
      refine W.dup (pc' := 265) X d_m7_264 rfl rfl ?_
      refine W.bipush (pc' := 267) X (19 : Int32) d_m7_265 (by decide) rfl ?_
      refine W.iloadN (pc' := 268) X d_m7_267 rfl rfl ?_
      refine W.castore (pc' := 269) (i := 19) X A167 (by decide) rfl (ltb rfl) P1 g108 nb109 d_m7_268 rfl fun T h168 X K169 A170 => ?_
      have A170 : Ar Z h168 a105 .char [(.int d), (.int d), (.int d), (.int d), (.int d), (.int d), (.int d), (.int d), (.int d), (.int d), (.int d), (.int d), (.int d), (.int d), (.int d), (.int d), (.int d), (.int d), (.int d), (.int d), (.int (0 : Int32)), (.int (0 : Int32)), (.int (0 : Int32)), (.int (0 : Int32)), (.int (0 : Int32)), (.int (0 : Int32)), (.int (0 : Int32)), (.int (0 : Int32)), (.int (0 : Int32)), (.int (0 : Int32)), (.int (0 : Int32)), (.int (0 : Int32)), (.int (0 : Int32)), (.int (0 : Int32)), (.int (0 : Int32)), (.int (0 : Int32)), (.int (0 : Int32)), (.int (0 : Int32)), (.int (0 : Int32)), (.int (0 : Int32))] := A170
      refine W.dup (pc' := 270) X d_m7_269 rfl rfl ?_
      refine W.bipush (pc' := 272) X (20 : Int32) d_m7_270 (by decide) rfl ?_
      refine W.iloadN (pc' := 273) X d_m7_272 rfl rfl ?_
      refine W.castore (pc' := 274) (i := 20) X A170 (by decide) rfl (ltb rfl) P1 g108 nb109 d_m7_273 rfl fun T h171 X K172 A173 => ?_
      have A173 : Ar Z h171 a105 .char [(.int d), (.int d), (.int d), (.int d), (.int d), (.int d), (.int d), (.int d), (.int d), (.int d), (.int d), (.int d), (.int d), (.int d), (.int d), (.int d), (.int d), (.int d), (.int d), (.int d), (.int d), (.int (0 : Int32)), (.int (0 : Int32)), (.int (0 : Int32)), (.int (0 : Int32)), (.int (0 : Int32)), (.int (0 : Int32)), (.int (0 : Int32)), (.int (0 : Int32)), (.int (0 : Int32)), (.int (0 : Int32)), (.int (0 : Int32)), (.int (0 : Int32)), (.int (0 : Int32)), (.int (0 : Int32)), (.int (0 : Int32)), (.int (0 : Int32)), (.int (0 : Int32)), (.int (0 : Int32)), (.int (0 : Int32))] := A173
      refine W.dup (pc' := 275) X d_m7_274 rfl rfl ?_
      refine W.bipush (pc' := 277) X (21 : Int32) d_m7_275 (by decide) rfl ?_
      refine W.iloadN (pc' := 278) X d_m7_277 rfl rfl ?_
      refine W.castore (pc' := 279) (i := 21) X A173 (by decide) rfl (ltb rfl) P1 g108 nb109 d_m7_278 rfl fun T h174 X K175 A176 => ?_
      have A176 : Ar Z h174 a105 .char [(.int d), (.int d), (.int d), (.int d), (.int d), (.int d), (.int d), (.int d), (.int d), (.int d), (.int d), (.int d), (.int d), (.int d), (.int d), (.int d), (.int d), (.int d), (.int d), (.int d), (.int d), (.int d), (.int (0 : Int32)), (.int (0 : Int32)), (.int (0 : Int32)), (.int (0 : Int32)), (.int (0 : Int32)), (.int (0 : Int32)), (.int (0 : Int32)), (.int (0 : Int32)), (.int (0 : Int32)), (.int (0 : Int32)), (.int (0 : Int32)), (.int (0 : Int32)), (.int (0 : Int32)), (.int (0 : Int32)), (.int (0 : Int32)), (.int (0 : Int32)), (.int (0 : Int32)), (.int (0 : Int32))] := A176
      refine W.dup (pc' := 280) X d_m7_279 rfl rfl ?_
      refine W.bipush (pc' := 282) X (22 : Int32) d_m7_280 (by decide) rfl ?_
      refine W.iloadN (pc' := 283) X d_m7_282 rfl rfl ?_
      refine W.castore (pc' := 284) (i := 22) X A176 (by decide) rfl (ltb rfl) P1 g108 nb109 d_m7_283 rfl fun T h177 X K178 A179 => ?_
      have A179 : Ar Z h177 a105 .char [(.int d), (.int d), (.int d), (.int d), (.int d), (.int d), (.int d), (.int d), (.int d), (.int d), (.int d), (.int d), (.int d), (.int d), (.int d), (.int d), (.int d), (.int d), (.int d), (.int d), (.int d), (.int d), (.int d), (.int (0 : Int32)), (.int (0 : Int32)), (.int (0 : Int32)), (.int (0 : Int32)), (.int (0 : Int32)), (.int (0 : Int32)), (.int (0 : Int32)), (.int (0 : Int32)), (.int (0 : Int32)), (.int (0 : Int32)), (.int (0 : Int32)), (.int (0 : Int32)), (.int (0 : Int32)), (.int (0 : Int32)), (.int (0 : Int32)), (.int (0 : Int32)), (.int (0 : Int32))] := A179
      refine W.dup (pc' := 285) X d_m7_284 rfl rfl ?_
      refine W.bipush (pc' := 287) X (23 : Int32) d_m7_285 (by decide) rfl ?_
      refine W.iloadN (pc' := 288) X d_m7_287 rfl rfl ?_
      refine W.castore (pc' := 289) (i := 23) X A179 (by decide) rfl (ltb rfl) P1 g108 nb109 d_m7_288 rfl fun T h180 X K181 A182 => ?_
      have A182 : Ar Z h180 a105 .char [(.int d), (.int d), (.int d), (.int d), (.int d), (.int d), (.int d), (.int d), (.int d), (.int d), (.int d), (.int d), (.int d), (.int d), (.int d), (.int d), (.int d), (.int d), (.int d), (.int d), (.int d), (.int d), (.int d), (.int d), (.int (0 : Int32)), (.int (0 : Int32)), (.int (0 : Int32)), (.int (0 : Int32)), (.int (0 : Int32)), (.int (0 : Int32)), (.int (0 : Int32)), (.int (0 : Int32)), (.int (0 : Int32)), (.int (0 : Int32)), (.int (0 : Int32)), (.int (0 : Int32)), (.int (0 : Int32)), (.int (0 : Int32)), (.int (0 : Int32)), (.int (0 : Int32))] := A182
      refine W.dup (pc' := 290) X d_m7_289 rfl rfl ?_
      refine W.bipush (pc' := 292) X (24 : Int32) d_m7_290 (by decide) rfl ?_
      refine W.iloadN (pc' := 293) X d_m7_292 rfl rfl ?_
      refine W.castore (pc' := 294) (i := 24) X A182 (by decide) rfl (ltb rfl) P1 g108 nb109 d_m7_293 rfl fun T h183 X K184 A185 => ?_
      have A185 : Ar Z h183 a105 .char [(.int d), (.int d), (.int d), (.int d), (.int d), (.int d), (.int d), (.int d), (.int d), (.int d), (.int d), (.int d), (.int d), (.int d), (.int d), (.int d), (.int d), (.int d), (.int d), (.int d), (.int d), (.int d), (.int d), (.int d), (.int d), (.int (0 : Int32)), (.int (0 : Int32)), (.int (0 : Int32)), (.int (0 : Int32)), (.int (0 : Int32)), (.int (0 : Int32)), (.int (0 : Int32)), (.int (0 : Int32)), (.int (0 : Int32)), (.int (0 : Int32)), (.int (0 : Int32)), (.int (0 : Int32)), (.int (0 : Int32)), (.int (0 : Int32)), (.int (0 : Int32))] := A185
      refine W.dup (pc' := 295) X d_m7_294 rfl rfl ?_
      refine W.bipush (pc' := 297) X (25 : Int32) d_m7_295 (by decide) rfl ?_
      refine W.iloadN (pc' := 298) X d_m7_297 rfl rfl ?_
      refine W.castore (pc' := 299) (i := 25) X A185 (by decide) rfl (ltb rfl) P1 g108 nb109 d_m7_298 rfl fun T h186 X K187 A188 => ?_
      have A188 : Ar Z h186 a105 .char [(.int d), (.int d), (.int d), (.int d), (.int d), (.int d), (.int d), (.int d), (.int d), (.int d), (.int d), (.int d), (.int d), (.int d), (.int d), (.int d), (.int d), (.int d), (.int d), (.int d), (.int d), (.int d), (.int d), (.int d), (.int d), (.int d), (.int (0 : Int32)), (.int (0 : Int32)), (.int (0 : Int32)), (.int (0 : Int32)), (.int (0 : Int32)), (.int (0 : Int32)), (.int (0 : Int32)), (.int (0 : Int32)), (.int (0 : Int32)), (.int (0 : Int32)), (.int (0 : Int32)), (.int (0 : Int32)), (.int (0 : Int32)), (.int (0 : Int32))] := A188
      refine W.dup (pc' := 300) X d_m7_299 rfl rfl ?_
      refine W.bipush (pc' := 302) X (26 : Int32) d_m7_300 (by decide) rfl ?_
      refine W.iloadN (pc' := 303) X d_m7_302 rfl rfl ?_
      refine W.castore (pc' := 304) (i := 26) X A188 (by decide) rfl (ltb rfl) P1 g108 nb109 d_m7_303 rfl fun T h189 X K190 A191 => ?_
      have A191 : Ar Z h189 a105 .char [(.int d), (.int d), (.int d), (.int d), (.int d), (.int d), (.int d), (.int d), (.int d), (.int d), (.int d), (.int d), (.int d), (.int d), (.int d), (.int d), (.int d), (.int d), (.int d), (.int d), (.int d), (.int d), (.int d), (.int d), (.int d), (.int d), (.int d), (.int (0 : Int32)), (.int (0 : Int32)), (.int (0 : Int32)), (.int (0 : Int32)), (.int (0 : Int32)), (.int (0 : Int32)), (.int (0 : Int32)), (.int (0 : Int32)), (.int (0 : Int32)), (.int (0 : Int32)), (.int (0 : Int32)), (.int (0 : Int32)), (.int (0 : Int32))] := A191
      refine W.dup (pc' := 305) X d_m7_304 rfl rfl ?_
      refine W.bipush (pc' := 307) X (27 : Int32) d_m7_305 (by decide) rfl ?_
      refine W.iloadN (pc' := 308) X d_m7_307 rfl rfl ?_
      refine W.castore (pc' := 309) (i := 27) X A191 (by decide) rfl (ltb rfl) P1 g108 nb109 d_m7_308 rfl fun T h192 X K193 A194 => ?_
      have A194 : Ar Z h192 a105 .char [(.int d), (.int d), (.int d), (.int d), (.int d), (.int d), (.int d), (.int d), (.int d), (.int d), (.int d), (.int d), (.int d), (.int d), (.int d), (.int d), (.int d), (.int d), (.int d), (.int d), (.int d), (.int d), (.int d), (.int d), (.int d), (.int d), (.int d), (.int d), (.int (0 : Int32)), (.int (0 : Int32)), (.int (0 : Int32)), (.int (0 : Int32)), (.int (0 : Int32)), (.int (0 : Int32)), (.int (0 : Int32)), (.int (0 : Int32)), (.int (0 : Int32)), (.int (0 : Int32)), (.int (0 : Int32)), (.int (0 : Int32))] := A194
      refine W.dup (pc' := 310) X d_m7_309 rfl rfl ?_
      refine W.bipush (pc' := 312) X (28 : Int32) d_m7_310 (by decide) rfl ?_
      refine W.iloadN (pc' := 313) X d_m7_312 rfl rfl ?_
      refine W.castore (pc' := 314) (i := 28) X A194 (by decide) rfl (ltb rfl) P1 g108 nb109 d_m7_313 rfl fun T h195 X K196 A197 => ?_
      have A197 : Ar Z h195 a105 .char [(.int d), (.int d), (.int d), (.int d), (.int d), (.int d), (.int d), (.int d), (.int d), (.int d), (.int d), (.int d), (.int d), (.int d), (.int d), (.int d), (.int d), (.int d), (.int d), (.int d), (.int d), (.int d), (.int d), (.int d), (.int d), (.int d), (.int d), (.int d), (.int d), (.int (0 : Int32)), (.int (0 : Int32)), (.int (0 : Int32)), (.int (0 : Int32)), (.int (0 : Int32)), (.int (0 : Int32)), (.int (0 : Int32)), (.int (0 : Int32)), (.int (0 : Int32)), (.int (0 : Int32)), (.int (0 : Int32))] := A197
      refine W.dup (pc' := 315) X d_m7_314 rfl rfl ?_
      refine W.bipush (pc' := 317) X (29 : Int32) d_m7_315 (by decide) rfl ?_
      refine W.iloadN (pc' := 318) X d_m7_317 rfl rfl ?_
      refine W.castore (pc' := 319) (i := 29) X A197 (by decide) rfl (ltb rfl) P1 g108 nb109 d_m7_318 rfl fun T h198 X K199 A200 => ?_
      have A200 : Ar Z h198 a105 .char [(.int d), (.int d), (.int d), (.int d), (.int d), (.int d), (.int d), (.int d), (.int d), (.int d), (.int d), (.int d), (.int d), (.int d), (.int d), (.int d), (.int d), (.int d), (.int d), (.int d), (.int d), (.int d), (.int d), (.int d), (.int d), (.int d), (.int d), (.int d), (.int d), (.int d), (.int (0 : Int32)), (.int (0 : Int32)), (.int (0 : Int32)), (.int (0 : Int32)), (.int (0 : Int32)), (.int (0 : Int32)), (.int (0 : Int32)), (.int (0 : Int32)), (.int (0 : Int32)), (.int (0 : Int32))] := A200
      refine W.dup (pc' := 320) X d_m7_319 rfl rfl ?_
      refine W.bipush (pc' := 322) X (30 : Int32) d_m7_320 (by decide) rfl ?_
      refine W.iloadN (pc' := 323) X d_m7_322 rfl rfl ?_
      refine W.castore (pc' := 324) (i := 30) X A200 (by decide) rfl (ltb rfl) P1 g108 nb109 d_m7_323 rfl fun T h201 X K202 A203 => ?_
      have A203 : Ar Z h201 a105 .char [(.int d), (.int d), (.int d), (.int d), (.int d), (.int d), (.int d), (.int d), (.int d), (.int d), (.int d), (.int d), (.int d), (.int d), (.int d), (.int d), (.int d), (.int d), (.int d), (.int d), (.int d), (.int d), (.int d), (.int d), (.int d), (.int d), (.int d), (.int d), (.int d), (.int d), (.int d), (.int (0 : Int32)), (.int (0 : Int32)), (.int (0 : Int32)), (.int (0 : Int32)), (.int (0 : Int32)), (.int (0 : Int32)), (.int (0 : Int32)), (.int (0 : Int32)), (.int (0 : Int32))] := A203
      refine W.dup (pc' := 325) X d_m7_324 rfl rfl ?_
      refine W.bipush (pc' := 327) X (31 : Int32) d_m7_325 (by decide) rfl ?_
      refine W.iloadN (pc' := 328) X d_m7_327 rfl rfl ?_
      refine W.castore (pc' := 329) (i := 31) X A203 (by decide) rfl (ltb rfl) P1 g108 nb109 d_m7_328 rfl fun T h204 X K205 A206 => ?_
      have A206 : Ar Z h204 a105 .char [(.int d), (.int d), (.int d), (.int d), (.int d), (.int d), (.int d), (.int d), (.int d), (.int d), (.int d), (.int d), (.int d), (.int d), (.int d), (.int d), (.int d), (.int d), (.int d), (.int d), (.int d), (.int d), (.int d), (.int d), (.int d), (.int d), (.int d), (.int d), (.int d), (.int d), (.int d), (.int d), (.int (0 : Int32)), (.int (0 : Int32)), (.int (0 : Int32)), (.int (0 : Int32)), (.int (0 : Int32)), (.int (0 : Int32)), (.int (0 : Int32)), (.int (0 : Int32))] := A206
      refine W.dup (pc' := 330) X d_m7_329 rfl rfl ?_
      refine W.bipush (pc' := 332) X (32 : Int32) d_m7_330 (by decide) rfl ?_
      refine W.iloadN (pc' := 333) X d_m7_332 rfl rfl ?_
      refine W.castore (pc' := 334) (i := 32) X A206 (by decide) rfl (ltb rfl) P1 g108 nb109 d_m7_333 rfl fun T h207 X K208 A209 => ?_
      have A209 : Ar Z h207 a105 .char [(.int d), (.int d), (.int d), (.int d), (.int d), (.int d), (.int d), (.int d), (.int d), (.int d), (.int d), (.int d), (.int d), (.int d), (.int d), (.int d), (.int d), (.int d), (.int d), (.int d), (.int d), (.int d), (.int d), (.int d), (.int d), (.int d), (.int d), (.int d), (.int d), (.int d), (.int d), (.int d), (.int d), (.int (0 : Int32)), (.int (0 : Int32)), (.int (0 : Int32)), (.int (0 : Int32)), (.int (0 : Int32)), (.int (0 : Int32)), (.int (0 : Int32))] := A209
      refine W.dup (pc' := 335) X d_m7_334 rfl rfl ?_
      refine W.bipush (pc' := 337) X (33 : Int32) d_m7_335 (by decide) rfl ?_
      refine W.iloadN (pc' := 338) X d_m7_337 rfl rfl ?_
      refine W.castore (pc' := 339) (i := 33) X A209 (by decide) rfl (ltb rfl) P1 g108 nb109 d_m7_338 rfl fun T h210 X K211 A212 => ?_
      have A212 : Ar Z h210 a105 .char [(.int d), (.int d), (.int d), (.int d), (.int d), (.int d), (.int d), (.int d), (.int d), (.int d), (.int d), (.int d), (.int d), (.int d), (.int d), (.int d), (.int d), (.int d), (.int d), (.int d), (.int d), (.int d), (.int d), (.int d), (.int d), (.int d), (.int d), (.int d), (.int d), (.int d), (.int d), (.int d), (.int d), (.int d), (.int (0 : Int32)), (.int (0 : Int32)), (.int (0 : Int32)), (.int (0 : Int32)), (.int (0 : Int32)), (.int (0 : Int32))] := A212
      refine W.dup (pc' := 340) X d_m7_339 rfl rfl ?_
      refine W.bipush (pc' := 342) X (34 : Int32) d_m7_340 (by decide) rfl ?_
      refine W.iloadN (pc' := 343) X d_m7_342 rfl rfl ?_
      refine W.castore (pc' := 344) (i := 34) X A212 (by decide) rfl (ltb rfl) P1 g108 nb109 d_m7_343 rfl fun T h213 X K214 A215 => ?_
      have A215 : Ar Z h213 a105 .char [(.int d), (.int d), (.int d), (.int d), (.int d), (.int d), (.int d), (.int d), (.int d), (.int d), (.int d), (.int d), (.int d), (.int d), (.int d), (.int d), (.int d), (.int d), (.int d), (.int d), (.int d), (.int d), (.int d), (.int d), (.int d), (.int d), (.int d), (.int d), (.int d), (.int d), (.int d), (.int d), (.int d), (.int d), (.int d), (.int (0 : Int32)), (.int (0 : Int32)), (.int (0 : Int32)), (.int (0 : Int32)), (.int (0 : Int32))] := A215
      refine W.dup (pc' := 345) X d_m7_344 rfl rfl ?_
      refine W.bipush (pc' := 347) X (35 : Int32) d_m7_345 (by decide) rfl ?_
      refine W.iloadN (pc' := 348) X d_m7_347 rfl rfl ?_
      refine W.castore (pc' := 349) (i := 35) X A215 (by decide) rfl (ltb rfl) P1 g108 nb109 d_m7_348 rfl fun T h216 X K217 A218 => ?_
      have A218 : Ar Z h216 a105 .char [(.int d), (.int d), (.int d), (.int d), (.int d), (.int d), (.int d), (.int d), (.int d), (.int d), (.int d), (.int d), (.int d), (.int d), (.int d), (.int d), (.int d), (.int d), (.int d), (.int d), (.int d), (.int d), (.int d), (.int d), (.int d), (.int d), (.int d), (.int d), (.int d), (.int d), (.int d), (.int d), (.int d), (.int d), (.int d), (.int d), (.int (0 : Int32)), (.int (0 : Int32)), (.int (0 : Int32)), (.int (0 : Int32))] := A218
      refine W.dup (pc' := 350) X d_m7_349 rfl rfl ?_
      refine W.bipush (pc' := 352) X (36 : Int32) d_m7_350 (by decide) rfl ?_
      refine W.iloadN (pc' := 353) X d_m7_352 rfl rfl ?_
      refine W.castore (pc' := 354) (i := 36) X A218 (by decide) rfl (ltb rfl) P1 g108 nb109 d_m7_353 rfl fun T h219 X K220 A221 => ?_
      have A221 : Ar Z h219 a105 .char [(.int d), (.int d), (.int d), (.int d), (.int d), (.int d), (.int d), (.int d), (.int d), (.int d), (.int d), (.int d), (.int d), (.int d), (.int d), (.int d), (.int d), (.int d), (.int d), (.int d), (.int d), (.int d), (.int d), (.int d), (.int d), (.int d), (.int d), (.int d), (.int d), (.int d), (.int d), (.int d), (.int d), (.int d), (.int d), (.int d), (.int d), (.int (0 : Int32)), (.int (0 : Int32)), (.int (0 : Int32))] := A221
      refine W.dup (pc' := 355) X d_m7_354 rfl rfl ?_
      refine W.bipush (pc' := 357) X (37 : Int32) d_m7_355 (by decide) rfl ?_
      refine W.iloadN (pc' := 358) X d_m7_357 rfl rfl ?_
      refine W.castore (pc' := 359) (i := 37) X A221 (by decide) rfl (ltb rfl) P1 g108 nb109 d_m7_358 rfl fun T h222 X K223 A224 => ?_
      have A224 : Ar Z h222 a105 .char [(.int d), (.int d), (.int d), (.int d), (.int d), (.int d), (.int d), (.int d), (.int d), (.int d), (.int d), (.int d), (.int d), (.int d), (.int d), (.int d), (.int d), (.int d), (.int d), (.int d), (.int d), (.int d), (.int d), (.int d), (.int d), (.int d), (.int d), (.int d), (.int d), (.int d), (.int d), (.int d), (.int d), (.int d), (.int d), (.int d), (.int d), (.int d), (.int (0 : Int32)), (.int (0 : Int32))] := A224
      refine W.dup (pc' := 360) X d_m7_359 rfl rfl ?_
      refine W.bipush (pc' := 362) X (38 : Int32) d_m7_360 (by decide) rfl ?_
      refine W.iloadN (pc' := 363) X d_m7_362 rfl rfl ?_
      refine W.castore (pc' := 364) (i := 38) X A224 (by decide) rfl (ltb rfl) P1 g108 nb109 d_m7_363 rfl fun T h225 X K226 A227 => ?_
      have A227 : Ar Z h225 a105 .char [(.int d), (.int d), (.int d), (.int d), (.int d), (.int d), (.int d), (.int d), (.int d), (.int d), (.int d), (.int d), (.int d), (.int d), (.int d), (.int d), (.int d), (.int d), (.int d), (.int d), (.int d), (.int d), (.int d), (.int d), (.int d), (.int d), (.int d), (.int d), (.int d), (.int d), (.int d), (.int d), (.int d), (.int d), (.int d), (.int d), (.int d), (.int d), (.int d), (.int (0 : Int32))] := A227
      refine W.dup (pc' := 365) X d_m7_364 rfl rfl ?_
      refine W.bipush (pc' := 367) X (39 : Int32) d_m7_365 (by decide) rfl ?_
      refine W.iloadN (pc' := 368) X d_m7_367 rfl rfl ?_
      refine W.castore (pc' := 369) (i := 39) X A227 (by decide) rfl (ltb rfl) P1 g108 nb109 d_m7_368 rfl fun T h228 X K229 A230 => ?_
      have A230 : Ar Z h228 a105 .char [(.int d), (.int d), (.int d), (.int d), (.int d), (.int d), (.int d), (.int d), (.int d), (.int d), (.int d), (.int d), (.int d), (.int d), (.int d), (.int d), (.int d), (.int d), (.int d), (.int d), (.int d), (.int d), (.int d), (.int d), (.int d), (.int d), (.int d), (.int d), (.int d), (.int d), (.int d), (.int d), (.int d), (.int d), (.int d), (.int d), (.int d), (.int d), (.int d), (.int d)] := A230
      exact W.areturn X d_m7_369 rfl rfl rfl rfl (by decide) (by decide) ⟨_, rfl, rfl, ⟨a105, rfl, (Keep.trans (Keep.trans (Keep.trans (Keep.trans (Keep.trans (Keep.trans (Keep.trans (Keep.trans (Keep.trans (Keep.trans (Keep.trans (Keep.trans (Keep.trans (Keep.trans (Keep.trans (Keep.trans (Keep.trans (Keep.trans (Keep.trans (Keep.trans (Keep.trans (Keep.trans (Keep.trans (Keep.trans (Keep.trans (Keep.trans (Keep.trans (Keep.trans (Keep.trans (Keep.trans (Keep.trans (Keep.trans (Keep.trans (Keep.trans (Keep.trans (Keep.trans (Keep.trans (Keep.trans (Keep.trans (Keep.trans (Keep.trans (Keep.refl h []) K106 all0) K112 (allS (Or.inr (Nat.le_trans (Nat.le_refl _) g107)) all0)) K115 (allS (Or.inr (Nat.le_trans (Nat.le_refl _) g107)) all0)) K118 (allS (Or.inr (Nat.le_trans (Nat.le_refl _) g107)) all0)) K121 (allS (Or.inr (Nat.le_trans (Nat.le_refl _) g107)) all0)) K124 (allS (Or.inr (Nat.le_trans (Nat.le_refl _) g107)) all0)) K127 (allS (Or.inr (Nat.le_trans (Nat.le_refl _) g107)) all0)) K130 (allS (Or.inr (Nat.le_trans (Nat.le_refl _) g107)) all0)) K133 (allS (Or.inr (Nat.le_trans (Nat.le_refl _) g107)) all0)) K136 (allS (Or.inr (Nat.le_trans (Nat.le_refl _) g107)) all0)) K139 (allS (Or.inr (Nat.le_trans (Nat.le_refl _) g107)) all0)) K142 (allS (Or.inr (Nat.le_trans (Nat.le_refl _) g107)) all0)) K145 (allS (Or.inr (Nat.le_trans (Nat.le_refl _) g107)) all0)) K148 (allS (Or.inr (Nat.le_trans (Nat.le_refl _) g107)) all0)) K151 (allS (Or.inr (Nat.le_trans (Nat.le_refl _) g107)) all0)) K154 (allS (Or.inr (Nat.le_trans (Nat.le_refl _) g107)) all0)) K157 (allS (Or.inr (Nat.le_trans (Nat.le_refl _) g107)) all0)) K160 (allS (Or.inr (Nat.le_trans (Nat.le_refl _) g107)) all0)) K163 (allS (Or.inr (Nat.le_trans (Nat.le_refl _) g107)) all0)) K166 (allS (Or.inr (Nat.le_trans (Nat.le_refl _) g107)) all0)) K169 (allS (Or.inr (Nat.le_trans (Nat.le_refl _) g107)) all0)) K172 (allS (Or.inr (Nat.le_trans (Nat.le_refl _) g107)) all0)) K175 (allS (Or.inr (Nat.le_trans (Nat.le_refl _) g107)) all0)) K178 (allS (Or.inr (Nat.le_trans (Nat.le_refl _) g107)) all0)) K181 (allS (Or.inr (Nat.le_trans (Nat.le_refl _) g107)) all0)) K184 (allS (Or.inr (Nat.le_trans (Nat.le_refl _) g107)) all0)) K187 (allS (Or.inr (Nat.le_trans (Nat.le_refl _) g107)) all0)) K190 (allS (Or.inr (Nat.le_trans (Nat.le_refl _) g107)) all0)) K193 (allS (Or.inr (Nat.le_trans (Nat.le_refl _) g107)) all0)) K196 (allS (Or.inr (Nat.le_trans (Nat.le_refl _) g107)) all0)) K199 (allS (Or.inr (Nat.le_trans (Nat.le_refl _) g107)) all0)) K202 (allS (Or.inr (Nat.le_trans (Nat.le_refl _) g107)) all0)) K205 (allS (Or.inr (Nat.le_trans (Nat.le_refl _) g107)) all0)) K208 (allS (Or.inr (Nat.le_trans (Nat.le_refl _) g107)) all0)) K211 (allS (Or.inr (Nat.le_trans (Nat.le_refl _) g107)) all0)) K214 (allS (Or.inr (Nat.le_trans (Nat.le_refl _) g107)) all0)) K217 (allS (Or.inr (Nat.le_trans (Nat.le_refl _) g107)) all0)) K220 (allS (Or.inr (Nat.le_trans (Nat.le_refl _) g107)) all0)) K223 (allS (Or.inr (Nat.le_trans (Nat.le_refl _) g107)) all0)) K226 (allS (Or.inr (Nat.le_trans (Nat.le_refl _) g107)) all0)) K229 (allS (Or.inr (Nat.le_trans (Nat.le_refl _) g107)) all0)), (Nat.le_trans (Nat.le_refl _) g107), (by rw [lnN40 P0 hq40]; exact A230)⟩⟩
    · skip
      refine W.icT (pc' := 370) X d_m7_168 (XT.ii_ne_t hq40) (by decide) (by decide) ?_
      refine W.bipush (pc' := 372) X (64 : Int32) d_m7_370 (by decide) rfl ?_
      refine W.newA (aty := .char) (pc' := 374) (k' := 1) (n' := 64) (cap := 64) X (w20 G) d_m7_372 (by decide) (by decide) (by decide) rfl (by decide) (by decide) (by decide) (by decide) fun T h231 a232 X K233 g234 g235 nb236 A237 => ?_
      have A237 : Ar Z h231 a232 .char [(.int (0 : Int32)), (.int (0 : Int32)), (.int (0 : Int32)), (.int (0 : Int32)), (.int (0 : Int32)), (.int (0 : Int32)), (.int (0 : Int32)), (.int (0 : Int32)), (.int (0 : Int32)), (.int (0 : Int32)), (.int (0 : Int32)), (.int (0 : Int32)), (.int (0 : Int32)), (.int (0 : Int32)), (.int (0 : Int32)), (.int (0 : Int32)), (.int (0 : Int32)), (.int (0 : Int32)), (.int (0 : Int32)), (.int (0 : Int32)), (.int (0 : Int32)), (.int (0 : Int32)), (.int (0 : Int32)), (.int (0 : Int32)), (.int (0 : Int32)), (.int (0 : Int32)), (.int (0 : Int32)), (.int (0 : Int32)), (.int (0 : Int32)), (.int (0 : Int32)), (.int (0 : Int32)), (.int (0 : Int32)), (.int (0 : Int32)), (.int (0 : Int32)), (.int (0 : Int32)), (.int (0 : Int32)), (.int (0 : Int32)), (.int (0 : Int32)), (.int (0 : Int32)), (.int (0 : Int32)), (.int (0 : Int32)), (.int (0 : Int32)), (.int (0 : Int32)), (.int (0 : Int32)), (.int (0 : Int32)), (.int (0 : Int32)), (.int (0 : Int32)), (.int (0 : Int32)), (.int (0 : Int32)), (.int (0 : Int32)), (.int (0 : Int32)), (.int (0 : Int32)), (.int (0 : Int32)), (.int (0 : Int32)), (.int (0 : Int32)), (.int (0 : Int32)), (.int (0 : Int32)), (.int (0 : Int32)), (.int (0 : Int32)), (.int (0 : Int32)), (.int (0 : Int32)), (.int (0 : Int32)), (.int (0 : Int32)), (.int (0 : Int32))] := A237
      refine W.dup (pc' := 375) X d_m7_374 rfl rfl ?_
      refine W.iconst (pc' := 376) X (0 : Int32) d_m7_375 (by decide) rfl ?_
      refine W.iloadN (pc' := 377) X d_m7_376 rfl rfl ?_
      refine W.castore (pc' := 378) (i := 0) X A237 (by decide) rfl (ltb rfl) P1 g235 nb236 d_m7_377 rfl fun T h238 X K239 A240 => ?_
      have A240 : Ar Z h238 a232 .char [(.int d), (.int (0 : Int32)), (.int (0 : Int32)), (.int (0 : Int32)), (.int (0 : Int32)), (.int (0 : Int32)), (.int (0 : Int32)), (.int (0 : Int32)), (.int (0 : Int32)), (.int (0 : Int32)), (.int (0 : Int32)), (.int (0 : Int32)), (.int (0 : Int32)), (.int (0 : Int32)), (.int (0 : Int32)), (.int (0 : Int32)), (.int (0 : Int32)), (.int (0 : Int32)), (.int (0 : Int32)), (.int (0 : Int32)), (.int (0 : Int32)), (.int (0 : Int32)), (.int (0 : Int32)), (.int (0 : Int32)), (.int (0 : Int32)), (.int (0 : Int32)), (.int (0 : Int32)), (.int (0 : Int32)), (.int (0 : Int32)), (.int (0 : Int32)), (.int (0 : Int32)), (.int (0 : Int32)), (.int (0 : Int32)), (.int (0 : Int32)), (.int (0 : Int32)), (.int (0 : Int32)), (.int (0 : Int32)), (.int (0 : Int32)), (.int (0 : Int32)), (.int (0 : Int32)), (.int (0 : Int32)), (.int (0 : Int32)), (.int (0 : Int32)), (.int (0 : Int32)), (.int (0 : Int32)), (.int (0 : Int32)), (.int (0 : Int32)), (.int (0 : Int32)), (.int (0 : Int32)), (.int (0 : Int32)), (.int (0 : Int32)), (.int (0 : Int32)), (.int (0 : Int32)), (.int (0 : Int32)), (.int (0 : Int32)), (.int (0 : Int32)), (.int (0 : Int32)), (.int (0 : Int32)), (.int (0 : Int32)), (.int (0 : Int32)), (.int (0 : Int32)), (.int (0 : Int32)), (.int (0 : Int32)), (.int (0 : Int32))] := A240
      refine W.dup (pc' := 379) X d_m7_378 rfl rfl ?_
      refine W.iconst (pc' := 380) X (1 : Int32) d_m7_379 (by decide) rfl ?_
      refine W.iloadN (pc' := 381) X d_m7_380 rfl rfl ?_
      refine W.castore (pc' := 382) (i := 1) X A240 (by decide) rfl (ltb rfl) P1 g235 nb236 d_m7_381 rfl fun T h241 X K242 A243 => ?_
      have A243 : Ar Z h241 a232 .char [(.int d), (.int d), (.int (0 : Int32)), (.int (0 : Int32)), (.int (0 : Int32)), (.int (0 : Int32)), (.int (0 : Int32)), (.int (0 : Int32)), (.int (0 : Int32)), (.int (0 : Int32)), (.int (0 : Int32)), (.int (0 : Int32)), (.int (0 : Int32)), (.int (0 : Int32)), (.int (0 : Int32)), (.int (0 : Int32)), (.int (0 : Int32)), (.int (0 : Int32)), (.int (0 : Int32)), (.int (0 : Int32)), (.int (0 : Int32)), (.int (0 : Int32)), (.int (0 : Int32)), (.int (0 : Int32)), (.int (0 : Int32)), (.int (0 : Int32)), (.int (0 : Int32)), (.int (0 : Int32)), (.int (0 : Int32)), (.int (0 : Int32)), (.int (0 : Int32)), (.int (0 : Int32)), (.int (0 : Int32)), (.int (0 : Int32)), (.int (0 : Int32)), (.int (0 : Int32)), (.int (0 : Int32)), (.int (0 : Int32)), (.int (0 : Int32)), (.int (0 : Int32)), (.int (0 : Int32)), (.int (0 : Int32)), (.int (0 : Int32)), (.int (0 : Int32)), (.int (0 : Int32)), (.int (0 : Int32)), (.int (0 : Int32)), (.int (0 : Int32)), (.int (0 : Int32)), (.int (0 : Int32)), (.int (0 : Int32)), (.int (0 : Int32)), (.int (0 : Int32)), (.int (0 : Int32)), (.int (0 : Int32)), (.int (0 : Int32)), (.int (0 : Int32)), (.int (0 : Int32)), (.int (0 : Int32)), (.int (0 : Int32)), (.int (0 : Int32)), (.int (0 : Int32)), (.int (0 : Int32)), (.int (0 : Int32))] := A243
      refine W.dup (pc' := 383) X d_m7_382 rfl rfl ?_
      refine W.iconst (pc' := 384) X (2 : Int32) d_m7_383 (by decide) rfl ?_
      refine W.iloadN (pc' := 385) X d_m7_384 rfl rfl ?_
      refine W.castore (pc' := 386) (i := 2) X A243 (by decide) rfl (ltb rfl) P1 g235 nb236 d_m7_385 rfl fun T h244 X K245 A246 => ?_
      have A246 : Ar Z h244 a232 .char [(.int d), (.int d), (.int d), (.int (0 : Int32)), (.int (0 : Int32)), (.int (0 : Int32)), (.int (0 : Int32)), (.int (0 : Int32)), (.int (0 : Int32)), (.int (0 : Int32)), (.int (0 : Int32)), (.int (0 : Int32)), (.int (0 : Int32)), (.int (0 : Int32)), (.int (0 : Int32)), (.int (0 : Int32)), (.int (0 : Int32)), (.int (0 : Int32)), (.int (0 : Int32)), (.int (0 : Int32)), (.int (0 : Int32)), (.int (0 : Int32)), (.int (0 : Int32)), (.int (0 : Int32)), (.int (0 : Int32)), (.int (0 : Int32)), (.int (0 : Int32)), (.int (0 : Int32)), (.int (0 : Int32)), (.int (0 : Int32)), (.int (0 : Int32)), (.int (0 : Int32)), (.int (0 : Int32)), (.int (0 : Int32)), (.int (0 : Int32)), (.int (0 : Int32)), (.int (0 : Int32)), (.int (0 : Int32)), (.int (0 : Int32)), (.int (0 : Int32)), (.int (0 : Int32)), (.int (0 : Int32)), (.int (0 : Int32)), (.int (0 : Int32)), (.int (0 : Int32)), (.int (0 : Int32)), (.int (0 : Int32)), (.int (0 : Int32)), (.int (0 : Int32)), (.int (0 : Int32)), (.int (0 : Int32)), (.int (0 : Int32)), (.int (0 : Int32)), (.int (0 : Int32)), (.int (0 : Int32)), (.int (0 : Int32)), (.int (0 : Int32)), (.int (0 : Int32)), (.int (0 : Int32)), (.int (0 : Int32)), (.int (0 : Int32)), (.int (0 : Int32)), (.int (0 : Int32)), (.int (0 : Int32))] := A246
      refine W.dup (pc' := 387) X d_m7_386 rfl rfl ?_
      refine W.iconst (pc' := 388) X (3 : Int32) d_m7_387 (by decide) rfl ?_
      refine W.iloadN (pc' := 389) X d_m7_388 rfl rfl ?_
      refine W.castore (pc' := 390) (i := 3) X A246 (by decide) rfl (ltb rfl) P1 g235 nb236 d_m7_389 rfl fun T h247 X K248 A249 => ?_
      have A249 : Ar Z h247 a232 .char [(.int d), (.int d), (.int d), (.int d), (.int (0 : Int32)), (.int (0 : Int32)), (.int (0 : Int32)), (.int (0 : Int32)), (.int (0 : Int32)), (.int (0 : Int32)), (.int (0 : Int32)), (.int (0 : Int32)), (.int (0 : Int32)), (.int (0 : Int32)), (.int (0 : Int32)), (.int (0 : Int32)), (.int (0 : Int32)), (.int (0 : Int32)), (.int (0 : Int32)), (.int (0 : Int32)), (.int (0 : Int32)), (.int (0 : Int32)), (.int (0 : Int32)), (.int (0 : Int32)), (.int (0 : Int32)), (.int (0 : Int32)), (.int (0 : Int32)), (.int (0 : Int32)), (.int (0 : Int32)), (.int (0 : Int32)), (.int (0 : Int32)), (.int (0 : Int32)), (.int (0 : Int32)), (.int (0 : Int32)), (.int (0 : Int32)), (.int (0 : Int32)), (.int (0 : Int32)), (.int (0 : Int32)), (.int (0 : Int32)), (.int (0 : Int32)), (.int (0 : Int32)), (.int (0 : Int32)), (.int (0 : Int32)), (.int (0 : Int32)), (.int (0 : Int32)), (.int (0 : Int32)), (.int (0 : Int32)), (.int (0 : Int32)), (.int (0 : Int32)), (.int (0 : Int32)), (.int (0 : Int32)), (.int (0 : Int32)), (.int (0 : Int32)), (.int (0 : Int32)), (.int (0 : Int32)), (.int (0 : Int32)), (.int (0 : Int32)), (.int (0 : Int32)), (.int (0 : Int32)), (.int (0 : Int32)), (.int (0 : Int32)), (.int (0 : Int32)), (.int (0 : Int32)), (.int (0 : Int32))] := A249
      refine W.dup (pc' := 391) X d_m7_390 rfl rfl ?_
      refine W.iconst (pc' := 392) X (4 : Int32) d_m7_391 (by decide) rfl ?_
      refine W.iloadN (pc' := 393) X d_m7_392 rfl rfl ?_
      refine W.castore (pc' := 394) (i := 4) X A249 (by decide) rfl (ltb rfl) P1 g235 nb236 d_m7_393 rfl fun T h250 X K251 A252 => ?_
      have A252 : Ar Z h250 a232 .char [(.int d), (.int d), (.int d), (.int d), (.int d), (.int (0 : Int32)), (.int (0 : Int32)), (.int (0 : Int32)), (.int (0 : Int32)), (.int (0 : Int32)), (.int (0 : Int32)), (.int (0 : Int32)), (.int (0 : Int32)), (.int (0 : Int32)), (.int (0 : Int32)), (.int (0 : Int32)), (.int (0 : Int32)), (.int (0 : Int32)), (.int (0 : Int32)), (.int (0 : Int32)), (.int (0 : Int32)), (.int (0 : Int32)), (.int (0 : Int32)), (.int (0 : Int32)), (.int (0 : Int32)), (.int (0 : Int32)), (.int (0 : Int32)), (.int (0 : Int32)), (.int (0 : Int32)), (.int (0 : Int32)), (.int (0 : Int32)), (.int (0 : Int32)), (.int (0 : Int32)), (.int (0 : Int32)), (.int (0 : Int32)), (.int (0 : Int32)), (.int (0 : Int32)), (.int (0 : Int32)), (.int (0 : Int32)), (.int (0 : Int32)), (.int (0 : Int32)), (.int (0 : Int32)), (.int (0 : Int32)), (.int (0 : Int32)), (.int (0 : Int32)), (.int (0 : Int32)), (.int (0 : Int32)), (.int (0 : Int32)), (.int (0 : Int32)), (.int (0 : Int32)), (.int (0 : Int32)), (.int (0 : Int32)), (.int (0 : Int32)), (.int (0 : Int32)), (.int (0 : Int32)), (.int (0 : Int32)), (.int (0 : Int32)), (.int (0 : Int32)), (.int (0 : Int32)), (.int (0 : Int32)), (.int (0 : Int32)), (.int (0 : Int32)), (.int (0 : Int32)), (.int (0 : Int32))] := A252
      refine W.dup (pc' := 395) X d_m7_394 rfl rfl ?_
      refine W.iconst (pc' := 396) X (5 : Int32) d_m7_395 (by decide) rfl ?_
      refine W.iloadN (pc' := 397) X d_m7_396 rfl rfl ?_
      refine W.castore (pc' := 398) (i := 5) X A252 (by decide) rfl (ltb rfl) P1 g235 nb236 d_m7_397 rfl fun T h253 X K254 A255 => ?_
      have A255 : Ar Z h253 a232 .char [(.int d), (.int d), (.int d), (.int d), (.int d), (.int d), (.int (0 : Int32)), (.int (0 : Int32)), (.int (0 : Int32)), (.int (0 : Int32)), (.int (0 : Int32)), (.int (0 : Int32)), (.int (0 : Int32)), (.int (0 : Int32)), (.int (0 : Int32)), (.int (0 : Int32)), (.int (0 : Int32)), (.int (0 : Int32)), (.int (0 : Int32)), (.int (0 : Int32)), (.int (0 : Int32)), (.int (0 : Int32)), (.int (0 : Int32)), (.int (0 : Int32)), (.int (0 : Int32)), (.int (0 : Int32)), (.int (0 : Int32)), (.int (0 : Int32)), (.int (0 : Int32)), (.int (0 : Int32)), (.int (0 : Int32)), (.int (0 : Int32)), (.int (0 : Int32)), (.int (0 : Int32)), (.int (0 : Int32)), (.int (0 : Int32)), (.int (0 : Int32)), (.int (0 : Int32)), (.int (0 : Int32)), (.int (0 : Int32)), (.int (0 : Int32)), (.int (0 : Int32)), (.int (0 : Int32)), (.int (0 : Int32)), (.int (0 : Int32)), (.int (0 : Int32)), (.int (0 : Int32)), (.int (0 : Int32)), (.int (0 : Int32)), (.int (0 : Int32)), (.int (0 : Int32)), (.int (0 : Int32)), (.int (0 : Int32)), (.int (0 : Int32)), (.int (0 : Int32)), (.int (0 : Int32)), (.int (0 : Int32)), (.int (0 : Int32)), (.int (0 : Int32)), (.int (0 : Int32)), (.int (0 : Int32)), (.int (0 : Int32)), (.int (0 : Int32)), (.int (0 : Int32))] := A255
      refine W.dup (pc' := 399) X d_m7_398 rfl rfl ?_
      refine W.bipush (pc' := 401) X (6 : Int32) d_m7_399 (by decide) rfl ?_
      refine W.iloadN (pc' := 402) X d_m7_401 rfl rfl ?_
      refine W.castore (pc' := 403) (i := 6) X A255 (by decide) rfl (ltb rfl) P1 g235 nb236 d_m7_402 rfl fun T h256 X K257 A258 => ?_
      have A258 : Ar Z h256 a232 .char [(.int d), (.int d), (.int d), (.int d), (.int d), (.int d), (.int d), (.int (0 : Int32)), (.int (0 : Int32)), (.int (0 : Int32)), (.int (0 : Int32)), (.int (0 : Int32)), (.int (0 : Int32)), (.int (0 : Int32)), (.int (0 : Int32)), (.int (0 : Int32)), (.int (0 : Int32)), (.int (0 : Int32)), (.int (0 : Int32)), (.int (0 : Int32)), (.int (0 : Int32)), (.int (0 : Int32)), (.int (0 : Int32)), (.int (0 : Int32)), (.int (0 : Int32)), (.int (0 : Int32)), (.int (0 : Int32)), (.int (0 : Int32)), (.int (0 : Int32)), (.int (0 : Int32)), (.int (0 : Int32)), (.int (0 : Int32)), (.int (0 : Int32)), (.int (0 : Int32)), (.int (0 : Int32)), (.int (0 : Int32)), (.int (0 : Int32)), (.int (0 : Int32)), (.int (0 : Int32)), (.int (0 : Int32)), (.int (0 : Int32)), (.int (0 : Int32)), (.int (0 : Int32)), (.int (0 : Int32)), (.int (0 : Int32)), (.int (0 : Int32)), (.int (0 : Int32)), (.int (0 : Int32)), (.int (0 : Int32)), (.int (0 : Int32)), (.int (0 : Int32)), (.int (0 : Int32)), (.int (0 : Int32)), (.int (0 : Int32)), (.int (0 : Int32)), (.int (0 : Int32)), (.int (0 : Int32)), (.int (0 : Int32)), (.int (0 : Int32)), (.int (0 : Int32)), (.int (0 : Int32)), (.int (0 : Int32)), (.int (0 : Int32)), (.int (0 : Int32))] := A258
      refine W.dup (pc' := 404) X d_m7_403 rfl rfl ?_
      refine W.bipush (pc' := 406) X (7 : Int32) d_m7_404 (by decide) rfl ?_
      refine W.iloadN (pc' := 407) X d_m7_406 rfl rfl ?_
      refine W.castore (pc' := 408) (i := 7) X A258 (by decide) rfl (ltb rfl) P1 g235 nb236 d_m7_407 rfl fun T h259 X K260 A261 => ?_
      have A261 : Ar Z h259 a232 .char [(.int d), (.int d), (.int d), (.int d), (.int d), (.int d), (.int d), (.int d), (.int (0 : Int32)), (.int (0 : Int32)), (.int (0 : Int32)), (.int (0 : Int32)), (.int (0 : Int32)), (.int (0 : Int32)), (.int (0 : Int32)), (.int (0 : Int32)), (.int (0 : Int32)), (.int (0 : Int32)), (.int (0 : Int32)), (.int (0 : Int32)), (.int (0 : Int32)), (.int (0 : Int32)), (.int (0 : Int32)), (.int (0 : Int32)), (.int (0 : Int32)), (.int (0 : Int32)), (.int (0 : Int32)), (.int (0 : Int32)), (.int (0 : Int32)), (.int (0 : Int32)), (.int (0 : Int32)), (.int (0 : Int32)), (.int (0 : Int32)), (.int (0 : Int32)), (.int (0 : Int32)), (.int (0 : Int32)), (.int (0 : Int32)), (.int (0 : Int32)), (.int (0 : Int32)), (.int (0 : Int32)), (.int (0 : Int32)), (.int (0 : Int32)), (.int (0 : Int32)), (.int (0 : Int32)), (.int (0 : Int32)), (.int (0 : Int32)), (.int (0 : Int32)), (.int (0 : Int32)), (.int (0 : Int32)), (.int (0 : Int32)), (.int (0 : Int32)), (.int (0 : Int32)), (.int (0 : Int32)), (.int (0 : Int32)), (.int (0 : Int32)), (.int (0 : Int32)), (.int (0 : Int32)), (.int (0 : Int32)), (.int (0 : Int32)), (.int (0 : Int32)), (.int (0 : Int32)), (.int (0 : Int32)), (.int (0 : Int32)), (.int (0 : Int32))] := A261
      refine W.dup (pc' := 409) X d_m7_408 rfl rfl ?_
      refine W.bipush (pc' := 411) X (8 : Int32) d_m7_409 (by decide) rfl ?_
      refine W.iloadN (pc' := 412) X d_m7_411 rfl rfl ?_
      refine W.castore (pc' := 413) (i := 8) X A261 (by decide) rfl (ltb rfl) P1 g235 nb236 d_m7_412 rfl fun T h262 X K263 A264 => ?_
      have A264 : Ar Z h262 a232 .char [(.int d), (.int d), (.int d), (.int d), (.int d), (.int d), (.int d), (.int d), (.int d), (.int (0 : Int32)), (.int (0 : Int32)), (.int (0 : Int32)), (.int (0 : Int32)), (.int (0 : Int32)), (.int (0 : Int32)), (.int (0 : Int32)), (.int (0 : Int32)), (.int (0 : Int32)), (.int (0 : Int32)), (.int (0 : Int32)), (.int (0 : Int32)), (.int (0 : Int32)), (.int (0 : Int32)), (.int (0 : Int32)), (.int (0 : Int32)), (.int (0 : Int32)), (.int (0 : Int32)), (.int (0 : Int32)), (.int (0 : Int32)), (.int (0 : Int32)), (.int (0 : Int32)), (.int (0 : Int32)), (.int (0 : Int32)), (.int (0 : Int32)), (.int (0 : Int32)), (.int (0 : Int32)), (.int (0 : Int32)), (.int (0 : Int32)), (.int (0 : Int32)), (.int (0 : Int32)), (.int (0 : Int32)), (.int (0 : Int32)), (.int (0 : Int32)), (.int (0 : Int32)), (.int (0 : Int32)), (.int (0 : Int32)), (.int (0 : Int32)), (.int (0 : Int32)), (.int (0 : Int32)), (.int (0 : Int32)), (.int (0 : Int32)), (.int (0 : Int32)), (.int (0 : Int32)), (.int (0 : Int32)), (.int (0 : Int32)), (.int (0 : Int32)), (.int (0 : Int32)), (.int (0 : Int32)), (.int (0 : Int32)), (.int (0 : Int32)), (.int (0 : Int32)), (.int (0 : Int32)), (.int (0 : Int32)), (.int (0 : Int32))] := A264
      refine W.dup (pc' := 414) X d_m7_413 rfl rfl ?_
      refine W.bipush (pc' := 416) X (9 : Int32) d_m7_414 (by decide) rfl ?_
      refine W.iloadN (pc' := 417) X d_m7_416 rfl rfl ?_
      refine W.castore (pc' := 418) (i := 9) X A264 (by decide) rfl (ltb rfl) P1 g235 nb236 d_m7_417 rfl fun T h265 X K266 A267 => ?_
      have A267 : Ar Z h265 a232 .char [(.int d), (.int d), (.int d), (.int d), (.int d), (.int d), (.int d), (.int d), (.int d), (.int d), (.int (0 : Int32)), (.int (0 : Int32)), (.int (0 : Int32)), (.int (0 : Int32)), (.int (0 : Int32)), (.int (0 : Int32)), (.int (0 : Int32)), (.int (0 : Int32)), (.int (0 : Int32)), (.int (0 : Int32)), (.int (0 : Int32)), (.int (0 : Int32)), (.int (0 : Int32)), (.int (0 : Int32)), (.int (0 : Int32)), (.int (0 : Int32)), (.int (0 : Int32)), (.int (0 : Int32)), (.int (0 : Int32)), (.int (0 : Int32)), (.int (0 : Int32)), (.int (0 : Int32)), (.int (0 : Int32)), (.int (0 : Int32)), (.int (0 : Int32)), (.int (0 : Int32)), (.int (0 : Int32)), (.int (0 : Int32)), (.int (0 : Int32)), (.int (0 : Int32)), (.int (0 : Int32)), (.int (0 : Int32)), (.int (0 : Int32)), (.int (0 : Int32)), (.int (0 : Int32)), (.int (0 : Int32)), (.int (0 : Int32)), (.int (0 : Int32)), (.int (0 : Int32)), (.int (0 : Int32)), (.int (0 : Int32)), (.int (0 : Int32)), (.int (0 : Int32)), (.int (0 : Int32)), (.int (0 : Int32)), (.int (0 : Int32)), (.int (0 : Int32)), (.int (0 : Int32)), (.int (0 : Int32)), (.int (0 : Int32)), (.int (0 : Int32)), (.int (0 : Int32)), (.int (0 : Int32)), (.int (0 : Int32))] := A267
      refine W.dup (pc' := 419) X d_m7_418 rfl rfl ?_
      refine W.bipush (pc' := 421) X (10 : Int32) d_m7_419 (by decide) rfl ?_
      refine W.iloadN (pc' := 422) X d_m7_421 rfl rfl ?_
      refine W.castore (pc' := 423) (i := 10) X A267 (by decide) rfl (ltb rfl) P1 g235 nb236 d_m7_422 rfl fun T h268 X K269 A270 => ?_
      have A270 : Ar Z h268 a232 .char [(.int d), (.int d), (.int d), (.int d), (.int d), (.int d), (.int d), (.int d), (.int d), (.int d), (.int d), (.int (0 : Int32)), (.int (0 : Int32)), (.int (0 : Int32)), (.int (0 : Int32)), (.int (0 : Int32)), (.int (0 : Int32)), (.int (0 : Int32)), (.int (0 : Int32)), (.int (0 : Int32)), (.int (0 : Int32)), (.int (0 : Int32)), (.int (0 : Int32)), (.int (0 : Int32)), (.int (0 : Int32)), (.int (0 : Int32)), (.int (0 : Int32)), (.int (0 : Int32)), (.int (0 : Int32)), (.int (0 : Int32)), (.int (0 : Int32)), (.int (0 : Int32)), (.int (0 : Int32)), (.int (0 : Int32)), (.int (0 : Int32)), (.int (0 : Int32)), (.int (0 : Int32)), (.int (0 : Int32)), (.int (0 : Int32)), (.int (0 : Int32)), (.int (0 : Int32)), (.int (0 : Int32)), (.int (0 : Int32)), (.int (0 : Int32)), (.int (0 : Int32)), (.int (0 : Int32)), (.int (0 : Int32)), (.int (0 : Int32)), (.int (0 : Int32)), (.int (0 : Int32)), (.int (0 : Int32)), (.int (0 : Int32)), (.int (0 : Int32)), (.int (0 : Int32)), (.int (0 : Int32)), (.int (0 : Int32)), (.int (0 : Int32)), (.int (0 : Int32)), (.int (0 : Int32)), (.int (0 : Int32)), (.int (0 : Int32)), (.int (0 : Int32)), (.int (0 : Int32)), (.int (0 : Int32))] := A270
      refine W.dup (pc' := 424) X d_m7_423 rfl rfl ?_
      refine W.bipush (pc' := 426) X (11 : Int32) d_m7_424 (by decide) rfl ?_
      refine W.iloadN (pc' := 427) X d_m7_426 rfl rfl ?_
      refine W.castore (pc' := 428) (i := 11) X A270 (by decide) rfl (ltb rfl) P1 g235 nb236 d_m7_427 rfl fun T h271 X K272 A273 => ?_
      have A273 : Ar Z h271 a232 .char [(.int d), (.int d), (.int d), (.int d), (.int d), (.int d), (.int d), (.int d), (.int d), (.int d), (.int d), (.int d), (.int (0 : Int32)), (.int (0 : Int32)), (.int (0 : Int32)), (.int (0 : Int32)), (.int (0 : Int32)), (.int (0 : Int32)), (.int (0 : Int32)), (.int (0 : Int32)), (.int (0 : Int32)), (.int (0 : Int32)), (.int (0 : Int32)), (.int (0 : Int32)), (.int (0 : Int32)), (.int (0 : Int32)), (.int (0 : Int32)), (.int (0 : Int32)), (.int (0 : Int32)), (.int (0 : Int32)), (.int (0 : Int32)), (.int (0 : Int32)), (.int (0 : Int32)), (.int (0 : Int32)), (.int (0 : Int32)), (.int (0 : Int32)), (.int (0 : Int32)), (.int (0 : Int32)), (.int (0 : Int32)), (.int (0 : Int32)), (.int (0 : Int32)), (.int (0 : Int32)), (.int (0 : Int32)), (.int (0 : Int32)), (.int (0 : Int32)), (.int (0 : Int32)), (.int (0 : Int32)), (.int (0 : Int32)), (.int (0 : Int32)), (.int (0 : Int32)), (.int (0 : Int32)), (.int (0 : Int32)), (.int (0 : Int32)), (.int (0 : Int32)), (.int (0 : Int32)), (.int (0 : Int32)), (.int (0 : Int32)), (.int (0 : Int32)), (.int (0 : Int32)), (.int (0 : Int32)), (.int (0 : Int32)), (.int (0 : Int32)), (.int (0 : Int32)), (.int (0 : Int32))] := A273
      refine W.dup (pc' := 429) X d_m7_428 rfl rfl ?_
      refine W.bipush (pc' := 431) X (12 : Int32) d_m7_429 (by decide) rfl ?_
      refine W.iloadN (pc' := 432) X d_m7_431 rfl rfl ?_
      refine W.castore (pc' := 433) (i := 12) X A273 (by decide) rfl (ltb rfl) P1 g235 nb236 d_m7_432 rfl fun T h274 X K275 A276 => ?_
      have A276 : Ar Z h274 a232 .char [(.int d), (.int d), (.int d), (.int d), (.int d), (.int d), (.int d), (.int d), (.int d), (.int d), (.int d), (.int d), (.int d), (.int (0 : Int32)), (.int (0 : Int32)), (.int (0 : Int32)), (.int (0 : Int32)), (.int (0 : Int32)), (.int (0 : Int32)), (.int (0 : Int32)), (.int (0 : Int32)), (.int (0 : Int32)), (.int (0 : Int32)), (.int (0 : Int32)), (.int (0 : Int32)), (.int (0 : Int32)), (.int (0 : Int32)), (.int (0 : Int32)), (.int (0 : Int32)), (.int (0 : Int32)), (.int (0 : Int32)), (.int (0 : Int32)), (.int (0 : Int32)), (.int (0 : Int32)), (.int (0 : Int32)), (.int (0 : Int32)), (.int (0 : Int32)), (.int (0 : Int32)), (.int (0 : Int32)), (.int (0 : Int32)), (.int (0 : Int32)), (.int (0 : Int32)), (.int (0 : Int32)), (.int (0 : Int32)), (.int (0 : Int32)), (.int (0 : Int32)), (.int (0 : Int32)), (.int (0 : Int32)), (.int (0 : Int32)), (.int (0 : Int32)), (.int (0 : Int32)), (.int (0 : Int32)), (.int (0 : Int32)), (.int (0 : Int32)), (.int (0 : Int32)), (.int (0 : Int32)), (.int (0 : Int32)), (.int (0 : Int32)), (.int (0 : Int32)), (.int (0 : Int32)), (.int (0 : Int32)), (.int (0 : Int32)), (.int (0 : Int32)), (.int (0 : Int32))] := A276
      refine W.dup (pc' := 434) X d_m7_433 rfl rfl ?_
      refine W.bipush (pc' := 436) X (13 : Int32) d_m7_434 (by decide) rfl ?_
      refine W.iloadN (pc' := 437) X d_m7_436 rfl rfl ?_
      refine W.castore (pc' := 438) (i := 13) X A276 (by decide) rfl (ltb rfl) P1 g235 nb236 d_m7_437 rfl fun T h277 X K278 A279 => ?_
      have A279 : Ar Z h277 a232 .char [(.int d), (.int d), (.int d), (.int d), (.int d), (.int d), (.int d), (.int d), (.int d), (.int d), (.int d), (.int d), (.int d), (.int d), (.int (0 : Int32)), (.int (0 : Int32)), (.int (0 : Int32)), (.int (0 : Int32)), (.int (0 : Int32)), (.int (0 : Int32)), (.int (0 : Int32)), (.int (0 : Int32)), (.int (0 : Int32)), (.int (0 : Int32)), (.int (0 : Int32)), (.int (0 : Int32)), (.int (0 : Int32)), (.int (0 : Int32)), (.int (0 : Int32)), (.int (0 : Int32)), (.int (0 : Int32)), (.int (0 : Int32)), (.int (0 : Int32)), (.int (0 : Int32)), (.int (0 : Int32)), (.int (0 : Int32)), (.int (0 : Int32)), (.int (0 : Int32)), (.int (0 : Int32)), (.int (0 : Int32)), (.int (0 : Int32)), (.int (0 : Int32)), (.int (0 : Int32)), (.int (0 : Int32)), (.int (0 : Int32)), (.int (0 : Int32)), (.int (0 : Int32)), (.int (0 : Int32)), (.int (0 : Int32)), (.int (0 : Int32)), (.int (0 : Int32)), (.int (0 : Int32)), (.int (0 : Int32)), (.int (0 : Int32)), (.int (0 : Int32)), (.int (0 : Int32)), (.int (0 : Int32)), (.int (0 : Int32)), (.int (0 : Int32)), (.int (0 : Int32)), (.int (0 : Int32)), (.int (0 : Int32)), (.int (0 : Int32)), (.int (0 : Int32))] := A279
      refine W.dup (pc' := 439) X d_m7_438 rfl rfl ?_
      refine W.bipush (pc' := 441) X (14 : Int32) d_m7_439 (by decide) rfl ?_
      refine W.iloadN (pc' := 442) X d_m7_441 rfl rfl ?_
      refine W.castore (pc' := 443) (i := 14) X A279 (by decide) rfl (ltb rfl) P1 g235 nb236 d_m7_442 rfl fun T h280 X K281 A282 => ?_
      have A282 : Ar Z h280 a232 .char [(.int d), (.int d), (.int d), (.int d), (.int d), (.int d), (.int d), (.int d), (.int d), (.int d), (.int d), (.int d), (.int d), (.int d), (.int d), (.int (0 : Int32)), (.int (0 : Int32)), (.int (0 : Int32)), (.int (0 : Int32)), (.int (0 : Int32)), (.int (0 : Int32)), (.int (0 : Int32)), (.int (0 : Int32)), (.int (0 : Int32)), (.int (0 : Int32)), (.int (0 : Int32)), (.int (0 : Int32)), (.int (0 : Int32)), (.int (0 : Int32)), (.int (0 : Int32)), (.int (0 : Int32)), (.int (0 : Int32)), (.int (0 : Int32)), (.int (0 : Int32)), (.int (0 : Int32)), (.int (0 : Int32)), (.int (0 : Int32)), (.int (0 : Int32)), (.int (0 : Int32)), (.int (0 : Int32)), (.int (0 : Int32)), (.int (0 : Int32)), (.int (0 : Int32)), (.int (0 : Int32)), (.int (0 : Int32)), (.int (0 : Int32)), (.int (0 : Int32)), (.int (0 : Int32)), (.int (0 : Int32)), (.int (0 : Int32)), (.int (0 : Int32)), (.int (0 : Int32)), (.int (0 : Int32)), (.int (0 : Int32)), (.int (0 : Int32)), (.int (0 : Int32)), (.int (0 : Int32)), (.int (0 : Int32)), (.int (0 : Int32)), (.int (0 : Int32)), (.int (0 : Int32)), (.int (0 : Int32)), (.int (0 : Int32)), (.int (0 : Int32))] := A282
      refine W.dup (pc' := 444) X d_m7_443 rfl rfl ?_
      refine W.bipush (pc' := 446) X (15 : Int32) d_m7_444 (by decide) rfl ?_
      refine W.iloadN (pc' := 447) X d_m7_446 rfl rfl ?_
      refine W.castore (pc' := 448) (i := 15) X A282 (by decide) rfl (ltb rfl) P1 g235 nb236 d_m7_447 rfl fun T h283 X K284 A285 => ?_
      have A285 : Ar Z h283 a232 .char [(.int d), (.int d), (.int d), (.int d), (.int d), (.int d), (.int d), (.int d), (.int d), (.int d), (.int d), (.int d), (.int d), (.int d), (.int d), (.int d), (.int (0 : Int32)), (.int (0 : Int32)), (.int (0 : Int32)), (.int (0 : Int32)), (.int (0 : Int32)), (.int (0 : Int32)), (.int (0 : Int32)), (.int (0 : Int32)), (.int (0 : Int32)), (.int (0 : Int32)), (.int (0 : Int32)), (.int (0 : Int32)), (.int (0 : Int32)), (.int (0 : Int32)), (.int (0 : Int32)), (.int (0 : Int32)), (.int (0 : Int32)), (.int (0 : Int32)), (.int (0 : Int32)), (.int (0 : Int32)), (.int (0 : Int32)), (.int (0 : Int32)), (.int (0 : Int32)), (.int (0 : Int32)), (.int (0 : Int32)), (.int (0 : Int32)), (.int (0 : Int32)), (.int (0 : Int32)), (.int (0 : Int32)), (.int (0 : Int32)), (.int (0 : Int32)), (.int (0 : Int32)), (.int (0 : Int32)), (.int (0 : Int32)), (.int (0 : Int32)), (.int (0 : Int32)), (.int (0 : Int32)), (.int (0 : Int32)), (.int (0 : Int32)), (.int (0 : Int32)), (.int (0 : Int32)), (.int (0 : Int32)), (.int (0 : Int32)), (.int (0 : Int32)), (.int (0 : Int32)), (.int (0 : Int32)), (.int (0 : Int32)), (.int (0 : Int32))] := A285
      refine W.dup (pc' := 449) X d_m7_448 rfl rfl ?_
      refine W.bipush (pc' := 451) X (16 : Int32) d_m7_449 (by decide) rfl ?_
      refine W.iloadN (pc' := 452) X d_m7_451 rfl rfl ?_
      refine W.castore (pc' := 453) (i := 16) X A285 (by decide) rfl (ltb rfl) P1 g235 nb236 d_m7_452 rfl fun T h286 X K287 A288 => ?_
      have A288 : Ar Z h286 a232 .char [(.int d), (.int d), (.int d), (.int d), (.int d), (.int d), (.int d), (.int d), (.int d), (.int d), (.int d), (.int d), (.int d), (.int d), (.int d), (.int d), (.int d), (.int (0 : Int32)), (.int (0 : Int32)), (.int (0 : Int32)), (.int (0 : Int32)), (.int (0 : Int32)), (.int (0 : Int32)), (.int (0 : Int32)), (.int (0 : Int32)), (.int (0 : Int32)), (.int (0 : Int32)), (.int (0 : Int32)), (.int (0 : Int32)), (.int (0 : Int32)), (.int (0 : Int32)), (.int (0 : Int32)), (.int (0 : Int32)), (.int (0 : Int32)), (.int (0 : Int32)), (.int (0 : Int32)), (.int (0 : Int32)), (.int (0 : Int32)), (.int (0 : Int32)), (.int (0 : Int32)), (.int (0 : Int32)), (.int (0 : Int32)), (.int (0 : Int32)), (.int (0 : Int32)), (.int (0 : Int32)), (.int (0 : Int32)), (.int (0 : Int32)), (.int (0 : Int32)), (.int (0 : Int32)), (.int (0 : Int32)), (.int (0 : Int32)), (.int (0 : Int32)), (.int (0 : Int32)), (.int (0 : Int32)), (.int (0 : Int32)), (.int (0 : Int32)), (.int (0 : Int32)), (.int (0 : Int32)), (.int (0 : Int32)), (.int (0 : Int32)), (.int (0 : Int32)), (.int (0 : Int32)), (.int (0 : Int32)), (.int (0 : Int32))] := A288
      refine W.dup (pc' := 454) X d_m7_453 rfl rfl ?_
      refine W.bipush (pc' := 456) X (17 : Int32) d_m7_454 (by decide) rfl ?_
      refine W.iloadN (pc' := 457) X d_m7_456 rfl rfl ?_
      refine W.castore (pc' := 458) (i := 17) X A288 (by decide) rfl (ltb rfl) P1 g235 nb236 d_m7_457 rfl fun T h289 X K290 A291 => ?_
      have A291 : Ar Z h289 a232 .char [(.int d), (.int d), (.int d), (.int d), (.int d), (.int d), (.int d), (.int d), (.int d), (.int d), (.int d), (.int d), (.int d), (.int d), (.int d), (.int d), (.int d), (.int d), (.int (0 : Int32)), (.int (0 : Int32)), (.int (0 : Int32)), (.int (0 : Int32)), (.int (0 : Int32)), (.int (0 : Int32)), (.int (0 : Int32)), (.int (0 : Int32)), (.int (0 : Int32)), (.int (0 : Int32)), (.int (0 : Int32)), (.int (0 : Int32)), (.int (0 : Int32)), (.int (0 : Int32)), (.int (0 : Int32)), (.int (0 : Int32)), (.int (0 : Int32)), (.int (0 : Int32)), (.int (0 : Int32)), (.int (0 : Int32)), (.int (0 : Int32)), (.int (0 : Int32)), (.int (0 : Int32)), (.int (0 : Int32)), (.int (0 : Int32)), (.int (0 : Int32)), (.int (0 : Int32)), (.int (0 : Int32)), (.int (0 : Int32)), (.int (0 : Int32)), (.int (0 : Int32)), (.int (0 : Int32)), (.int (0 : Int32)), (.int (0 : Int32)), (.int (0 : Int32)), (.int (0 : Int32)), (.int (0 : Int32)), (.int (0 : Int32)), (.int (0 : Int32)), (.int (0 : Int32)), (.int (0 : Int32)), (.int (0 : Int32)), (.int (0 : Int32)), (.int (0 : Int32)), (.int (0 : Int32)), (.int (0 : Int32))] := A291
      refine W.dup (pc' := 459) X d_m7_458 rfl rfl ?_
      refine W.bipush (pc' := 461) X (18 : Int32) d_m7_459 (by decide) rfl ?_
      refine W.iloadN (pc' := 462) X d_m7_461 rfl rfl ?_
      refine W.castore (pc' := 463) (i := 18) X A291 (by decide) rfl (ltb rfl) P1 g235 nb236 d_m7_462 rfl fun T h292 X K293 A294 => ?_
      have A294 : Ar Z h292 a232 .char [(.int d), (.int d), (.int d), (.int d), (.int d), (.int d), (.int d), (.int d), (.int d), (.int d), (.int d), (.int d), (.int d), (.int d), (.int d), (.int d), (.int d), (.int d), (.int d), (.int (0 : Int32)), (.int (0 : Int32)), (.int (0 : Int32)), (.int (0 : Int32)), (.int (0 : Int32)), (.int (0 : Int32)), (.int (0 : Int32)), (.int (0 : Int32)), (.int (0 : Int32)), (.int (0 : Int32)), (.int (0 : Int32)), (.int (0 : Int32)), (.int (0 : Int32)), (.int (0 : Int32)), (.int (0 : Int32)), (.int (0 : Int32)), (.int (0 : Int32)), (.int (0 : Int32)), (.int (0 : Int32)), (.int (0 : Int32)), (.int (0 : Int32)), (.int (0 : Int32)), (.int (0 : Int32)), (.int (0 : Int32)), (.int (0 : Int32)), (.int (0 : Int32)), (.int (0 : Int32)), (.int (0 : Int32)), (.int (0 : Int32)), (.int (0 : Int32)), (.int (0 : Int32)), (.int (0 : Int32)), (.int (0 : Int32)), (.int (0 : Int32)), (.int (0 : Int32)), (.int (0 : Int32)), (.int (0 : Int32)), (.int (0 : Int32)), (.int (0 : Int32)), (.int (0 : Int32)), (.int (0 : Int32)), (.int (0 : Int32)), (.int (0 : Int32)), (.int (0 : Int32)), (.int (0 : Int32))] := A294
      refine W.dup (pc' := 464) X d_m7_463 rfl rfl ?_
      refine W.bipush (pc' := 466) X (19 : Int32) d_m7_464 (by decide) rfl ?_
      refine W.iloadN (pc' := 467) X d_m7_466 rfl rfl ?_
      refine W.castore (pc' := 468) (i := 19) X A294 (by decide) rfl (ltb rfl) P1 g235 nb236 d_m7_467 rfl fun T h295 X K296 A297 => ?_
      have A297 : Ar Z h295 a232 .char [(.int d), (.int d), (.int d), (.int d), (.int d), (.int d), (.int d), (.int d), (.int d), (.int d), (.int d), (.int d), (.int d), (.int d), (.int d), (.int d), (.int d), (.int d), (.int d), (.int d), (.int (0 : Int32)), (.int (0 : Int32)), (.int (0 : Int32)), (.int (0 : Int32)), (.int (0 : Int32)), (.int (0 : Int32)), (.int (0 : Int32)), (.int (0 : Int32)), (.int (0 : Int32)), (.int (0 : Int32)), (.int (0 : Int32)), (.int (0 : Int32)), (.int (0 : Int32)), (.int (0 : Int32)), (.int (0 : Int32)), (.int (0 : Int32)), (.int (0 : Int32)), (.int (0 : Int32)), (.int (0 : Int32)), (.int (0 : Int32)), (.int (0 : Int32)), (.int (0 : Int32)), (.int (0 : Int32)), (.int (0 : Int32)), (.int (0 : Int32)), (.int (0 : Int32)), (.int (0 : Int32)), (.int (0 : Int32)), (.int (0 : Int32)), (.int (0 : Int32)), (.int (0 : Int32)), (.int (0 : Int32)), (.int (0 : Int32)), (.int (0 : Int32)), (.int (0 : Int32)), (.int (0 : Int32)), (.int (0 : Int32)), (.int (0 : Int32)), (.int (0 : Int32)), (.int (0 : Int32)), (.int (0 : Int32)), (.int (0 : Int32)), (.int (0 : Int32)), (.int (0 : Int32))] := A297
      refine W.dup (pc' := 469) X d_m7_468 rfl rfl ?_
      refine W.bipush (pc' := 471) X (20 : Int32) d_m7_469 (by decide) rfl ?_
      refine W.iloadN (pc' := 472) X d_m7_471 rfl rfl ?_
      refine W.castore (pc' := 473) (i := 20) X A297 (by decide) rfl (ltb rfl) P1 g235 nb236 d_m7_472 rfl fun T h298 X K299 A300 => ?_
      have A300 : Ar Z h298 a232 .char [(.int d), (.int d), (.int d), (.int d), (.int d), (.int d), (.int d), (.int d), (.int d), (.int d), (.int d), (.int d), (.int d), (.int d), (.int d), (.int d), (.int d), (.int d), (.int d), (.int d), (.int d), (.int (0 : Int32)), (.int (0 : Int32)), (.int (0 : Int32)), (.int (0 : Int32)), (.int (0 : Int32)), (.int (0 : Int32)), (.int (0 : Int32)), (.int (0 : Int32)), (.int (0 : Int32)), (.int (0 : Int32)), (.int (0 : Int32)), (.int (0 : Int32)), (.int (0 : Int32)), (.int (0 : Int32)), (.int (0 : Int32)), (.int (0 : Int32)), (.int (0 : Int32)), (.int (0 : Int32)), (.int (0 : Int32)), (.int (0 : Int32)), (.int (0 : Int32)), (.int (0 : Int32)), (.int (0 : Int32)), (.int (0 : Int32)), (.int (0 : Int32)), (.int (0 : Int32)), (.int (0 : Int32)), (.int (0 : Int32)), (.int (0 : Int32)), (.int (0 : Int32)), (.int (0 : Int32)), (.int (0 : Int32)), (.int (0 : Int32)), (.int (0 : Int32)), (.int (0 : Int32)), (.int (0 : Int32)), (.int (0 : Int32)), (.int (0 : Int32)), (.int (0 : Int32)), (.int (0 : Int32)), (.int (0 : Int32)), (.int (0 : Int32)), (.int (0 : Int32))] := A300
      refine W.dup (pc' := 474) X d_m7_473 rfl rfl ?_
      refine W.bipush (pc' := 476) X (21 : Int32) d_m7_474 (by decide) rfl ?_
      refine W.iloadN (pc' := 477) X d_m7_476 rfl rfl ?_
      refine W.castore (pc' := 478) (i := 21) X A300 (by decide) rfl (ltb rfl) P1 g235 nb236 d_m7_477 rfl fun T h301 X K302 A303 => ?_
      have A303 : Ar Z h301 a232 .char [(.int d), (.int d), (.int d), (.int d), (.int d), (.int d), (.int d), (.int d), (.int d), (.int d), (.int d), (.int d), (.int d), (.int d), (.int d), (.int d), (.int d), (.int d), (.int d), (.int d), (.int d), (.int d), (.int (0 : Int32)), (.int (0 : Int32)), (.int (0 : Int32)), (.int (0 : Int32)), (.int (0 : Int32)), (.int (0 : Int32)), (.int (0 : Int32)), (.int (0 : Int32)), (.int (0 : Int32)), (.int (0 : Int32)), (.int (0 : Int32)), (.int (0 : Int32)), (.int (0 : Int32)), (.int (0 : Int32)), (.int (0 : Int32)), (.int (0 : Int32)), (.int (0 : Int32)), (.int (0 : Int32)), (.int (0 : Int32)), (.int (0 : Int32)), (.int (0 : Int32)), (.int (0 : Int32)), (.int (0 : Int32)), (.int (0 : Int32)), (.int (0 : Int32)), (.int (0 : Int32)), (.int (0 : Int32)), (.int (0 : Int32)), (.int (0 : Int32)), (.int (0 : Int32)), (.int (0 : Int32)), (.int (0 : Int32)), (.int (0 : Int32)), (.int (0 : Int32)), (.int (0 : Int32)), (.int (0 : Int32)), (.int (0 : Int32)), (.int (0 : Int32)), (.int (0 : Int32)), (.int (0 : Int32)), (.int (0 : Int32)), (.int (0 : Int32))] := A303
      refine W.dup (pc' := 479) X d_m7_478 rfl rfl ?_
      refine W.bipush (pc' := 481) X (22 : Int32) d_m7_479 (by decide) rfl ?_
      refine W.iloadN (pc' := 482) X d_m7_481 rfl rfl ?_
      refine W.castore (pc' := 483) (i := 22) X A303 (by decide) rfl (ltb rfl) P1 g235 nb236 d_m7_482 rfl fun T h304 X K305 A306 => ?_
      have A306 : Ar Z h304 a232 .char [(.int d), (.int d), (.int d), (.int d), (.int d), (.int d), (.int d), (.int d), (.int d), (.int d), (.int d), (.int d), (.int d), (.int d), (.int d), (.int d), (.int d), (.int d), (.int d), (.int d), (.int d), (.int d), (.int d), (.int (0 : Int32)), (.int (0 : Int32)), (.int (0 : Int32)), (.int (0 : Int32)), (.int (0 : Int32)), (.int (0 : Int32)), (.int (0 : Int32)), (.int (0 : Int32)), (.int (0 : Int32)), (.int (0 : Int32)), (.int (0 : Int32)), (.int (0 : Int32)), (.int (0 : Int32)), (.int (0 : Int32)), (.int (0 : Int32)), (.int (0 : Int32)), (.int (0 : Int32)), (.int (0 : Int32)), (.int (0 : Int32)), (.int (0 : Int32)), (.int (0 : Int32)), (.int (0 : Int32)), (.int (0 : Int32)), (.int (0 : Int32)), (.int (0 : Int32)), (.int (0 : Int32)), (.int (0 : Int32)), (.int (0 : Int32)), (.int (0 : Int32)), (.int (0 : Int32)), (.int (0 : Int32)), (.int (0 : Int32)), (.int (0 : Int32)), (.int (0 : Int32)), (.int (0 : Int32)), (.int (0 : Int32)), (.int (0 : Int32)), (.int (0 : Int32)), (.int (0 : Int32)), (.int (0 : Int32)), (.int (0 : Int32))] := A306
      refine W.dup (pc' := 484) X d_m7_483 rfl rfl ?_
      refine W.bipush (pc' := 486) X (23 : Int32) d_m7_484 (by decide) rfl ?_
      refine W.iloadN (pc' := 487) X d_m7_486 rfl rfl ?_
      refine W.castore (pc' := 488) (i := 23) X A306 (by decide) rfl (ltb rfl) P1 g235 nb236 d_m7_487 rfl fun T h307 X K308 A309 => ?_
      have A309 : Ar Z h307 a232 .char [(.int d), (.int d), (.int d), (.int d), (.int d), (.int d), (.int d), (.int d), (.int d), (.int d), (.int d), (.int d), (.int d), (.int d), (.int d), (.int d), (.int d), (.int d), (.int d), (.int d), (.int d), (.int d), (.int d), (.int d), (.int (0 : Int32)), (.int (0 : Int32)), (.int (0 : Int32)), (.int (0 : Int32)), (.int (0 : Int32)), (.int (0 : Int32)), (.int (0 : Int32)), (.int (0 : Int32)), (.int (0 : Int32)), (.int (0 : Int32)), (.int (0 : Int32)), (.int (0 : Int32)), (.int (0 : Int32)), (.int (0 : Int32)), (.int (0 : Int32)), (.int (0 : Int32)), (.int (0 : Int32)), (.int (0 : Int32)), (.int (0 : Int32)), (.int (0 : Int32)), (.int (0 : Int32)), (.int (0 : Int32)), (.int (0 : Int32)), (.int (0 : Int32)), (.int (0 : Int32)), (.int (0 : Int32)), (.int (0 : Int32)), (.int (0 : Int32)), (.int (0 : Int32)), (.int (0 : Int32)), (.int (0 : Int32)), (.int (0 : Int32)), (.int (0 : Int32)), (.int (0 : Int32)), (.int (0 : Int32)), (.int (0 : Int32)), (.int (0 : Int32)), (.int (0 : Int32)), (.int (0 : Int32)), (.int (0 : Int32))] := A309
      refine W.dup (pc' := 489) X d_m7_488 rfl rfl ?_
      refine W.bipush (pc' := 491) X (24 : Int32) d_m7_489 (by decide) rfl ?_
      refine W.iloadN (pc' := 492) X d_m7_491 rfl rfl ?_
      refine W.castore (pc' := 493) (i := 24) X A309 (by decide) rfl (ltb rfl) P1 g235 nb236 d_m7_492 rfl fun T h310 X K311 A312 => ?_
      have A312 : Ar Z h310 a232 .char [(.int d), (.int d), (.int d), (.int d), (.int d), (.int d), (.int d), (.int d), (.int d), (.int d), (.int d), (.int d), (.int d), (.int d), (.int d), (.int d), (.int d), (.int d), (.int d), (.int d), (.int d), (.int d), (.int d), (.int d), (.int d), (.int (0 : Int32)), (.int (0 : Int32)), (.int (0 : Int32)), (.int (0 : Int32)), (.int (0 : Int32)), (.int (0 : Int32)), (.int (0 : Int32)), (.int (0 : Int32)), (.int (0 : Int32)), (.int (0 : Int32)), (.int (0 : Int32)), (.int (0 : Int32)), (.int (0 : Int32)), (.int (0 : Int32)), (.int (0 : Int32)), (.int (0 : Int32)), (.int (0 : Int32)), (.int (0 : Int32)), (.int (0 : Int32)), (.int (0 : Int32)), (.int (0 : Int32)), (.int (0 : Int32)), (.int (0 : Int32)), (.int (0 : Int32)), (.int (0 : Int32)), (.int (0 : Int32)), (.int (0 : Int32)), (.int (0 : Int32)), (.int (0 : Int32)), (.int (0 : Int32)), (.int (0 : Int32)), (.int (0 : Int32)), (.int (0 : Int32)), (.int (0 : Int32)), (.int (0 : Int32)), (.int (0 : Int32)), (.int (0 : Int32)), (.int (0 : Int32)), (.int (0 : Int32))] := A312
      refine W.dup (pc' := 494) X d_m7_493 rfl rfl ?_
      refine W.bipush (pc' := 496) X (25 : Int32) d_m7_494 (by decide) rfl ?_
      refine W.iloadN (pc' := 497) X d_m7_496 rfl rfl ?_
      refine W.castore (pc' := 498) (i := 25) X A312 (by decide) rfl (ltb rfl) P1 g235 nb236 d_m7_497 rfl fun T h313 X K314 A315 => ?_
      have A315 : Ar Z h313 a232 .char [(.int d), (.int d), (.int d), (.int d), (.int d), (.int d), (.int d), (.int d), (.int d), (.int d), (.int d), (.int d), (.int d), (.int d), (.int d), (.int d), (.int d), (.int d), (.int d), (.int d), (.int d), (.int d), (.int d), (.int d), (.int d), (.int d), (.int (0 : Int32)), (.int (0 : Int32)), (.int (0 : Int32)), (.int (0 : Int32)), (.int (0 : Int32)), (.int (0 : Int32)), (.int (0 : Int32)), (.int (0 : Int32)), (.int (0 : Int32)), (.int (0 : Int32)), (.int (0 : Int32)), (.int (0 : Int32)), (.int (0 : Int32)), (.int (0 : Int32)), (.int (0 : Int32)), (.int (0 : Int32)), (.int (0 : Int32)), (.int (0 : Int32)), (.int (0 : Int32)), (.int (0 : Int32)), (.int (0 : Int32)), (.int (0 : Int32)), (.int (0 : Int32)), (.int (0 : Int32)), (.int (0 : Int32)), (.int (0 : Int32)), (.int (0 : Int32)), (.int (0 : Int32)), (.int (0 : Int32)), (.int (0 : Int32)), (.int (0 : Int32)), (.int (0 : Int32)), (.int (0 : Int32)), (.int (0 : Int32)), (.int (0 : Int32)), (.int (0 : Int32)), (.int (0 : Int32)), (.int (0 : Int32))] := A315
      refine W.dup (pc' := 499) X d_m7_498 rfl rfl ?_
      refine W.bipush (pc' := 501) X (26 : Int32) d_m7_499 (by decide) rfl ?_
      refine W.iloadN (pc' := 502) X d_m7_501 rfl rfl ?_
      refine W.castore (pc' := 503) (i := 26) X A315 (by decide) rfl (ltb rfl) P1 g235 nb236 d_m7_502 rfl fun T h316 X K317 A318 => ?_
      have A318 : Ar Z h316 a232 .char [(.int d), (.int d), (.int d), (.int d), (.int d), (.int d), (.int d), (.int d), (.int d), (.int d), (.int d), (.int d), (.int d), (.int d), (.int d), (.int d), (.int d), (.int d), (.int d), (.int d), (.int d), (.int d), (.int d), (.int d), (.int d), (.int d), (.int d), (.int (0 : Int32)), (.int (0 : Int32)), (.int (0 : Int32)), (.int (0 : Int32)), (.int (0 : Int32)), (.int (0 : Int32)), (.int (0 : Int32)), (.int (0 : Int32)), (.int (0 : Int32)), (.int (0 : Int32)), (.int (0 : Int32)), (.int (0 : Int32)), (.int (0 : Int32)), (.int (0 : Int32)), (.int (0 : Int32)), (.int (0 : Int32)), (.int (0 : Int32)), (.int (0 : Int32)), (.int (0 : Int32)), (.int (0 : Int32)), (.int (0 : Int32)), (.int (0 : Int32)), (.int (0 : Int32)), (.int (0 : Int32)), (.int (0 : Int32)), (.int (0 : Int32)), (.int (0 : Int32)), (.int (0 : Int32)), (.int (0 : Int32)), (.int (0 : Int32)), (.int (0 : Int32)), (.int (0 : Int32)), (.int (0 : Int32)), (.int (0 : Int32)), (.int (0 : Int32)), (.int (0 : Int32)), (.int (0 : Int32))] := A318
      refine W.dup (pc' := 504) X d_m7_503 rfl rfl ?_
      refine W.bipush (pc' := 506) X (27 : Int32) d_m7_504 (by decide) rfl ?_
      refine W.iloadN (pc' := 507) X d_m7_506 rfl rfl ?_
      refine W.castore (pc' := 508) (i := 27) X A318 (by decide) rfl (ltb rfl) P1 g235 nb236 d_m7_507 rfl fun T h319 X K320 A321 => ?_
      have A321 : Ar Z h319 a232 .char [(.int d), (.int d), (.int d), (.int d), (.int d), (.int d), (.int d), (.int d), (.int d), (.int d), (.int d), (.int d), (.int d), (.int d), (.int d), (.int d), (.int d), (.int d), (.int d), (.int d), (.int d), (.int d), (.int d), (.int d), (.int d), (.int d), (.int d), (.int d), (.int (0 : Int32)), (.int (0 : Int32)), (.int (0 : Int32)), (.int (0 : Int32)), (.int (0 : Int32)), (.int (0 : Int32)), (.int (0 : Int32)), (.int (0 : Int32)), (.int (0 : Int32)), (.int (0 : Int32)), (.int (0 : Int32)), (.int (0 : Int32)), (.int (0 : Int32)), (.int (0 : Int32)), (.int (0 : Int32)), (.int (0 : Int32)), (.int (0 : Int32)), (.int (0 : Int32)), (.int (0 : Int32)), (.int (0 : Int32)), (.int (0 : Int32)), (.int (0 : Int32)), (.int (0 : Int32)), (.int (0 : Int32)), (.int (0 : Int32)), (.int (0 : Int32)), (.int (0 : Int32)), (.int (0 : Int32)), (.int (0 : Int32)), (.int (0 : Int32)), (.int (0 : Int32)), (.int (0 : Int32)), (.int (0 : Int32)), (.int (0 : Int32)), (.int (0 : Int32)), (.int (0 : Int32))] := A321
      refine W.dup (pc' := 509) X d_m7_508 rfl rfl ?_
      refine W.bipush (pc' := 511) X (28 : Int32) d_m7_509 (by decide) rfl ?_
      refine W.iloadN (pc' := 512) X d_m7_511 rfl rfl ?_
      refine W.castore (pc' := 513) (i := 28) X A321 (by decide) rfl (ltb rfl) P1 g235 nb236 d_m7_512 rfl fun T h322 X K323 A324 => ?_
      have A324 : Ar Z h322 a232 .char [(.int d), (.int d), (.int d), (.int d), (.int d), (.int d), (.int d), (.int d), (.int d), (.int d), (.int d), (.int d), (.int d), (.int d), (.int d), (.int d), (.int d), (.int d), (.int d), (.int d), (.int d), (.int d), (.int d), (.int d), (.int d), (.int d), (.int d), (.int d), (.int d), (.int (0 : Int32)), (.int (0 : Int32)), (.int (0 : Int32)), (.int (0 : Int32)), (.int (0 : Int32)), (.int (0 : Int32)), (.int (0 : Int32)), (.int (0 : Int32)), (.int (0 : Int32)), (.int (0 : Int32)), (.int (0 : Int32)), (.int (0 : Int32)), (.int (0 : Int32)), (.int (0 : Int32)), (.int (0 : Int32)), (.int (0 : Int32)), (.int (0 : Int32)), (.int (0 : Int32)), (.int (0 : Int32)), (.int (0 : Int32)), (.int (0 : Int32)), (.int (0 : Int32)), (.int (0 : Int32)), (.int (0 : Int32)), (.int (0 : Int32)), (.int (0 : Int32)), (.int (0 : Int32)), (.int (0 : Int32)), (.int (0 : Int32)), (.int (0 : Int32)), (.int (0 : Int32)), (.int (0 : Int32)), (.int (0 : Int32)), (.int (0 : Int32)), (.int (0 : Int32))] := A324
      refine W.dup (pc' := 514) X d_m7_513 rfl rfl ?_
      refine W.bipush (pc' := 516) X (29 : Int32) d_m7_514 (by decide) rfl ?_
      refine W.iloadN (pc' := 517) X d_m7_516 rfl rfl ?_
      refine W.castore (pc' := 518) (i := 29) X A324 (by decide) rfl (ltb rfl) P1 g235 nb236 d_m7_517 rfl fun T h325 X K326 A327 => ?_
      have A327 : Ar Z h325 a232 .char [(.int d), (.int d), (.int d), (.int d), (.int d), (.int d), (.int d), (.int d), (.int d), (.int d), (.int d), (.int d), (.int d), (.int d), (.int d), (.int d), (.int d), (.int d), (.int d), (.int d), (.int d), (.int d), (.int d), (.int d), (.int d), (.int d), (.int d), (.int d), (.int d), (.int d), (.int (0 : Int32)), (.int (0 : Int32)), (.int (0 : Int32)), (.int (0 : Int32)), (.int (0 : Int32)), (.int (0 : Int32)), (.int (0 : Int32)), (.int (0 : Int32)), (.int (0 : Int32)), (.int (0 : Int32)), (.int (0 : Int32)), (.int (0 : Int32)), (.int (0 : Int32)), (.int (0 : Int32)), (.int (0 : Int32)), (.int (0 : Int32)), (.int (0 : Int32)), (.int (0 : Int32)), (.int (0 : Int32)), (.int (0 : Int32)), (.int (0 : Int32)), (.int (0 : Int32)), (.int (0 : Int32)), (.int (0 : Int32)), (.int (0 : Int32)), (.int (0 : Int32)), (.int (0 : Int32)), (.int (0 : Int32)), (.int (0 : Int32)), (.int (0 : Int32)), (.int (0 : Int32)), (.int (0 : Int32)), (.int (0 : Int32)), (.int (0 : Int32))] := A327
      refine W.dup (pc' := 519) X d_m7_518 rfl rfl ?_
      refine W.bipush (pc' := 521) X (30 : Int32) d_m7_519 (by decide) rfl ?_
      refine W.iloadN (pc' := 522) X d_m7_521 rfl rfl ?_
      refine W.castore (pc' := 523) (i := 30) X A327 (by decide) rfl (ltb rfl) P1 g235 nb236 d_m7_522 rfl fun T h328 X K329 A330 => ?_
      have A330 : Ar Z h328 a232 .char [(.int d), (.int d), (.int d), (.int d), (.int d), (.int d), (.int d), (.int d), (.int d), (.int d), (.int d), (.int d), (.int d), (.int d), (.int d), (.int d), (.int d), (.int d), (.int d), (.int d), (.int d), (.int d), (.int d), (.int d), (.int d), (.int d), (.int d), (.int d), (.int d), (.int d), (.int d), (.int (0 : Int32)), (.int (0 : Int32)), (.int (0 : Int32)), (.int (0 : Int32)), (.int (0 : Int32)), (.int (0 : Int32)), (.int (0 : Int32)), (.int (0 : Int32)), (.int (0 : Int32)), (.int (0 : Int32)), (.int (0 : Int32)), (.int (0 : Int32)), (.int (0 : Int32)), (.int (0 : Int32)), (.int (0 : Int32)), (.int (0 : Int32)), (.int (0 : Int32)), (.int (0 : Int32)), (.int (0 : Int32)), (.int (0 : Int32)), (.int (0 : Int32)), (.int (0 : Int32)), (.int (0 : Int32)), (.int (0 : Int32)), (.int (0 : Int32)), (.int (0 : Int32)), (.int (0 : Int32)), (.int (0 : Int32)), (.int (0 : Int32)), (.int (0 : Int32)), (.int (0 : Int32)), (.int (0 : Int32)), (.int (0 : Int32))] := A330
      refine W.dup (pc' := 524) X d_m7_523 rfl rfl ?_
      refine W.bipush (pc' := 526) X (31 : Int32) d_m7_524 (by decide) rfl ?_
      refine W.iloadN (pc' := 527) X d_m7_526 rfl rfl ?_
      refine W.castore (pc' := 528) (i := 31) X A330 (by decide) rfl (ltb rfl) P1 g235 nb236 d_m7_527 rfl fun T h331 X K332 A333 => ?_
      have A333 : Ar Z h331 a232 .char [(.int d), (.int d), (.int d), (.int d), (.int d), (.int d), (.int d), (.int d), (.int d), (.int d), (.int d), (.int d), (.int d), (.int d), (.int d), (.int d), (.int d), (.int d), (.int d), (.int d), (.int d), (.int d), (.int d), (.int d), (.int d), (.int d), (.int d), (.int d), (.int d), (.int d), (.int d), (.int d), (.int (0 : Int32)), (.int (0 : Int32)), (.int (0 : Int32)), (.int (0 : Int32)), (.int (0 : Int32)), (.int (0 : Int32)), (.int (0 : Int32)), (.int (0 : Int32)), (.int (0 : Int32)), (.int (0 : Int32)), (.int (0 : Int32)), (.int (0 : Int32)), (.int (0 : Int32)), (.int (0 : Int32)), (.int (0 : Int32)), (.int (0 : Int32)), (.int (0 : Int32)), (.int (0 : Int32)), (.int (0 : Int32)), (.int (0 : Int32)), (.int (0 : Int32)), (.int (0 : Int32)), (.int (0 : Int32)), (.int (0 : Int32)), (.int (0 : Int32)), (.int (0 : Int32)), (.int (0 : Int32)), (.int (0 : Int32)), (.int (0 : Int32)), (.int (0 : Int32)), (.int (0 : Int32)), (.int (0 : Int32))] := A333
      refine W.dup (pc' := 529) X d_m7_528 rfl rfl ?_
      refine W.bipush (pc' := 531) X (32 : Int32) d_m7_529 (by decide) rfl ?_
      refine W.iloadN (pc' := 532) X d_m7_531 rfl rfl ?_
      refine W.castore (pc' := 533) (i := 32) X A333 (by decide) rfl (ltb rfl) P1 g235 nb236 d_m7_532 rfl fun T h334 X K335 A336 => ?_
      have A336 : Ar Z h334 a232 .char [(.int d), (.int d), (.int d), (.int d), (.int d), (.int d), (.int d), (.int d), (.int d), (.int d), (.int d), (.int d), (.int d), (.int d), (.int d), (.int d), (.int d), (.int d), (.int d), (.int d), (.int d), (.int d), (.int d), (.int d), (.int d), (.int d), (.int d), (.int d), (.int d), (.int d), (.int d), (.int d), (.int d), (.int (0 : Int32)), (.int (0 : Int32)), (.int (0 : Int32)), (.int (0 : Int32)), (.int (0 : Int32)), (.int (0 : Int32)), (.int (0 : Int32)), (.int (0 : Int32)), (.int (0 : Int32)), (.int (0 : Int32)), (.int (0 : Int32)), (.int (0 : Int32)), (.int (0 : Int32)), (.int (0 : Int32)), (.int (0 : Int32)), (.int (0 : Int32)), (.int (0 : Int32)), (.int (0 : Int32)), (.int (0 : Int32)), (.int (0 : Int32)), (.int (0 : Int32)), (.int (0 : Int32)), (.int (0 : Int32)), (.int (0 : Int32)), (.int (0 : Int32)), (.int (0 : Int32)), (.int (0 : Int32)), (.int (0 : Int32)), (.int (0 : Int32)), (.int (0 : Int32)), (.int (0 : Int32))] := A336
      refine W.dup (pc' := 534) X d_m7_533 rfl rfl ?_
      refine W.bipush (pc' := 536) X (33 : Int32) d_m7_534 (by decide) rfl ?_
      refine W.iloadN (pc' := 537) X d_m7_536 rfl rfl ?_
      refine W.castore (pc' := 538) (i := 33) X A336 (by decide) rfl (ltb rfl) P1 g235 nb236 d_m7_537 rfl fun T h337 X K338 A339 => ?_
      have A339 : Ar Z h337 a232 .char [(.int d), (.int d), (.int d), (.int d), (.int d), (.int d), (.int d), (.int d), (.int d), (.int d), (.int d), (.int d), (.int d), (.int d), (.int d), (.int d), (.int d), (.int d), (.int d), (.int d), (.int d), (.int d), (.int d), (.int d), (.int d), (.int d), (.int d), (.int d), (.int d), (.int d), (.int d), (.int d), (.int d), (.int d), (.int (0 : Int32)), (.int (0 : Int32)), (.int (0 : Int32)), (.int (0 : Int32)), (.int (0 : Int32)), (.int (0 : Int32)), (.int (0 : Int32)), (.int (0 : Int32)), (.int (0 : Int32)), (.int (0 : Int32)), (.int (0 : Int32)), (.int (0 : Int32)), (.int (0 : Int32)), (.int (0 : Int32)), (.int (0 : Int32)), (.int (0 : Int32)), (.int (0 : Int32)), (.int (0 : Int32)), (.int (0 : Int32)), (.int (0 : Int32)), (.int (0 : Int32)), (.int (0 : Int32)), (.int (0 : Int32)), (.int (0 : Int32)), (.int (0 : Int32)), (.int (0 : Int32)), (.int (0 : Int32)), (.int (0 : Int32)), (.int (0 : Int32)), (.int (0 : Int32))] := A339
      refine W.dup (pc' := 539) X d_m7_538 rfl rfl ?_
      refine W.bipush (pc' := 541) X (34 : Int32) d_m7_539 (by decide) rfl ?_
      refine W.iloadN (pc' := 542) X d_m7_541 rfl rfl ?_
      refine W.castore (pc' := 543) (i := 34) X A339 (by decide) rfl (ltb rfl) P1 g235 nb236 d_m7_542 rfl fun T h340 X K341 A342 => ?_
      have A342 : Ar Z h340 a232 .char [(.int d), (.int d), (.int d), (.int d), (.int d), (.int d), (.int d), (.int d), (.int d), (.int d), (.int d), (.int d), (.int d), (.int d), (.int d), (.int d), (.int d), (.int d), (.int d), (.int d), (.int d), (.int d), (.int d), (.int d), (.int d), (.int d), (.int d), (.int d), (.int d), (.int d), (.int d), (.int d), (.int d), (.int d), (.int d), (.int (0 : Int32)), (.int (0 : Int32)), (.int (0 : Int32)), (.int (0 : Int32)), (.int (0 : Int32)), (.int (0 : Int32)), (.int (0 : Int32)), (.int (0 : Int32)), (.int (0 : Int32)), (.int (0 : Int32)), (.int (0 : Int32)), (.int (0 : Int32)), (.int (0 : Int32)), (.int (0 : Int32)), (.int (0 : Int32)), (.int (0 : Int32)), (.int (0 : Int32)), (.int (0 : Int32)), (.int (0 : Int32)), (.int (0 : Int32)), (.int (0 : Int32)), (.int (0 : Int32)), (.int (0 : Int32)), (.int (0 : Int32)), (.int (0 : Int32)), (.int (0 : Int32)), (.int (0 : Int32)), (.int (0 : Int32)), (.int (0 : Int32))] := A342
      refine W.dup (pc' := 544) X d_m7_543 rfl rfl ?_
      refine W.bipush (pc' := 546) X (35 : Int32) d_m7_544 (by decide) rfl ?_
      refine W.iloadN (pc' := 547) X d_m7_546 rfl rfl ?_
      refine W.castore (pc' := 548) (i := 35) X A342 (by decide) rfl (ltb rfl) P1 g235 nb236 d_m7_547 rfl fun T h343 X K344 A345 => ?_
      have A345 : Ar Z h343 a232 .char [(.int d), (.int d), (.int d), (.int d), (.int d), (.int d), (.int d), (.int d), (.int d), (.int d), (.int d), (.int d), (.int d), (.int d), (.int d), (.int d), (.int d), (.int d), (.int d), (.int d), (.int d), (.int d), (.int d), (.int d), (.int d), (.int d), (.int d), (.int d), (.int d), (.int d), (.int d), (.int d), (.int d), (.int d), (.int d), (.int d), (.int (0 : Int32)), (.int (0 : Int32)), (.int (0 : Int32)), (.int (0 : Int32)), (.int (0 : Int32)), (.int (0 : Int32)), (.int (0 : Int32)), (.int (0 : Int32)), (.int (0 : Int32)), (.int (0 : Int32)), (.int (0 : Int32)), (.int (0 : Int32)), (.int (0 : Int32)), (.int (0 : Int32)), (.int (0 : Int32)), (.int (0 : Int32)), (.int (0 : Int32)), (.int (0 : Int32)), (.int (0 : Int32)), (.int (0 : Int32)), (.int (0 : Int32)), (.int (0 : Int32)), (.int (0 : Int32)), (.int (0 : Int32)), (.int (0 : Int32)), (.int (0 : Int32)), (.int (0 : Int32)), (.int (0 : Int32))] := A345
      refine W.dup (pc' := 549) X d_m7_548 rfl rfl ?_
      refine W.bipush (pc' := 551) X (36 : Int32) d_m7_549 (by decide) rfl ?_
      refine W.iloadN (pc' := 552) X d_m7_551 rfl rfl ?_
      refine W.castore (pc' := 553) (i := 36) X A345 (by decide) rfl (ltb rfl) P1 g235 nb236 d_m7_552 rfl fun T h346 X K347 A348 => ?_
      have A348 : Ar Z h346 a232 .char [(.int d), (.int d), (.int d), (.int d), (.int d), (.int d), (.int d), (.int d), (.int d), (.int d), (.int d), (.int d), (.int d), (.int d), (.int d), (.int d), (.int d), (.int d), (.int d), (.int d), (.int d), (.int d), (.int d), (.int d), (.int d), (.int d), (.int d), (.int d), (.int d), (.int d), (.int d), (.int d), (.int d), (.int d), (.int d), (.int d), (.int d), (.int (0 : Int32)), (.int (0 : Int32)), (.int (0 : Int32)), (.int (0 : Int32)), (.int (0 : Int32)), (.int (0 : Int32)), (.int (0 : Int32)), (.int (0 : Int32)), (.int (0 : Int32)), (.int (0 : Int32)), (.int (0 : Int32)), (.int (0 : Int32)), (.int (0 : Int32)), (.int (0 : Int32)), (.int (0 : Int32)), (.int (0 : Int32)), (.int (0 : Int32)), (.int (0 : Int32)), (.int (0 : Int32)), (.int (0 : Int32)), (.int (0 : Int32)), (.int (0 : Int32)), (.int (0 : Int32)), (.int (0 : Int32)), (.int (0 : Int32)), (.int (0 : Int32)), (.int (0 : Int32))] := A348
      refine W.dup (pc' := 554) X d_m7_553 rfl rfl ?_
      refine W.bipush (pc' := 556) X (37 : Int32) d_m7_554 (by decide) rfl ?_
      refine W.iloadN (pc' := 557) X d_m7_556 rfl rfl ?_
      refine W.castore (pc' := 558) (i := 37) X A348 (by decide) rfl (ltb rfl) P1 g235 nb236 d_m7_557 rfl fun T h349 X K350 A351 => ?_
      have A351 : Ar Z h349 a232 .char [(.int d), (.int d), (.int d), (.int d), (.int d), (.int d), (.int d), (.int d), (.int d), (.int d), (.int d), (.int d), (.int d), (.int d), (.int d), (.int d), (.int d), (.int d), (.int d), (.int d), (.int d), (.int d), (.int d), (.int d), (.int d), (.int d), (.int d), (.int d), (.int d), (.int d), (.int d), (.int d), (.int d), (.int d), (.int d), (.int d), (.int d), (.int d), (.int (0 : Int32)), (.int (0 : Int32)), (.int (0 : Int32)), (.int (0 : Int32)), (.int (0 : Int32)), (.int (0 : Int32)), (.int (0 : Int32)), (.int (0 : Int32)), (.int (0 : Int32)), (.int (0 : Int32)), (.int (0 : Int32)), (.int (0 : Int32)), (.int (0 : Int32)), (.int (0 : Int32)), (.int (0 : Int32)), (.int (0 : Int32)), (.int (0 : Int32)), (.int (0 : Int32)), (.int (0 : Int32)), (.int (0 : Int32)), (.int (0 : Int32)), (.int (0 : Int32)), (.int (0 : Int32)), (.int (0 : Int32)), (.int (0 : Int32)), (.int (0 : Int32))] := A351
      refine W.dup (pc' := 559) X d_m7_558 rfl rfl ?_
      refine W.bipush (pc' := 561) X (38 : Int32) d_m7_559 (by decide) rfl ?_
      refine W.iloadN (pc' := 562) X d_m7_561 rfl rfl ?_
      refine W.castore (pc' := 563) (i := 38) X A351 (by decide) rfl (ltb rfl) P1 g235 nb236 d_m7_562 rfl fun T h352 X K353 A354 => ?_
      have A354 : Ar Z h352 a232 .char [(.int d), (.int d), (.int d), (.int d), (.int d), (.int d), (.int d), (.int d), (.int d), (.int d), (.int d), (.int d), (.int d), (.int d), (.int d), (.int d), (.int d), (.int d), (.int d), (.int d), (.int d), (.int d), (.int d), (.int d), (.int d), (.int d), (.int d), (.int d), (.int d), (.int d), (.int d), (.int d), (.int d), (.int d), (.int d), (.int d), (.int d), (.int d), (.int d), (.int (0 : Int32)), (.int (0 : Int32)), (.int (0 : Int32)), (.int (0 : Int32)), (.int (0 : Int32)), (.int (0 : Int32)), (.int (0 : Int32)), (.int (0 : Int32)), (.int (0 : Int32)), (.int (0 : Int32)), (.int (0 : Int32)), (.int (0 : Int32)), (.int (0 : Int32)), (.int (0 : Int32)), (.int (0 : Int32)), (.int (0 : Int32)), (.int (0 : Int32)), (.int (0 : Int32)), (.int (0 : Int32)), (.int (0 : Int32)), (.int (0 : Int32)), (.int (0 : Int32)), (.int (0 : Int32)), (.int (0 : Int32)), (.int (0 : Int32))] := A354
      refine W.dup (pc' := 564) X d_m7_563 rfl rfl ?_
      refine W.bipush (pc' := 566) X (39 : Int32) d_m7_564 (by decide) rfl ?_
      refine W.iloadN (pc' := 567) X d_m7_566 rfl rfl ?_
      refine W.castore (pc' := 568) (i := 39) X A354 (by decide) rfl (ltb rfl) P1 g235 nb236 d_m7_567 rfl fun T h355 X K356 A357 => ?_
      have A357 : Ar Z h355 a232 .char [(.int d), (.int d), (.int d), (.int d), (.int d), (.int d), (.int d), (.int d), (.int d), (.int d), (.int d), (.int d), (.int d), (.int d), (.int d), (.int d), (.int d), (.int d), (.int d), (.int d), (.int d), (.int d), (.int d), (.int d), (.int d), (.int d), (.int d), (.int d), (.int d), (.int d), (.int d), (.int d), (.int d), (.int d), (.int d), (.int d), (.int d), (.int d), (.int d), (.int d), (.int (0 : Int32)), (.int (0 : Int32)), (.int (0 : Int32)), (.int (0 : Int32)), (.int (0 : Int32)), (.int (0 : Int32)), (.int (0 : Int32)), (.int (0 : Int32)), (.int (0 : Int32)), (.int (0 : Int32)), (.int (0 : Int32)), (.int (0 : Int32)), (.int (0 : Int32)), (.int (0 : Int32)), (.int (0 : Int32)), (.int (0 : Int32)), (.int (0 : Int32)), (.int (0 : Int32)), (.int (0 : Int32)), (.int (0 : Int32)), (.int (0 : Int32)), (.int (0 : Int32)), (.int (0 : Int32)), (.int (0 : Int32))] := A357
      refine W.dup (pc' := 569) X d_m7_568 rfl rfl ?_
      refine W.bipush (pc' := 571) X (40 : Int32) d_m7_569 (by decide) rfl ?_
      refine W.iloadN (pc' := 572) X d_m7_571 rfl rfl ?_
      refine W.castore (pc' := 573) (i := 40) X A357 (by decide) rfl (ltb rfl) P1 g235 nb236 d_m7_572 rfl fun T h358 X K359 A360 => ?_
      have A360 : Ar Z h358 a232 .char [(.int d), (.int d), (.int d), (.int d), (.int d), (.int d), (.int d), (.int d), (.int d), (.int d), (.int d), (.int d), (.int d), (.int d), (.int d), (.int d), (.int d), (.int d), (.int d), (.int d), (.int d), (.int d), (.int d), (.int d), (.int d), (.int d), (.int d), (.int d), (.int d), (.int d), (.int d), (.int d), (.int d), (.int d), (.int d), (.int d), (.int d), (.int d), (.int d), (.int d), (.int d), (.int (0 : Int32)), (.int (0 : Int32)), (.int (0 : Int32)), (.int (0 : Int32)), (.int (0 : Int32)), (.int (0 : Int32)), (.int (0 : Int32)), (.int (0 : Int32)), (.int (0 : Int32)), (.int (0 : Int32)), (.int (0 : Int32)), (.int (0 : Int32)), (.int (0 : Int32)), (.int (0 : Int32)), (.int (0 : Int32)), (.int (0 : Int32)), (.int (0 : Int32)), (.int (0 : Int32)), (.int (0 : Int32)), (.int (0 : Int32)), (.int (0 : Int32)), (.int (0 : Int32)), (.int (0 : Int32))] := A360
      refine W.dup (pc' := 574) X d_m7_573 rfl rfl ?_
      refine W.bipush (pc' := 576) X (41 : Int32) d_m7_574 (by decide) rfl ?_
      refine W.iloadN (pc' := 577) X d_m7_576 rfl rfl ?_
      refine W.castore (pc' := 578) (i := 41) X A360 (by decide) rfl (ltb rfl) P1 g235 nb236 d_m7_577 rfl fun T h361 X K362 A363 => ?_
      have A363 : Ar Z h361 a232 .char [(.int d), (.int d), (.int d), (.int d), (.int d), (.int d), (.int d), (.int d), (.int d), (.int d), (.int d), (.int d), (.int d), (.int d), (.int d), (.int d), (.int d), (.int d), (.int d), (.int d), (.int d), (.int d), (.int d), (.int d), (.int d), (.int d), (.int d), (.int d), (.int d), (.int d), (.int d), (.int d), (.int d), (.int d), (.int d), (.int d), (.int d), (.int d), (.int d), (.int d), (.int d), (.int d), (.int (0 : Int32)), (.int (0 : Int32)), (.int (0 : Int32)), (.int (0 : Int32)), (.int (0 : Int32)), (.int (0 : Int32)), (.int (0 : Int32)), (.int (0 : Int32)), (.int (0 : Int32)), (.int (0 : Int32)), (.int (0 : Int32)), (.int (0 : Int32)), (.int (0 : Int32)), (.int (0 : Int32)), (.int (0 : Int32)), (.int (0 : Int32)), (.int (0 : Int32)), (.int (0 : Int32)), (.int (0 : Int32)), (.int (0 : Int32)), (.int (0 : Int32)), (.int (0 : Int32))] := A363
      refine W.dup (pc' := 579) X d_m7_578 rfl rfl ?_
      refine W.bipush (pc' := 581) X (42 : Int32) d_m7_579 (by decide) rfl ?_
      refine W.iloadN (pc' := 582) X d_m7_581 rfl rfl ?_
      refine W.castore (pc' := 583) (i := 42) X A363 (by decide) rfl (ltb rfl) P1 g235 nb236 d_m7_582 rfl fun T h364 X K365 A366 => ?_
      have A366 : Ar Z h364 a232 .char [(.int d), (.int d), (.int d), (.int d), (.int d), (.int d), (.int d), (.int d), (.int d), (.int d), (.int d), (.int d), (.int d), (.int d), (.int d), (.int d), (.int d), (.int d), (.int d), (.int d), (.int d), (.int d), (.int d), (.int d), (.int d), (.int d), (.int d), (.int d), (.int d), (.int d), (.int d), (.int d), (.int d), (.int d), (.int d), (.int d), (.int d), (.int d), (.int d), (.int d), (.int d), (.int d), (.int d), (.int (0 : Int32)), (.int (0 : Int32)), (.int (0 : Int32)), (.int (0 : Int32)), (.int (0 : Int32)), (.int (0 : Int32)), (.int (0 : Int32)), (.int (0 : Int32)), (.int (0 : Int32)), (.int (0 : Int32)), (.int (0 : Int32)), (.int (0 : Int32)), (.int (0 : Int32)), (.int (0 : Int32)), (.int (0 : Int32)), (.int (0 : Int32)), (.int (0 : Int32)), (.int (0 : Int32)), (.int (0 : Int32)), (.int (0 : Int32)), (.int (0 : Int32))] := A366
      refine W.dup (pc' := 584) X d_m7_583 rfl rfl ?_
      refine W.bipush (pc' := 586) X (43 : Int32) d_m7_584 (by decide) rfl ?_
      refine W.iloadN (pc' := 587) X d_m7_586 rfl rfl ?_
      refine W.castore (pc' := 588) (i := 43) X A366 (by decide) rfl (ltb rfl) P1 g235 nb236 d_m7_587 rfl fun T h367 X K368 A369 => ?_
      have A369 : Ar Z h367 a232 .char [(.int d), (.int d), (.int d), (.int d), (.int d), (.int d), (.int d), (.int d), (.int d), (.int d), (.int d), (.int d), (.int d), (.int d), (.int d), (.int d), (.int d), (.int d), (.int d), (.int d), (.int d), (.int d), (.int d), (.int d), (.int d), (.int d), (.int d), (.int d), (.int d), (.int d), (.int d), (.int d), (.int d), (.int d), (.int d), (.int d), (.int d), (.int d), (.int d), (.int d), (.int d), (.int d), (.int d), (.int d), (.int (0 : Int32)), (.int (0 : Int32)), (.int (0 : Int32)), (.int (0 : Int32)), (.int (0 : Int32)), (.int (0 : Int32)), (.int (0 : Int32)), (.int (0 : Int32)), (.int (0 : Int32)), (.int (0 : Int32)), (.int (0 : Int32)), (.int (0 : Int32)), (.int (0 : Int32)), (.int (0 : Int32)), (.int (0 : Int32)), (.int (0 : Int32)), (.int (0 : Int32)), (.int (0 : Int32)), (.int (0 : Int32)), (.int (0 : Int32))] := A369
      refine W.dup (pc' := 589) X d_m7_588 rfl rfl ?_
      refine W.bipush (pc' := 591) X (44 : Int32) d_m7_589 (by decide) rfl ?_
      refine W.iloadN (pc' := 592) X d_m7_591 rfl rfl ?_
      refine W.castore (pc' := 593) (i := 44) X A369 (by decide) rfl (ltb rfl) P1 g235 nb236 d_m7_592 rfl fun T h370 X K371 A372 => ?_
      have A372 : Ar Z h370 a232 .char [(.int d), (.int d), (.int d), (.int d), (.int d), (.int d), (.int d), (.int d), (.int d), (.int d), (.int d), (.int d), (.int d), (.int d), (.int d), (.int d), (.int d), (.int d), (.int d), (.int d), (.int d), (.int d), (.int d), (.int d), (.int d), (.int d), (.int d), (.int d), (.int d), (.int d), (.int d), (.int d), (.int d), (.int d), (.int d), (.int d), (.int d), (.int d), (.int d), (.int d), (.int d), (.int d), (.int d), (.int d), (.int d), (.int (0 : Int32)), (.int (0 : Int32)), (.int (0 : Int32)), (.int (0 : Int32)), (.int (0 : Int32)), (.int (0 : Int32)), (.int (0 : Int32)), (.int (0 : Int32)), (.int (0 : Int32)), (.int (0 : Int32)), (.int (0 : Int32)), (.int (0 : Int32)), (.int (0 : Int32)), (.int (0 : Int32)), (.int (0 : Int32)), (.int (0 : Int32)), (.int (0 : Int32)), (.int (0 : Int32)), (.int (0 : Int32))] := A372
      refine W.dup (pc' := 594) X d_m7_593 rfl rfl ?_
      refine W.bipush (pc' := 596) X (45 : Int32) d_m7_594 (by decide) rfl ?_
      refine W.iloadN (pc' := 597) X d_m7_596 rfl rfl ?_
      refine W.castore (pc' := 598) (i := 45) X A372 (by decide) rfl (ltb rfl) P1 g235 nb236 d_m7_597 rfl fun T h373 X K374 A375 => ?_
      have A375 : Ar Z h373 a232 .char [(.int d), (.int d), (.int d), (.int d), (.int d), (.int d), (.int d), (.int d), (.int d), (.int d), (.int d), (.int d), (.int d), (.int d), (.int d), (.int d), (.int d), (.int d), (.int d), (.int d), (.int d), (.int d), (.int d), (.int d), (.int d), (.int d), (.int d), (.int d), (.int d), (.int d), (.int d), (.int d), (.int d), (.int d), (.int d), (.int d), (.int d), (.int d), (.int d), (.int d), (.int d), (.int d), (.int d), (.int d), (.int d), (.int d), (.int (0 : Int32)), (.int (0 : Int32)), (.int (0 : Int32)), (.int (0 : Int32)), (.int (0 : Int32)), (.int (0 : Int32)), (.int (0 : Int32)), (.int (0 : Int32)), (.int (0 : Int32)), (.int (0 : Int32)), (.int (0 : Int32)), (.int (0 : Int32)), (.int (0 : Int32)), (.int (0 : Int32)), (.int (0 : Int32)), (.int (0 : Int32)), (.int (0 : Int32)), (.int (0 : Int32))] := A375
      refine W.dup (pc' := 599) X d_m7_598 rfl rfl ?_
      refine W.bipush (pc' := 601) X (46 : Int32) d_m7_599 (by decide) rfl ?_
      refine W.iloadN (pc' := 602) X d_m7_601 rfl rfl ?_
      refine W.castore (pc' := 603) (i := 46) X A375 (by decide) rfl (ltb rfl) P1 g235 nb236 d_m7_602 rfl fun T h376 X K377 A378 => ?_
      have A378 : Ar Z h376 a232 .char [(.int d), (.int d), (.int d), (.int d), (.int d), (.int d), (.int d), (.int d), (.int d), (.int d), (.int d), (.int d), (.int d), (.int d), (.int d), (.int d), (.int d), (.int d), (.int d), (.int d), (.int d), (.int d), (.int d), (.int d), (.int d), (.int d), (.int d), (.int d), (.int d), (.int d), (.int d), (.int d), (.int d), (.int d), (.int d), (.int d), (.int d), (.int d), (.int d), (.int d), (.int d), (.int d), (.int d), (.int d), (.int d), (.int d), (.int d), (.int (0 : Int32)), (.int (0 : Int32)), (.int (0 : Int32)), (.int (0 : Int32)), (.int (0 : Int32)), (.int (0 : Int32)), (.int (0 : Int32)), (.int (0 : Int32)), (.int (0 : Int32)), (.int (0 : Int32)), (.int (0 : Int32)), (.int (0 : Int32)), (.int (0 : Int32)), (.int (0 : Int32)), (.int (0 : Int32)), (.int (0 : Int32)), (.int (0 : Int32))] := A378
      refine W.dup (pc' := 604) X d_m7_603 rfl rfl ?_
      refine W.bipush (pc' := 606) X (47 : Int32) d_m7_604 (by decide) rfl ?_
      refine W.iloadN (pc' := 607) X d_m7_606 rfl rfl ?_
      refine W.castore (pc' := 608) (i := 47) X A378 (by decide) rfl (ltb rfl) P1 g235 nb236 d_m7_607 rfl fun T h379 X K380 A381 => ?_
      have A381 : Ar Z h379 a232 .char [(.int d), (.int d), (.int d), (.int d), (.int d), (.int d), (.int d), (.int d), (.int d), (.int d), (.int d), (.int d), (.int d), (.int d), (.int d), (.int d), (.int d), (.int d), (.int d), (.int d), (.int d), (.int d), (.int d), (.int d), (.int d), (.int d), (.int d), (.int d), (.int d), (.int d), (.int d), (.int d), (.int d), (.int d), (.int d), (.int d), (.int d), (.int d), (.int d), (.int d), (.int d), (.int d), (.int d), (.int d), (.int d), (.int d), (.int d), (.int d), (.int (0 : Int32)), (.int (0 : Int32)), (.int (0 : Int32)), (.int (0 : Int32)), (.int (0 : Int32)), (.int (0 : Int32)), (.int (0 : Int32)), (.int (0 : Int32)), (.int (0 : Int32)), (.int (0 : Int32)), (.int (0 : Int32)), (.int (0 : Int32)), (.int (0 : Int32)), (.int (0 : Int32)), (.int (0 : Int32)), (.int (0 : Int32))] := A381
      refine W.dup (pc' := 609) X d_m7_608 rfl rfl ?_
      refine W.bipush (pc' := 611) X (48 : Int32) d_m7_609 (by decide) rfl ?_
      refine W.iloadN (pc' := 612) X d_m7_611 rfl rfl ?_
      refine W.castore (pc' := 613) (i := 48) X A381 (by decide) rfl (ltb rfl) P1 g235 nb236 d_m7_612 rfl fun T h382 X K383 A384 => ?_
      have A384 : Ar Z h382 a232 .char [(.int d), (.int d), (.int d), (.int d), (.int d), (.int d), (.int d), (.int d), (.int d), (.int d), (.int d), (.int d), (.int d), (.int d), (.int d), (.int d), (.int d), (.int d), (.int d), (.int d), (.int d), (.int d), (.int d), (.int d), (.int d), (.int d), (.int d), (.int d), (.int d), (.int d), (.int d), (.int d), (.int d), (.int d), (.int d), (.int d), (.int d), (.int d), (.int d), (.int d), (.int d), (.int d), (.int d), (.int d), (.int d), (.int d), (.int d), (.int d), (.int d), (.int (0 : Int32)), (.int (0 : Int32)), (.int (0 : Int32)), (.int (0 : Int32)), (.int (0 : Int32)), (.int (0 : Int32)), (.int (0 : Int32)), (.int (0 : Int32)), (.int (0 : Int32)), (.int (0 : Int32)), (.int (0 : Int32)), (.int (0 : Int32)), (.int (0 : Int32)), (.int (0 : Int32)), (.int (0 : Int32))] := A384
      refine W.dup (pc' := 614) X d_m7_613 rfl rfl ?_
      refine W.bipush (pc' := 616) X (49 : Int32) d_m7_614 (by decide) rfl ?_
      refine W.iloadN (pc' := 617) X d_m7_616 rfl rfl ?_
      refine W.castore (pc' := 618) (i := 49) X A384 (by decide) rfl (ltb rfl) P1 g235 nb236 d_m7_617 rfl fun T h385 X K386 A387 => ?_
      have A387 : Ar Z h385 a232 .char [(.int d), (.int d), (.int d), (.int d), (.int d), (.int d), (.int d), (.int d), (.int d), (.int d), (.int d), (.int d), (.int d), (.int d), (.int d), (.int d), (.int d), (.int d), (.int d), (.int d), (.int d), (.int d), (.int d), (.int d), (.int d), (.int d), (.int d), (.int d), (.int d), (.int d), (.int d), (.int d), (.int d), (.int d), (.int d), (.int d), (.int d), (.int d), (.int d), (.int d), (.int d), (.int d), (.int d), (.int d), (.int d), (.int d), (.int d), (.int d), (.int d), (.int d), (.int (0 : Int32)), (.int (0 : Int32)), (.int (0 : Int32)), (.int (0 : Int32)), (.int (0 : Int32)), (.int (0 : Int32)), (.int (0 : Int32)), (.int (0 : Int32)), (.int (0 : Int32)), (.int (0 : Int32)), (.int (0 : Int32)), (.int (0 : Int32)), (.int (0 : Int32)), (.int (0 : Int32))] := A387
      refine W.dup (pc' := 619) X d_m7_618 rfl rfl ?_
      refine W.bipush (pc' := 621) X (50 : Int32) d_m7_619 (by decide) rfl ?_
      refine W.iloadN (pc' := 622) X d_m7_621 rfl rfl ?_
      refine W.castore (pc' := 623) (i := 50) X A387 (by decide) rfl (ltb rfl) P1 g235 nb236 d_m7_622 rfl fun T h388 X K389 A390 => ?_
      have A390 : Ar Z h388 a232 .char [(.int d), (.int d), (.int d), (.int d), (.int d), (.int d), (.int d), (.int d), (.int d), (.int d), (.int d), (.int d), (.int d), (.int d), (.int d), (.int d), (.int d), (.int d), (.int d), (.int d), (.int d), (.int d), (.int d), (.int d), (.int d), (.int d), (.int d), (.int d), (.int d), (.int d), (.int d), (.int d), (.int d), (.int d), (.int d), (.int d), (.int d), (.int d), (.int d), (.int d), (.int d), (.int d), (.int d), (.int d), (.int d), (.int d), (.int d), (.int d), (.int d), (.int d), (.int d), (.int (0 : Int32)), (.int (0 : Int32)), (.int (0 : Int32)), (.int (0 : Int32)), (.int (0 : Int32)), (.int (0 : Int32)), (.int (0 : Int32)), (.int (0 : Int32)), (.int (0 : Int32)), (.int (0 : Int32)), (.int (0 : Int32)), (.int (0 : Int32)), (.int (0 : Int32))] := A390
      refine W.dup (pc' := 624) X d_m7_623 rfl rfl ?_
      refine W.bipush (pc' := 626) X (51 : Int32) d_m7_624 (by decide) rfl ?_
      refine W.iloadN (pc' := 627) X d_m7_626 rfl rfl ?_
      refine W.castore (pc' := 628) (i := 51) X A390 (by decide) rfl (ltb rfl) P1 g235 nb236 d_m7_627 rfl fun T h391 X K392 A393 => ?_
      have A393 : Ar Z h391 a232 .char [(.int d), (.int d), (.int d), (.int d), (.int d), (.int d), (.int d), (.int d), (.int d), (.int d), (.int d), (.int d), (.int d), (.int d), (.int d), (.int d), (.int d), (.int d), (.int d), (.int d), (.int d), (.int d), (.int d), (.int d), (.int d), (.int d), (.int d), (.int d), (.int d), (.int d), (.int d), (.int d), (.int d), (.int d), (.int d), (.int d), (.int d), (.int d), (.int d), (.int d), (.int d), (.int d), (.int d), (.int d), (.int d), (.int d), (.int d), (.int d), (.int d), (.int d), (.int d), (.int d), (.int (0 : Int32)), (.int (0 : Int32)), (.int (0 : Int32)), (.int (0 : Int32)), (.int (0 : Int32)), (.int (0 : Int32)), (.int (0 : Int32)), (.int (0 : Int32)), (.int (0 : Int32)), (.int (0 : Int32)), (.int (0 : Int32)), (.int (0 : Int32))] := A393
      refine W.dup (pc' := 629) X d_m7_628 rfl rfl ?_
      refine W.bipush (pc' := 631) X (52 : Int32) d_m7_629 (by decide) rfl ?_
      refine W.iloadN (pc' := 632) X d_m7_631 rfl rfl ?_
      refine W.castore (pc' := 633) (i := 52) X A393 (by decide) rfl (ltb rfl) P1 g235 nb236 d_m7_632 rfl fun T h394 X K395 A396 => ?_
      have A396 : Ar Z h394 a232 .char [(.int d), (.int d), (.int d), (.int d), (.int d), (.int d), (.int d), (.int d), (.int d), (.int d), (.int d), (.int d), (.int d), (.int d), (.int d), (.int d), (.int d), (.int d), (.int d), (.int d), (.int d), (.int d), (.int d), (.int d), (.int d), (.int d), (.int d), (.int d), (.int d), (.int d), (.int d), (.int d), (.int d), (.int d), (.int d), (.int d), (.int d), (.int d), (.int d), (.int d), (.int d), (.int d), (.int d), (.int d), (.int d), (.int d), (.int d), (.int d), (.int d), (.int d), (.int d), (.int d), (.int d), (.int (0 : Int32)), (.int (0 : Int32)), (.int (0 : Int32)), (.int (0 : Int32)), (.int (0 : Int32)), (.int (0 : Int32)), (.int (0 : Int32)), (.int (0 : Int32)), (.int (0 : Int32)), (.int (0 : Int32)), (.int (0 : Int32))] := A396
      refine W.dup (pc' := 634) X d_m7_633 rfl rfl ?_
      refine W.bipush (pc' := 636) X (53 : Int32) d_m7_634 (by decide) rfl ?_
      refine W.iloadN (pc' := 637) X d_m7_636 rfl rfl ?_
      refine W.castore (pc' := 638) (i := 53) X A396 (by decide) rfl (ltb rfl) P1 g235 nb236 d_m7_637 rfl fun T h397 X K398 A399 => ?_
      have A399 : Ar Z h397 a232 .char [(.int d), (.int d), (.int d), (.int d), (.int d), (.int d), (.int d), (.int d), (.int d), (.int d), (.int d), (.int d), (.int d), (.int d), (.int d), (.int d), (.int d), (.int d), (.int d), (.int d), (.int d), (.int d), (.int d), (.int d), (.int d), (.int d), (.int d), (.int d), (.int d), (.int d), (.int d), (.int d), (.int d), (.int d), (.int d), (.int d), (.int d), (.int d), (.int d), (.int d), (.int d), (.int d), (.int d), (.int d), (.int d), (.int d), (.int d), (.int d), (.int d), (.int d), (.int d), (.int d), (.int d), (.int d), (.int (0 : Int32)), (.int (0 : Int32)), (.int (0 : Int32)), (.int (0 : Int32)), (.int (0 : Int32)), (.int (0 : Int32)), (.int (0 : Int32)), (.int (0 : Int32)), (.int (0 : Int32)), (.int (0 : Int32))] := A399
      refine W.dup (pc' := 639) X d_m7_638 rfl rfl ?_
      refine W.bipush (pc' := 641) X (54 : Int32) d_m7_639 (by decide) rfl ?_
      refine W.iloadN (pc' := 642) X d_m7_641 rfl rfl ?_
      refine W.castore (pc' := 643) (i := 54) X A399 (by decide) rfl (ltb rfl) P1 g235 nb236 d_m7_642 rfl fun T h400 X K401 A402 => ?_
      have A402 : Ar Z h400 a232 .char [(.int d), (.int d), (.int d), (.int d), (.int d), (.int d), (.int d), (.int d), (.int d), (.int d), (.int d), (.int d), (.int d), (.int d), (.int d), (.int d), (.int d), (.int d), (.int d), (.int d), (.int d), (.int d), (.int d), (.int d), (.int d), (.int d), (.int d), (.int d), (.int d), (.int d), (.int d), (.int d), (.int d), (.int d), (.int d), (.int d), (.int d), (.int d), (.int d), (.int d), (.int d), (.int d), (.int d), (.int d), (.int d), (.int d), (.int d), (.int d), (.int d), (.int d), (.int d), (.int d), (.int d), (.int d), (.int d), (.int (0 : Int32)), (.int (0 : Int32)), (.int (0 : Int32)), (.int (0 : Int32)), (.int (0 : Int32)), (.int (0 : Int32)), (.int (0 : Int32)), (.int (0 : Int32)), (.int (0 : Int32))] := A402
      refine W.dup (pc' := 644) X d_m7_643 rfl rfl ?_
      refine W.bipush (pc' := 646) X (55 : Int32) d_m7_644 (by decide) rfl ?_
      refine W.iloadN (pc' := 647) X d_m7_646 rfl rfl ?_
      refine W.castore (pc' := 648) (i := 55) X A402 (by decide) rfl (ltb rfl) P1 g235 nb236 d_m7_647 rfl fun T h403 X K404 A405 => ?_
      have A405 : Ar Z h403 a232 .char [(.int d), (.int d), (.int d), (.int d), (.int d), (.int d), (.int d), (.int d), (.int d), (.int d), (.int d), (.int d), (.int d), (.int d), (.int d), (.int d), (.int d), (.int d), (.int d), (.int d), (.int d), (.int d), (.int d), (.int d), (.int d), (.int d), (.int d), (.int d), (.int d), (.int d), (.int d), (.int d), (.int d), (.int d), (.int d), (.int d), (.int d), (.int d), (.int d), (.int d), (.int d), (.int d), (.int d), (.int d), (.int d), (.int d), (.int d), (.int d), (.int d), (.int d), (.int d), (.int d), (.int d), (.int d), (.int d), (.int d), (.int (0 : Int32)), (.int (0 : Int32)), (.int (0 : Int32)), (.int (0 : Int32)), (.int (0 : Int32)), (.int (0 : Int32)), (.int (0 : Int32)), (.int (0 : Int32))] := A405
      refine W.dup (pc' := 649) X d_m7_648 rfl rfl ?_
      refine W.bipush (pc' := 651) X (56 : Int32) d_m7_649 (by decide) rfl ?_
      refine W.iloadN (pc' := 652) X d_m7_651 rfl rfl ?_
      refine W.castore (pc' := 653) (i := 56) X A405 (by decide) rfl (ltb rfl) P1 g235 nb236 d_m7_652 rfl fun T h406 X K407 A408 => ?_
      have A408 : Ar Z h406 a232 .char [(.int d), (.int d), (.int d), (.int d), (.int d), (.int d), (.int d), (.int d), (.int d), (.int d), (.int d), (.int d), (.int d), (.int d), (.int d), (.int d), (.int d), (.int d), (.int d), (.int d), (.int d), (.int d), (.int d), (.int d), (.int d), (.int d), (.int d), (.int d), (.int d), (.int d), (.int d), (.int d), (.int d), (.int d), (.int d), (.int d), (.int d), (.int d), (.int d), (.int d), (.int d), (.int d), (.int d), (.int d), (.int d), (.int d), (.int d), (.int d), (.int d), (.int d), (.int d), (.int d), (.int d), (.int d), (.int d), (.int d), (.int d), (.int (0 : Int32)), (.int (0 : Int32)), (.int (0 : Int32)), (.int (0 : Int32)), (.int (0 : Int32)), (.int (0 : Int32)), (.int (0 : Int32))] := A408
      refine W.dup (pc' := 654) X d_m7_653 rfl rfl ?_
      refine W.bipush (pc' := 656) X (57 : Int32) d_m7_654 (by decide) rfl ?_
      refine W.iloadN (pc' := 657) X d_m7_656 rfl rfl ?_
      refine W.castore (pc' := 658) (i := 57) X A408 (by decide) rfl (ltb rfl) P1 g235 nb236 d_m7_657 rfl fun T h409 X K410 A411 => ?_
      have A411 : Ar Z h409 a232 .char [(.int d), (.int d), (.int d), (.int d), (.int d), (.int d), (.int d), (.int d), (.int d), (.int d), (.int d), (.int d), (.int d), (.int d), (.int d), (.int d), (.int d), (.int d), (.int d), (.int d), (.int d), (.int d), (.int d), (.int d), (.int d), (.int d), (.int d), (.int d), (.int d), (.int d), (.int d), (.int d), (.int d), (.int d), (.int d), (.int d), (.int d), (.int d), (.int d), (.int d), (.int d), (.int d), (.int d), (.int d), (.int d), (.int d), (.int d), (.int d), (.int d), (.int d), (.int d), (.int d), (.int d), (.int d), (.int d), (.int d), (.int d), (.int d), (.int (0 : Int32)), (.int (0 : Int32)), (.int (0 : Int32)), (.int (0 : Int32)), (.int (0 : Int32)), (.int (0 : Int32))] := A411
      refine W.dup (pc' := 659) X d_m7_658 rfl rfl ?_
      refine W.bipush (pc' := 661) X (58 : Int32) d_m7_659 (by decide) rfl ?_
      refine W.iloadN (pc' := 662) X d_m7_661 rfl rfl ?_
      refine W.castore (pc' := 663) (i := 58) X A411 (by decide) rfl (ltb rfl) P1 g235 nb236 d_m7_662 rfl fun T h412 X K413 A414 => ?_
      have A414 : Ar Z h412 a232 .char [(.int d), (.int d), (.int d), (.int d), (.int d), (.int d), (.int d), (.int d), (.int d), (.int d), (.int d), (.int d), (.int d), (.int d), (.int d), (.int d), (.int d), (.int d), (.int d), (.int d), (.int d), (.int d), (.int d), (.int d), (.int d), (.int d), (.int d), (.int d), (.int d), (.int d), (.int d), (.int d), (.int d), (.int d), (.int d), (.int d), (.int d), (.int d), (.int d), (.int d), (.int d), (.int d), (.int d), (.int d), (.int d), (.int d), (.int d), (.int d), (.int d), (.int d), (.int d), (.int d), (.int d), (.int d), (.int d), (.int d), (.int d), (.int d), (.int d), (.int (0 : Int32)), (.int (0 : Int32)), (.int (0 : Int32)), (.int (0 : Int32)), (.int (0 : Int32))] := A414
      refine W.dup (pc' := 664) X d_m7_663 rfl rfl ?_
      refine W.bipush (pc' := 666) X (59 : Int32) d_m7_664 (by decide) rfl ?_
      refine W.iloadN (pc' := 667) X d_m7_666 rfl rfl ?_
      refine W.castore (pc' := 668) (i := 59) X A414 (by decide) rfl (ltb rfl) P1 g235 nb236 d_m7_667 rfl fun T h415 X K416 A417 => ?_
      have A417 : Ar Z h415 a232 .char [(.int d), (.int d), (.int d), (.int d), (.int d), (.int d), (.int d), (.int d), (.int d), (.int d), (.int d), (.int d), (.int d), (.int d), (.int d), (.int d), (.int d), (.int d), (.int d), (.int d), (.int d), (.int d), (.int d), (.int d), (.int d), (.int d), (.int d), (.int d), (.int d), (.int d), (.int d), (.int d), (.int d), (.int d), (.int d), (.int d), (.int d), (.int d), (.int d), (.int d), (.int d), (.int d), (.int d), (.int d), (.int d), (.int d), (.int d), (.int d), (.int d), (.int d), (.int d), (.int d), (.int d), (.int d), (.int d), (.int d), (.int d), (.int d), (.int d), (.int d), (.int (0 : Int32)), (.int (0 : Int32)), (.int (0 : Int32)), (.int (0 : Int32))] := A417
      refine W.dup (pc' := 669) X d_m7_668 rfl rfl ?_
      refine W.bipush (pc' := 671) X (60 : Int32) d_m7_669 (by decide) rfl ?_
      refine W.iloadN (pc' := 672) X d_m7_671 rfl rfl ?_
      refine W.castore (pc' := 673) (i := 60) X A417 (by decide) rfl (ltb rfl) P1 g235 nb236 d_m7_672 rfl fun T h418 X K419 A420 => ?_
      have A420 : Ar Z h418 a232 .char [(.int d), (.int d), (.int d), (.int d), (.int d), (.int d), (.int d), (.int d), (.int d), (.int d), (.int d), (.int d), (.int d), (.int d), (.int d), (.int d), (.int d), (.int d), (.int d), (.int d), (.int d), (.int d), (.int d), (.int d), (.int d), (.int d), (.int d), (.int d), (.int d), (.int d), (.int d), (.int d), (.int d), (.int d), (.int d), (.int d), (.int d), (.int d), (.int d), (.int d), (.int d), (.int d), (.int d), (.int d), (.int d), (.int d), (.int d), (.int d), (.int d), (.int d), (.int d), (.int d), (.int d), (.int d), (.int d), (.int d), (.int d), (.int d), (.int d), (.int d), (.int d), (.int (0 : Int32)), (.int (0 : Int32)), (.int (0 : Int32))] := A420
      refine W.dup (pc' := 674) X d_m7_673 rfl rfl ?_
      refine W.bipush (pc' := 676) X (61 : Int32) d_m7_674 (by decide) rfl ?_
      refine W.iloadN (pc' := 677) X d_m7_676 rfl rfl ?_
      refine W.castore (pc' := 678) (i := 61) X A420 (by decide) rfl (ltb rfl) P1 g235 nb236 d_m7_677 rfl fun T h421 X K422 A423 => ?_
      have A423 : Ar Z h421 a232 .char [(.int d), (.int d), (.int d), (.int d), (.int d), (.int d), (.int d), (.int d), (.int d), (.int d), (.int d), (.int d), (.int d), (.int d), (.int d), (.int d), (.int d), (.int d), (.int d), (.int d), (.int d), (.int d), (.int d), (.int d), (.int d), (.int d), (.int d), (.int d), (.int d), (.int d), (.int d), (.int d), (.int d), (.int d), (.int d), (.int d), (.int d), (.int d), (.int d), (.int d), (.int d), (.int d), (.int d), (.int d), (.int d), (.int d), (.int d), (.int d), (.int d), (.int d), (.int d), (.int d), (.int d), (.int d), (.int d), (.int d), (.int d), (.int d), (.int d), (.int d), (.int d), (.int d), (.int (0 : Int32)), (.int (0 : Int32))] := A423
      refine W.dup (pc' := 679) X d_m7_678 rfl rfl ?_
      refine W.bipush (pc' := 681) X (62 : Int32) d_m7_679 (by decide) rfl ?_
      refine W.iloadN (pc' := 682) X d_m7_681 rfl rfl ?_
      refine W.castore (pc' := 683) (i := 62) X A423 (by decide) rfl (ltb rfl) P1 g235 nb236 d_m7_682 rfl fun T h424 X K425 A426 => ?_
      have A426 : Ar Z h424 a232 .char [(.int d), (.int d), (.int d), (.int d), (.int d), (.int d), (.int d), (.int d), (.int d), (.int d), (.int d), (.int d), (.int d), (.int d), (.int d), (.int d), (.int d), (.int d), (.int d), (.int d), (.int d), (.int d), (.int d), (.int d), (.int d), (.int d), (.int d), (.int d), (.int d), (.int d), (.int d), (.int d), (.int d), (.int d), (.int d), (.int d), (.int d), (.int d), (.int d), (.int d), (.int d), (.int d), (.int d), (.int d), (.int d), (.int d), (.int d), (.int d), (.int d), (.int d), (.int d), (.int d), (.int d), (.int d), (.int d), (.int d), (.int d), (.int d), (.int d), (.int d), (.int d), (.int d), (.int d), (.int (0 : Int32))] := A426
      refine W.dup (pc' := 684) X d_m7_683 rfl rfl ?_
      refine W.bipush (pc' := 686) X (63 : Int32) d_m7_684 (by decide) rfl ?_
      refine W.iloadN (pc' := 687) X d_m7_686 rfl rfl ?_
      refine W.castore (pc' := 688) (i := 63) X A426 (by decide) rfl (ltb rfl) P1 g235 nb236 d_m7_687 rfl fun T h427 X K428 A429 => ?_
      have A429 : Ar Z h427 a232 .char [(.int d), (.int d), (.int d), (.int d), (.int d), (.int d), (.int d), (.int d), (.int d), (.int d), (.int d), (.int d), (.int d), (.int d), (.int d), (.int d), (.int d), (.int d), (.int d), (.int d), (.int d), (.int d), (.int d), (.int d), (.int d), (.int d), (.int d), (.int d), (.int d), (.int d), (.int d), (.int d), (.int d), (.int d), (.int d), (.int d), (.int d), (.int d), (.int d), (.int d), (.int d), (.int d), (.int d), (.int d), (.int d), (.int d), (.int d), (.int d), (.int d), (.int d), (.int d), (.int d), (.int d), (.int d), (.int d), (.int d), (.int d), (.int d), (.int d), (.int d), (.int d), (.int d), (.int d), (.int d)] := A429
      exact W.areturn X d_m7_688 rfl rfl rfl rfl (by decide) (by decide) ⟨_, rfl, rfl, ⟨a232, rfl, (Keep.trans (Keep.trans (Keep.trans (Keep.trans (Keep.trans (Keep.trans (Keep.trans (Keep.trans (Keep.trans (Keep.trans (Keep.trans (Keep.trans (Keep.trans (Keep.trans (Keep.trans (Keep.trans (Keep.trans (Keep.trans (Keep.trans (Keep.trans (Keep.trans (Keep.trans (Keep.trans (Keep.trans (Keep.trans (Keep.trans (Keep.trans (Keep.trans (Keep.trans (Keep.trans (Keep.trans (Keep.trans (Keep.trans (Keep.trans (Keep.trans (Keep.trans (Keep.trans (Keep.trans (Keep.trans (Keep.trans (Keep.trans (Keep.trans (Keep.trans (Keep.trans (Keep.trans (Keep.trans (Keep.trans (Keep.trans (Keep.trans (Keep.trans (Keep.trans (Keep.trans (Keep.trans (Keep.trans (Keep.trans (Keep.trans (Keep.trans (Keep.trans (Keep.trans (Keep.trans (Keep.trans (Keep.trans (Keep.trans (Keep.trans (Keep.trans (Keep.refl h []) K233 all0) K239 (allS (Or.inr (Nat.le_trans (Nat.le_refl _) g234)) all0)) K242 (allS (Or.inr (Nat.le_trans (Nat.le_refl _) g234)) all0)) K245 (allS (Or.inr (Nat.le_trans (Nat.le_refl _) g234)) all0)) K248 (allS (Or.inr (Nat.le_trans (Nat.le_refl _) g234)) all0)) K251 (allS (Or.inr (Nat.le_trans (Nat.le_refl _) g234)) all0)) K254 (allS (Or.inr (Nat.le_trans (Nat.le_refl _) g234)) all0)) K257 (allS (Or.inr (Nat.le_trans (Nat.le_refl _) g234)) all0)) K260 (allS (Or.inr (Nat.le_trans (Nat.le_refl _) g234)) all0)) K263 (allS (Or.inr (Nat.le_trans (Nat.le_refl _) g234)) all0)) K266 (allS (Or.inr (Nat.le_trans (Nat.le_refl _) g234)) all0)) K269 (allS (Or.inr (Nat.le_trans (Nat.le_refl _) g234)) all0)) K272 (allS (Or.inr (Nat.le_trans (Nat.le_refl _) g234)) all0)) K275 (allS (Or.inr (Nat.le_trans (Nat.le_refl _) g234)) all0)) K278 (allS (Or.inr (Nat.le_trans (Nat.le_refl _) g234)) all0)) K281 (allS (Or.inr (Nat.le_trans (Nat.le_refl _) g234)) all0)) K284 (allS (Or.inr (Nat.le_trans (Nat.le_refl _) g234)) all0)) K287 (allS (Or.inr (Nat.le_trans (Nat.le_refl _) g234)) all0)) K290 (allS (Or.inr (Nat.le_trans (Nat.le_refl _) g234)) all0)) K293 (allS (Or.inr (Nat.le_trans (Nat.le_refl _) g234)) all0)) K296 (allS (Or.inr (Nat.le_trans (Nat.le_refl _) g234)) all0)) K299 (allS (Or.inr (Nat.le_trans (Nat.le_refl _) g234)) all0)) K302 (allS (Or.inr (Nat.le_trans (Nat.le_refl _) g234)) all0)) K305 (allS (Or.inr (Nat.le_trans (Nat.le_refl _) g234)) all0)) K308 (allS (Or.inr (Nat.le_trans (Nat.le_refl _) g234)) all0)) K311 (allS (Or.inr (Nat.le_trans (Nat.le_refl _) g234)) all0)) K314 (allS (Or.inr (Nat.le_trans (Nat.le_refl _) g234)) all0)) K317 (allS (Or.inr (Nat.le_trans (Nat.le_refl _) g234)) all0)) K320 (allS (Or.inr (Nat.le_trans (Nat.le_refl _) g234)) all0)) K323 (allS (Or.inr (Nat.le_trans (Nat.le_refl _) g234)) all0)) K326 (allS (Or.inr (Nat.le_trans (Nat.le_refl _) g234)) all0)) K329 (allS (Or.inr (Nat.le_trans (Nat.le_refl _) g234)) all0)) K332 (allS (Or.inr (Nat.le_trans (Nat.le_refl _) g234)) all0)) K335 (allS (Or.inr (Nat.le_trans (Nat.le_refl _) g234)) all0)) K338 (allS (Or.inr (Nat.le_trans (Nat.le_refl _) g234)) all0)) K341 (allS (Or.inr (Nat.le_trans (Nat.le_refl _) g234)) all0)) K344 (allS (Or.inr (Nat.le_trans (Nat.le_refl _) g234)) all0)) K347 (allS (Or.inr (Nat.le_trans (Nat.le_refl _) g234)) all0)) K350 (allS (Or.inr (Nat.le_trans (Nat.le_refl _) g234)) all0)) K353 (allS (Or.inr (Nat.le_trans (Nat.le_refl _) g234)) all0)) K356 (allS (Or.inr (Nat.le_trans (Nat.le_refl _) g234)) all0)) K359 (allS (Or.inr (Nat.le_trans (Nat.le_refl _) g234)) all0)) K362 (allS (Or.inr (Nat.le_trans (Nat.le_refl _) g234)) all0)) K365 (allS (Or.inr (Nat.le_trans (Nat.le_refl _) g234)) all0)) K368 (allS (Or.inr (Nat.le_trans (Nat.le_refl _) g234)) all0)) K371 (allS (Or.inr (Nat.le_trans (Nat.le_refl _) g234)) all0)) K374 (allS (Or.inr (Nat.le_trans (Nat.le_refl _) g234)) all0)) K377 (allS (Or.inr (Nat.le_trans (Nat.le_refl _) g234)) all0)) K380 (allS (Or.inr (Nat.le_trans (Nat.le_refl _) g234)) all0)) K383 (allS (Or.inr (Nat.le_trans (Nat.le_refl _) g234)) all0)) K386 (allS (Or.inr (Nat.le_trans (Nat.le_refl _) g234)) all0)) K389 (allS (Or.inr (Nat.le_trans (Nat.le_refl _) g234)) all0)) K392 (allS (Or.inr (Nat.le_trans (Nat.le_refl _) g234)) all0)) K395 (allS (Or.inr (Nat.le_trans (Nat.le_refl _) g234)) all0)) K398 (allS (Or.inr (Nat.le_trans (Nat.le_refl _) g234)) all0)) K401 (allS (Or.inr (Nat.le_trans (Nat.le_refl _) g234)) all0)) K404 (allS (Or.inr (Nat.le_trans (Nat.le_refl _) g234)) all0)) K407 (allS (Or.inr (Nat.le_trans (Nat.le_refl _) g234)) all0)) K410 (allS (Or.inr (Nat.le_trans (Nat.le_refl _) g234)) all0)) K413 (allS (Or.inr (Nat.le_trans (Nat.le_refl _) g234)) all0)) K416 (allS (Or.inr (Nat.le_trans (Nat.le_refl _) g234)) all0)) K419 (allS (Or.inr (Nat.le_trans (Nat.le_refl _) g234)) all0)) K422 (allS (Or.inr (Nat.le_trans (Nat.le_refl _) g234)) all0)) K425 (allS (Or.inr (Nat.le_trans (Nat.le_refl _) g234)) all0)) K428 (allS (Or.inr (Nat.le_trans (Nat.le_refl _) g234)) all0)), (Nat.le_trans (Nat.le_refl _) g234), (by rw [lnN64 P0 hq32 hq40]; exact A429)⟩⟩
abbrev c_dig_q (Z : State) (zC : Int32) (fS : Value) (e0 : Addr) (e1 : Addr) (e2 : Addr) (h : Heap) (B : Addr → Prop) (x q a b : Addr) (cs : List Int32) (dl : Int32) (v1 v2 : Value) (h' : Heap) : Prop := Keep h h' [x] ∧ Fld Z h' x "com/example/campo_grande/campogrande/PayloadDigest" "algorithm" "Lcom/example/campo_grande/campogrande/SignatureAlgorithm;" (.ref q) ∧ Fld Z h' x "com/example/campo_grande/campogrande/PayloadDigest" "signature" "Ljava/lang/String;" (.ref a)
def c_dig_rm : Room := { frames := 5, cells := 0, slots := 0, locals := 68 }
set_option maxRecDepth 65536 in
set_option maxHeartbeats 40000000 in
theorem c_dig {l : Launch} {Z : State} {a0 : Array Value} {zC : Int32} {fS : Value} {e0 : Addr} {e1 : Addr} {e2 : Addr} {h : Heap} {B : Addr → Prop} {x q a b : Addr} {cs : List Int32} {dl : Int32} {v1 v2 : Value} (G : Gl Z a0 zC fS e0 e1 e2) (hE : En Z B h) (P0 : Exa Z h x "com/example/campo_grande/campogrande/PayloadDigest") (P1 : Fld Z h x "com/example/campo_grande/campogrande/PayloadDigest" "algorithm" "Lcom/example/campo_grande/campogrande/SignatureAlgorithm;" v1) (P2 : Fld Z h x "com/example/campo_grande/campogrande/PayloadDigest" "signature" "Ljava/lang/String;" v2) (P3 : Exa Z h q "com/example/campo_grande/campogrande/SignatureAlgorithm") (P4 : Fld Z h q "com/example/campo_grande/campogrande/SignatureAlgorithm" "digestLength" "I" (.int dl)) (P5 : Str Z h a b cs) (P6 : cs.length.toInt32 = (2 : Int32) * dl) (P7 : ∀ c ∈ cs, HexC c) (P8 : Z.heap.size ≤ x) (P9 : ¬ B x) : Con l Z [] [] (⟨"com/example/campo_grande/campogrande/PayloadDigest", "<init>", "(Lcom/example/campo_grande/campogrande/SignatureAlgorithm;Ljava/lang/String;)V"⟩ : MethodName) prog_21_method_1_code 3 none c_dig_rm B h #[(.ref x), (.ref q), (.ref a)] (fun vR hR BR => vR = none ∧ BR = B ∧ c_dig_q Z zC fS e0 e1 e2 h B x q a b cs dl v1 v2 hR) := by
  have hz0 := hE.1.1
  refine Con.intro (ls := #[.val (.ref x), .val (.ref q), .val (.ref a)]) (plainFor_of_name pn22) G.2.1 hE (fun m => by first | rfl | (simp [entryFrame, mkF, argsToLocals, Value.category]; done) | rfl) ?_
  intro p e s m below meth c T hs X
  refine W.aloadN (pc' := 1) X d_prog_21_m1_0 rfl rfl rfl ?_
  refine W.initO (pc' := 4) (W := 0) X (w56 G) (w32 G) (w33 G) d_prog_21_m1_1 rfl (by decide) (Nat.le_of_eq rfl) (by decide) rfl fun T X => ?_
  refine W.aloadN (pc' := 5) X d_prog_21_m1_4 rfl rfl rfl ?_
  refine W.aloadN (pc' := 6) X d_prog_21_m1_5 rfl rfl rfl ?_
  refine W.callV (pc' := 9) (W := 0) (argsL := [(.ref a)]) (st := []) (k' := 0) (n' := 0) (a := q) X (c_isSig (q := q) (a := a) (b := b) (cs := cs) (dl := dl) G X.en P4 P5 P6 P7) (w57 G) (w58 G) (nfM (z' := (⟨"com/example/campo_grande/campogrande/SignatureAlgorithm", "isSignature", "(Ljava/lang/String;)Z"⟩ : MethodName)) rfl (w60 G)) (w60 G) (w59 G) P3 (w61 G) (w9 G) (by decide) (by decide) (by decide) rfl (lenOf pd19 rfl) rfl rfl (Nat.le_of_eq rfl) d_prog_21_m1_6 rfl (by decide) (by decide) (by decide) (by decide) (kp fun T X => ?_)
  refine W.ifT (pc' := 29) X d_prog_21_m1_9 (by decide) (by decide) (by decide) ?_
  refine W.aloadN (pc' := 30) X d_prog_21_m1_29 rfl rfl rfl ?_
  refine W.aloadN (pc' := 31) X d_prog_21_m1_30 rfl rfl rfl ?_
  refine W.putF (pc' := 34) X (w96 G) Via.refl P1 P0 (Or.inr ⟨(w97 G), rfl, rfl⟩) (w51 G) (ty := (.object "com/example/campo_grande/campogrande/SignatureAlgorithm")) (by decide) rfl rfl P8 P9 d_prog_21_m1_31 rfl fun T h1 X W2 => ?_
  have F3 := P1.same W2
  refine W.aloadN (pc' := 35) X d_prog_21_m1_34 rfl rfl rfl ?_
  refine W.aloadN (pc' := 36) X d_prog_21_m1_35 rfl rfl rfl ?_
  have F4 := (P2.other W2 (Or.inr (slot_ne (Or.inr (w99 G)) (Or.inr (w97 G)) (by decide) (t := (.object "java/lang/String")) (t' := (.object "com/example/campo_grande/campogrande/SignatureAlgorithm")) (by decide) (by decide))))
  have F5 := (P0.wr W2)
  refine W.putF (pc' := 39) X (w98 G) Via.refl F4 F5 (Or.inr ⟨(w99 G), rfl, rfl⟩) (w51 G) (ty := (.object "java/lang/String")) (by decide) rfl rfl P8 P9 d_prog_21_m1_36 rfl fun T h6 X W7 => ?_
  have F8 := F4.same W7
  have F9 := (F3.other W7 (Or.inr (slot_ne (Or.inr (w97 G)) (Or.inr (w99 G)) (by decide) (t := (.object "com/example/campo_grande/campogrande/SignatureAlgorithm")) (t' := (.object "java/lang/String")) (by decide) (by decide))))
  exact W.vreturn X d_prog_21_m1_39 rfl (by decide) (by decide) ⟨rfl, rfl, ⟨(Keep.wr (Keep.wr (Keep.refl h [x]) W2 (Or.inl (List.mem_of_getElem? (i := 0) rfl))) W7 (Or.inl (List.mem_of_getElem? (i := 0) rfl))), F9, F8⟩⟩
def c_peq_rm : Room := { frames := 2, cells := 0, slots := 0, locals := 28 }
set_option maxRecDepth 65536 in
set_option maxHeartbeats 40000000 in
theorem c_peq {l : Launch} {Z : State} {a0 : Array Value} {zC : Int32} {fS : Value} {e0 : Addr} {e1 : Addr} {e2 : Addr} {h : Heap} {B : Addr → Prop} {x k q q' a b a' b' : Addr} {cs ds : List Int32} (G : Gl Z a0 zC fS e0 e1 e2) (hE : En Z B h) (P0 : Exa Z h k "com/example/campo_grande/campogrande/PayloadDigest") (P1 : Fld Z h k "com/example/campo_grande/campogrande/PayloadDigest" "algorithm" "Lcom/example/campo_grande/campogrande/SignatureAlgorithm;" (.ref q')) (P2 : Fld Z h k "com/example/campo_grande/campogrande/PayloadDigest" "signature" "Ljava/lang/String;" (.ref a')) (P3 : Fld Z h x "com/example/campo_grande/campogrande/PayloadDigest" "algorithm" "Lcom/example/campo_grande/campogrande/SignatureAlgorithm;" (.ref q)) (P4 : Fld Z h x "com/example/campo_grande/campogrande/PayloadDigest" "signature" "Ljava/lang/String;" (.ref a)) (P5 : Str Z h a b cs) (P6 : Str Z h a' b' ds) (P7 : a ≠ a') : Con l Z [] [] (⟨"com/example/campo_grande/campogrande/PayloadDigest", "equals", "(Ljava/lang/Object;)Z"⟩ : MethodName) prog_21_method_5_code 3 (some .boolean) c_peq_rm B h #[(.ref x), (.ref k)] (fun vR hR BR => vR = some (.int (if q = q' ∧ cs = ds then (1 : Int32) else 0)) ∧ hR = h ∧ BR = B) := by
  have hz0 := hE.1.1
  refine Con.intro (ls := #[.val (.ref x), .val (.ref k), .unset]) (plainFor_of_name pn22) G.2.1 hE (fun m => by first | rfl | (simp [entryFrame, mkF, argsToLocals, Value.category]; done) | rfl) ?_
  intro p e s m below meth c T hs X
  refine W.aloadN (pc' := 1) X d_prog_21_m5_0 rfl rfl rfl ?_
  refine W.instY (pc' := 4) X (w129 G) (Ins.self P0) d_prog_21_m5_1 rfl fun T X => ?_
  refine W.ifF (pc' := 7) X d_prog_21_m5_4 (by decide) rfl ?_
  refine W.aloadN (pc' := 8) X d_prog_21_m5_7 rfl rfl rfl ?_
  refine W.cast (pc' := 11) X (w129 G) (Ins.self P0) d_prog_21_m5_8 rfl fun T X => ?_
  refine W.astoreN (pc' := 12) (ls' := #[.val (.ref x), .val (.ref k), .val (.ref k)]) X d_prog_21_m5_11 rfl rfl rfl ?_
  refine W.aloadN (pc' := 13) X d_prog_21_m5_12 rfl rfl rfl ?_
  refine W.getF (pc' := 16) X (w96 G) Via.refl P3 d_prog_21_m5_13 rfl fun T X => ?_
  refine W.aloadN (pc' := 17) X d_prog_21_m5_16 rfl rfl rfl ?_
  refine W.getF (pc' := 20) X (w96 G) Via.refl P1 d_prog_21_m5_17 rfl fun T X => ?_
  by_cases hq : (Value.ref q) = (Value.ref q')
  · skip
    refine W.acF (pc' := 23) X d_prog_21_m5_20 rfl rfl (XT.aa_ne_f hq) rfl ?_
    refine W.aloadN (pc' := 24) X d_prog_21_m5_23 rfl rfl rfl ?_
    refine W.getF (pc' := 27) X (w98 G) Via.refl P4 d_prog_21_m5_24 rfl fun T X => ?_
    refine W.aloadN (pc' := 28) X d_prog_21_m5_27 rfl rfl rfl ?_
    refine W.getF (pc' := 31) X (w98 G) Via.refl P2 d_prog_21_m5_28 rfl fun T X => ?_
    refine W.callV (pc' := 34) (W := 0) (argsL := [(.ref a')]) (st := []) (k' := 0) (n' := 0) (a := a) X (c_eq (a := a) (b := b) (a' := a') (b' := b') (cs := cs) (ds := ds) G X.en P5 P6 P7) (w131 G) (w132 G) (nfM (z' := (⟨"java/lang/String", "length", "()I"⟩ : MethodName)) rfl (w65 G)) (w134 G) (w133 G) P5.exa (w135 G) (w23 G) (by decide) (by decide) (by decide) rfl (lenOf pd23 rfl) rfl rfl (Nat.le_of_eq rfl) d_prog_21_m5_31 rfl (by decide) (by decide) (by decide) (by decide) (kp fun T X => ?_)
    by_cases he : (if cs = ds then (1 : Int32) else 0) = (0 : Int32)
    · skip
      refine W.ifT (pc' := 41) X d_prog_21_m5_34 (XT.i0_eq_t he) (by decide) (by decide) ?_
      refine W.iconst (pc' := 42) X (0 : Int32) d_prog_21_m5_41 (by decide) rfl ?_
      exact W.ireturn X d_prog_21_m5_42 rfl (by decide) (by decide) (by decide) (by decide) ⟨(by rw [if_neg (fun n => by rw [if_pos n.2] at he; exact absurd he (by decide))]), rfl, rfl⟩
    · skip
      refine W.ifF (pc' := 37) X d_prog_21_m5_34 (XT.i0_eq_f he) rfl ?_
      refine W.iconst (pc' := 38) X (1 : Int32) d_prog_21_m5_37 (by decide) rfl ?_
      refine W.goto (pc' := 42) X d_prog_21_m5_38 (by decide) (by decide) ?_
      exact W.ireturn X d_prog_21_m5_42 rfl (by decide) (by decide) (by decide) (by decide) ⟨(by rw [if_pos ⟨Value.ref.inj hq, Classical.byContradiction fun n => he (if_neg n)⟩]), rfl, rfl⟩
  · skip
    refine W.acT (pc' := 41) X d_prog_21_m5_20 rfl rfl (XT.aa_ne_t hq) (by decide) (by decide) ?_
    refine W.iconst (pc' := 42) X (0 : Int32) d_prog_21_m5_41 (by decide) rfl ?_
    exact W.ireturn X d_prog_21_m5_42 rfl (by decide) (by decide) (by decide) (by decide) ⟨(by rw [if_neg (fun n => hq (by rw [n.1]))]), rfl, rfl⟩
def c_peqN_rm : Room := { frames := 0, cells := 0, slots := 0, locals := 0 }
set_option maxRecDepth 65536 in
set_option maxHeartbeats 40000000 in
theorem c_peqN {l : Launch} {Z : State} {a0 : Array Value} {zC : Int32} {fS : Value} {e0 : Addr} {e1 : Addr} {e2 : Addr} {h : Heap} {B : Addr → Prop} {x : Addr} (G : Gl Z a0 zC fS e0 e1 e2) (hE : En Z B h)  : Con l Z [] [] (⟨"com/example/campo_grande/campogrande/PayloadDigest", "equals", "(Ljava/lang/Object;)Z"⟩ : MethodName) prog_21_method_5_code 3 (some .boolean) c_peqN_rm B h #[(.ref x), .null] (fun vR hR BR => vR = some (.int (0 : Int32)) ∧ hR = h ∧ BR = B) := by
  have hz0 := hE.1.1
  refine Con.intro (ls := #[.val (.ref x), .val .null, .unset]) (plainFor_of_name pn22) G.2.1 hE (fun m => by first | rfl | (simp [entryFrame, mkF, argsToLocals, Value.category]; done) | rfl) ?_
  intro p e s m below meth c T hs X
  refine W.aloadN (pc' := 1) X d_prog_21_m5_0 rfl rfl rfl ?_
  refine W.instNull (pc' := 4) X d_prog_21_m5_1 rfl ?_
  refine W.ifT (pc' := 41) X d_prog_21_m5_4 (by decide) (by decide) (by decide) ?_
  refine W.iconst (pc' := 42) X (0 : Int32) d_prog_21_m5_41 (by decide) rfl ?_
  exact W.ireturn X d_prog_21_m5_42 rfl (by decide) (by decide) (by decide) (by decide) ⟨rfl, rfl, rfl⟩
def c_peqS_rm : Room := { frames := 0, cells := 0, slots := 0, locals := 0 }
set_option maxRecDepth 65536 in
set_option maxHeartbeats 40000000 in
theorem c_peqS {l : Launch} {Z : State} {a0 : Array Value} {zC : Int32} {fS : Value} {e0 : Addr} {e1 : Addr} {e2 : Addr} {h : Heap} {B : Addr → Prop} {x k : Addr} (G : Gl Z a0 zC fS e0 e1 e2) (hE : En Z B h) (P0 : Exa Z h k "java/lang/String") : Con l Z [] [] (⟨"com/example/campo_grande/campogrande/PayloadDigest", "equals", "(Ljava/lang/Object;)Z"⟩ : MethodName) prog_21_method_5_code 3 (some .boolean) c_peqS_rm B h #[(.ref x), (.ref k)] (fun vR hR BR => vR = some (.int (0 : Int32)) ∧ hR = h ∧ BR = B) := by
  have hz0 := hE.1.1
  refine Con.intro (ls := #[.val (.ref x), .val (.ref k), .unset]) (plainFor_of_name pn22) G.2.1 hE (fun m => by first | rfl | (simp [entryFrame, mkF, argsToLocals, Value.category]; done) | rfl) ?_
  intro p e s m below meth c T hs X
  refine W.aloadN (pc' := 1) X d_prog_21_m5_0 rfl rfl rfl ?_
  refine W.instN (pc' := 4) X (w129 G) P0 (nsNo (w140 G) (w51 G) (nsRoot (w141 G) (w51 G) (by decide)) (by decide)) d_prog_21_m5_1 rfl fun T X => ?_
  refine W.ifT (pc' := 41) X d_prog_21_m5_4 (by decide) (by decide) (by decide) ?_
  refine W.iconst (pc' := 42) X (0 : Int32) d_prog_21_m5_41 (by decide) rfl ?_
  exact W.ireturn X d_prog_21_m5_42 rfl (by decide) (by decide) (by decide) (by decide) ⟨rfl, rfl, rfl⟩
def c_peqK_rm : Room := { frames := 0, cells := 0, slots := 0, locals := 0 }
set_option maxRecDepth 65536 in
set_option maxHeartbeats 40000000 in
theorem c_peqK {l : Launch} {Z : State} {a0 : Array Value} {zC : Int32} {fS : Value} {e0 : Addr} {e1 : Addr} {e2 : Addr} {h : Heap} {B : Addr → Prop} {x k : Addr} (G : Gl Z a0 zC fS e0 e1 e2) (hE : En Z B h) (P0 : Exa Z h k "com/example/campo_grande/campogrande/ContentKey") : Con l Z [] [] (⟨"com/example/campo_grande/campogrande/PayloadDigest", "equals", "(Ljava/lang/Object;)Z"⟩ : MethodName) prog_21_method_5_code 3 (some .boolean) c_peqK_rm B h #[(.ref x), (.ref k)] (fun vR hR BR => vR = some (.int (0 : Int32)) ∧ hR = h ∧ BR = B) := by
  have hz0 := hE.1.1
  refine Con.intro (ls := #[.val (.ref x), .val (.ref k), .unset]) (plainFor_of_name pn22) G.2.1 hE (fun m => by first | rfl | (simp [entryFrame, mkF, argsToLocals, Value.category]; done) | rfl) ?_
  intro p e s m below meth c T hs X
  refine W.aloadN (pc' := 1) X d_prog_21_m5_0 rfl rfl rfl ?_
  refine W.instN (pc' := 4) X (w129 G) P0 (nsNo (w142 G) (w51 G) (nsRoot (w141 G) (w51 G) (by decide)) (by decide)) d_prog_21_m5_1 rfl fun T X => ?_
  refine W.ifT (pc' := 41) X d_prog_21_m5_4 (by decide) (by decide) (by decide) ?_
  refine W.iconst (pc' := 42) X (0 : Int32) d_prog_21_m5_41 (by decide) rfl ?_
  exact W.ireturn X d_prog_21_m5_42 rfl (by decide) (by decide) (by decide) (by decide) ⟨rfl, rfl, rfl⟩
set_option maxRecDepth 65536 in
set_option maxHeartbeats 40000000 in
theorem c_law {l : Launch} {Z : State} {a0 : Array Value} {zC : Int32} {fS : Value} {e0 : Addr} {e1 : Addr} {e2 : Addr} {h : Heap} {B : Addr → Prop} {p0 p1 p2 p3 p4 : Int32} (G : Gl Z a0 zC fS e0 e1 e2) (hE : En Z B h)  : Con l Z [] tables_1 x code maxLocals ret room_1 B h #[(.int p0), (.int p1), (.int p2), (.int p3), (.int p4)] (fun vR hR BR => vR = some (.int (1 : Int32))) := by
  have hz0 := hE.1.1
  refine Con.intro (ls := #[.val (.int p0), .val (.int p1), .val (.int p2), .val (.int p3), .val (.int p4), .unset, .unset, .unset, .unset, .unset, .unset, .unset, .unset, .unset, .unset, .unset, .unset, .unset, .unset, .unset, .unset, .unset, .unset, .unset, .unset, .unset]) (plainFor_of_name pn21) G.2.1 hE (fun m => by first | (simp [entryFrame, mkF, argsToLocals, Value.category, maxLocals]; done) | rfl) ?_
  intro p e s m below meth c T hs X
  have s82 : ∀ (T : State) (i1 i2 d c1 c2 z1 z2 : Int32), Wk l Z [] x code maxLocals ret room_1 B p e s m #[(.int p0), (.int p1), (.int p2), (.int p3), (.int p4)] below meth c B T h 0 0 → i3 i1 → i3 i2 → HexC d → HexC c1 → HexC c2 → Ps i1 z1 → Ps i2 z2 → Go l Z [] room_1 B (fun vR hR BR => vR = some (.int (1 : Int32))) p e s m below T 82 #[.val (.int p0), .val (.int p1), .val (.int p2), .val (.int p3), .val (.int p4), .val (.int i1), .val (.int i2), .val (.ref (eOf e0 e1 e2 i1)), .val (.ref (eOf e0 e1 e2 i2)), .val (.int (lnOf i1)), .val (.int (lnOf i2)), .val (.int d), .val (.int c1), .val (.int c2), .val (.int z1), .val (.int z2), .unset, .unset, .unset, .unset, .unset, .unset, .unset, .unset, .unset, .unset] [] := by
    intro T i1 i2 d c1 c2 z1 z2 X hi1 hi2 hd hc1 hc2 hz1 hz2
    have Ei1 := Exa.ext X.old (eOf_exa i1 G.2.2.2.2.2.2.2.2.2.1 G.2.2.2.2.2.2.2.2.2.2.2.1 G.2.2.2.2.2.2.2.2.2.2.2.2.2.1)
    have Di1 := Fld.ext X.old (eOf_fld i1 G.2.2.2.2.2.2.2.2.2.2.1 G.2.2.2.2.2.2.2.2.2.2.2.2.1 G.2.2.2.2.2.2.2.2.2.2.2.2.2.2.1)
    have Ei2 := Exa.ext X.old (eOf_exa i2 G.2.2.2.2.2.2.2.2.2.1 G.2.2.2.2.2.2.2.2.2.2.2.1 G.2.2.2.2.2.2.2.2.2.2.2.2.2.1)
    have Di2 := Fld.ext X.old (eOf_fld i2 G.2.2.2.2.2.2.2.2.2.2.1 G.2.2.2.2.2.2.2.2.2.2.2.2.1 G.2.2.2.2.2.2.2.2.2.2.2.2.2.2.1)
    refine W.iload (pc' := 84) X at_82 rfl rfl ?_
    refine W.iload (pc' := 86) X at_84 rfl rfl ?_
    have en1 := X.en
    refine W.callS (pc' := 89) (W := 0) (argsL := [(.int (lnOf i1)), (.int d)]) (st := []) (k' := 1) (n' := 64) X (c_fill (i := i1) (d := d) G X.en hi1 (hex_nar hd)) (w17 G) (w18 G) (w19 G) (w2 G) (by decide) (by decide) (by decide) rfl (lenOf pd24 rfl) rfl rfl (Nat.le_of_eq rfl) at_86 rfl (by decide) (by decide) (by decide) (by decide) (kr fun T h2 xr X z3 q4 => ?_)
    obtain ⟨a5, rfl, K6, g7, F8⟩ := q4
    have g9 : Z.heap.size ≤ a5 := Nat.le_trans (Nat.le_trans hz0 (Nat.le_refl _)) g7
    have nb10 : ¬ B a5 := fun q => absurd (en1.2 _ q) (Nat.not_lt.mpr g7)
    refine W.astore (pc' := 91) (ls' := #[.val (.int p0), .val (.int p1), .val (.int p2), .val (.int p3), .val (.int p4), .val (.int i1), .val (.int i2), .val (.ref (eOf e0 e1 e2 i1)), .val (.ref (eOf e0 e1 e2 i2)), .val (.int (lnOf i1)), .val (.int (lnOf i2)), .val (.int d), .val (.int c1), .val (.int c2), .val (.int z1), .val (.int z2), .val (.ref a5), .unset, .unset, .unset, .unset, .unset, .unset, .unset, .unset, .unset]) X at_89 rfl rfl rfl ?_
    refine W.aload (pc' := 93) X at_91 rfl rfl rfl ?_
    refine W.iload (pc' := 95) X at_93 rfl rfl ?_
    refine W.iload (pc' := 97) X at_95 rfl rfl ?_
    refine W.castore (pc' := 98) (i := z1.toNatClampNeg) X F8 hz1.1 rfl (by simp only [List.length_map, List.length_replicate]; exact hz1.2) (hex_nar hc1) g9 nb10 at_97 rfl fun T h11 X K12 A13 => ?_
    have A13 : Ar Z h11 a5 .char ((mkL i1 d z1.toNatClampNeg c1).map Value.int) := (by rw [mkL, List.map_set]; exact A13)
    refine W.iload (pc' := 100) X at_98 rfl rfl ?_
    refine W.iload (pc' := 102) X at_100 rfl rfl ?_
    have en14 := X.en
    refine W.callS (pc' := 105) (W := 0) (argsL := [(.int (lnOf i2)), (.int d)]) (st := []) (k' := 2) (n' := 128) X (c_fill (i := i2) (d := d) G X.en hi2 (hex_nar hd)) (w17 G) (w18 G) (w19 G) (w2 G) (by decide) (by decide) (by decide) rfl (lenOf pd24 rfl) rfl rfl (Nat.le_of_eq rfl) at_102 rfl (by decide) (by decide) (by decide) (by decide) (kr fun T h15 xr X z16 q17 => ?_)
    obtain ⟨a18, rfl, K19, g20, F21⟩ := q17
    have g22 : Z.heap.size ≤ a18 := Nat.le_trans (Nat.le_trans hz0 (Nat.le_trans K6.1 K12.1)) g20
    have nb23 : ¬ B a18 := fun q => absurd (en14.2 _ q) (Nat.not_lt.mpr g20)
    refine W.astore (pc' := 107) (ls' := #[.val (.int p0), .val (.int p1), .val (.int p2), .val (.int p3), .val (.int p4), .val (.int i1), .val (.int i2), .val (.ref (eOf e0 e1 e2 i1)), .val (.ref (eOf e0 e1 e2 i2)), .val (.int (lnOf i1)), .val (.int (lnOf i2)), .val (.int d), .val (.int c1), .val (.int c2), .val (.int z1), .val (.int z2), .val (.ref a5), .val (.ref a18), .unset, .unset, .unset, .unset, .unset, .unset, .unset, .unset]) X at_105 rfl rfl rfl ?_
    refine W.aload (pc' := 109) X at_107 rfl rfl rfl ?_
    refine W.iload (pc' := 111) X at_109 rfl rfl ?_
    refine W.iload (pc' := 113) X at_111 rfl rfl ?_
    refine W.castore (pc' := 114) (i := z2.toNatClampNeg) X F21 hz2.1 rfl (by simp only [List.length_map, List.length_replicate]; exact hz2.2) (hex_nar hc2) g22 nb23 at_113 rfl fun T h24 X K25 A26 => ?_
    have A26 : Ar Z h24 a18 .char ((mkL i2 d z2.toNatClampNeg c2).map Value.int) := (by rw [mkL, List.map_set]; exact A26)
    refine W.new (pc' := 117) (k' := 3) (n' := 132) X (w21 G) (w22 G) (w23 G) at_114 rfl (by decide) (by decide) (by decide) (by decide) fun T h27 a28 X K29 g30 g31 nb32 E33 D34 => ?_
    have F35 : Fld Z h27 a28 "java/lang/String" "coder" "B" (.int (0 : Int32)) := D34 (Or.inr (w47 G)) (ty := .byte) (by decide)
    have F36 : Fld Z h27 a28 "java/lang/String" "value" "[B" .null := D34 (Or.inr (w49 G)) (ty := (.array .byte)) (by decide)
    refine W.dup (pc' := 118) X at_117 rfl rfl ?_
    refine W.aload (pc' := 120) X at_118 rfl rfl rfl ?_
    have F37 := (((A13.keep K19 nin0).keep K25 (ninS (Nat.ne_of_lt (Nat.lt_of_lt_of_le F8.lt (Nat.le_trans K12.1 g20))) nin0)).keep K29 nin0)
    have en38 := X.en
    refine W.callN (pc' := 123) (W := 1) (argsL := [(.ref a5)]) (st := [(.ref a28)]) (k' := 4) (n' := 196) (a := a28) X (c_init1 (x := a28) (a := a5) (cs := (mkL i1 d z1.toNatClampNeg c1)) (v0 := .null) (c0 := (.int (0 : Int32))) G X.en E33 F36 F35 F37 (hex_lat (mkL_hex _ hd hc1)) (by rw [mkL_len]; exact (lnN_le hi1).1) (by rw [mkL_len]; exact (lnN_le hi1).2) g31 nb32) rfl (w24 G) (w25 G) (w26 G) (w23 G) (by decide) (by decide) (by decide) rfl (lenOf pd25 rfl) rfl rfl (Nat.le_of_eq rfl) at_120 rfl (by decide) (by decide) (by decide) (by decide) (kv fun T h39 X z40 q41 => ?_)
    obtain ⟨a42, K43, g44, F45⟩ := q41
    have g46 : Z.heap.size ≤ a42 := Nat.le_trans (Nat.le_trans hz0 (Nat.le_trans (Nat.le_trans (Nat.le_trans (Nat.le_trans K6.1 K12.1) K19.1) K25.1) K29.1)) g44
    have nb47 : ¬ B a42 := fun q => absurd (en38.2 _ q) (Nat.not_lt.mpr g44)
    refine W.astore (pc' := 125) (ls' := #[.val (.int p0), .val (.int p1), .val (.int p2), .val (.int p3), .val (.int p4), .val (.int i1), .val (.int i2), .val (.ref (eOf e0 e1 e2 i1)), .val (.ref (eOf e0 e1 e2 i2)), .val (.int (lnOf i1)), .val (.int (lnOf i2)), .val (.int d), .val (.int c1), .val (.int c2), .val (.int z1), .val (.int z2), .val (.ref a5), .val (.ref a18), .val (.ref a28), .unset, .unset, .unset, .unset, .unset, .unset, .unset]) X at_123 rfl rfl rfl ?_
    refine W.new (pc' := 128) (k' := 5) (n' := 200) X (w21 G) (w22 G) (w23 G) at_125 rfl (by decide) (by decide) (by decide) (by decide) fun T h48 a49 X K50 g51 g52 nb53 E54 D55 => ?_
    have F56 : Fld Z h48 a49 "java/lang/String" "coder" "B" (.int (0 : Int32)) := D55 (Or.inr (w47 G)) (ty := .byte) (by decide)
    have F57 : Fld Z h48 a49 "java/lang/String" "value" "[B" .null := D55 (Or.inr (w49 G)) (ty := (.array .byte)) (by decide)
    refine W.dup (pc' := 129) X at_128 rfl rfl ?_
    refine W.aload (pc' := 131) X at_129 rfl rfl rfl ?_
    have F58 := ((F37.keep K43 (ninS (Nat.ne_of_lt (Nat.lt_of_lt_of_le F8.lt (Nat.le_trans (Nat.le_trans (Nat.le_trans K12.1 K19.1) K25.1) g30))) nin0)).keep K50 nin0)
    have en59 := X.en
    refine W.callN (pc' := 134) (W := 1) (argsL := [(.ref a5)]) (st := [(.ref a49)]) (k' := 6) (n' := 264) (a := a49) X (c_init1 (x := a49) (a := a5) (cs := (mkL i1 d z1.toNatClampNeg c1)) (v0 := .null) (c0 := (.int (0 : Int32))) G X.en E54 F57 F56 F58 (hex_lat (mkL_hex _ hd hc1)) (by rw [mkL_len]; exact (lnN_le hi1).1) (by rw [mkL_len]; exact (lnN_le hi1).2) g52 nb53) rfl (w24 G) (w25 G) (w26 G) (w23 G) (by decide) (by decide) (by decide) rfl (lenOf pd25 rfl) rfl rfl (Nat.le_of_eq rfl) at_131 rfl (by decide) (by decide) (by decide) (by decide) (kv fun T h60 X z61 q62 => ?_)
    obtain ⟨a63, K64, g65, F66⟩ := q62
    have g67 : Z.heap.size ≤ a63 := Nat.le_trans (Nat.le_trans hz0 (Nat.le_trans (Nat.le_trans (Nat.le_trans (Nat.le_trans (Nat.le_trans (Nat.le_trans K6.1 K12.1) K19.1) K25.1) K29.1) K43.1) K50.1)) g65
    have nb68 : ¬ B a63 := fun q => absurd (en59.2 _ q) (Nat.not_lt.mpr g65)
    refine W.astore (pc' := 136) (ls' := #[.val (.int p0), .val (.int p1), .val (.int p2), .val (.int p3), .val (.int p4), .val (.int i1), .val (.int i2), .val (.ref (eOf e0 e1 e2 i1)), .val (.ref (eOf e0 e1 e2 i2)), .val (.int (lnOf i1)), .val (.int (lnOf i2)), .val (.int d), .val (.int c1), .val (.int c2), .val (.int z1), .val (.int z2), .val (.ref a5), .val (.ref a18), .val (.ref a28), .val (.ref a49), .unset, .unset, .unset, .unset, .unset, .unset]) X at_134 rfl rfl rfl ?_
    refine W.new (pc' := 139) (k' := 7) (n' := 268) X (w21 G) (w22 G) (w23 G) at_136 rfl (by decide) (by decide) (by decide) (by decide) fun T h69 a70 X K71 g72 g73 nb74 E75 D76 => ?_
    have F77 : Fld Z h69 a70 "java/lang/String" "coder" "B" (.int (0 : Int32)) := D76 (Or.inr (w47 G)) (ty := .byte) (by decide)
    have F78 : Fld Z h69 a70 "java/lang/String" "value" "[B" .null := D76 (Or.inr (w49 G)) (ty := (.array .byte)) (by decide)
    refine W.dup (pc' := 140) X at_139 rfl rfl ?_
    refine W.aload (pc' := 142) X at_140 rfl rfl rfl ?_
    have F79 := (((((A26.keep K29 nin0).keep K43 (ninS (Nat.ne_of_lt (Nat.lt_of_lt_of_le F21.lt (Nat.le_trans K25.1 g30))) nin0)).keep K50 nin0).keep K64 (ninS (Nat.ne_of_lt (Nat.lt_of_lt_of_le F21.lt (Nat.le_trans (Nat.le_trans (Nat.le_trans K25.1 K29.1) K43.1) g51))) nin0)).keep K71 nin0)
    have en80 := X.en
    refine W.callN (pc' := 145) (W := 1) (argsL := [(.ref a18)]) (st := [(.ref a70)]) (k' := 8) (n' := 332) (a := a70) X (c_init1 (x := a70) (a := a18) (cs := (mkL i2 d z2.toNatClampNeg c2)) (v0 := .null) (c0 := (.int (0 : Int32))) G X.en E75 F78 F77 F79 (hex_lat (mkL_hex _ hd hc2)) (by rw [mkL_len]; exact (lnN_le hi2).1) (by rw [mkL_len]; exact (lnN_le hi2).2) g73 nb74) rfl (w24 G) (w25 G) (w26 G) (w23 G) (by decide) (by decide) (by decide) rfl (lenOf pd25 rfl) rfl rfl (Nat.le_of_eq rfl) at_142 rfl (by decide) (by decide) (by decide) (by decide) (kv fun T h81 X z82 q83 => ?_)
    obtain ⟨a84, K85, g86, F87⟩ := q83
    have g88 : Z.heap.size ≤ a84 := Nat.le_trans (Nat.le_trans hz0 (Nat.le_trans (Nat.le_trans (Nat.le_trans (Nat.le_trans (Nat.le_trans (Nat.le_trans (Nat.le_trans (Nat.le_trans K6.1 K12.1) K19.1) K25.1) K29.1) K43.1) K50.1) K64.1) K71.1)) g86
    have nb89 : ¬ B a84 := fun q => absurd (en80.2 _ q) (Nat.not_lt.mpr g86)
    refine W.astore (pc' := 147) (ls' := #[.val (.int p0), .val (.int p1), .val (.int p2), .val (.int p3), .val (.int p4), .val (.int i1), .val (.int i2), .val (.ref (eOf e0 e1 e2 i1)), .val (.ref (eOf e0 e1 e2 i2)), .val (.int (lnOf i1)), .val (.int (lnOf i2)), .val (.int d), .val (.int c1), .val (.int c2), .val (.int z1), .val (.int z2), .val (.ref a5), .val (.ref a18), .val (.ref a28), .val (.ref a49), .val (.ref a70), .unset, .unset, .unset, .unset, .unset]) X at_145 rfl rfl rfl ?_
    refine W.new (pc' := 150) (k' := 9) (n' := 334) X (w50 G) (w51 G) (w52 G) at_147 rfl (by decide) (by decide) (by decide) (by decide) fun T h90 a91 X K92 g93 g94 nb95 E96 D97 => ?_
    have F98 : Fld Z h90 a91 "com/example/campo_grande/campogrande/PayloadDigest" "algorithm" "Lcom/example/campo_grande/campogrande/SignatureAlgorithm;" .null := D97 (Or.inr (w97 G)) (ty := (.object "com/example/campo_grande/campogrande/SignatureAlgorithm")) (by decide)
    have F99 : Fld Z h90 a91 "com/example/campo_grande/campogrande/PayloadDigest" "signature" "Ljava/lang/String;" .null := D97 (Or.inr (w99 G)) (ty := (.object "java/lang/String")) (by decide)
    refine W.dup (pc' := 151) X at_150 rfl rfl ?_
    refine W.aload (pc' := 153) X at_151 rfl rfl rfl ?_
    refine W.aload (pc' := 155) X at_153 rfl rfl rfl ?_
    have F100 := (((((((((((Ei1.keep K6).keep K12).keep K19).keep K25).keep K29).keep K43).keep K50).keep K64).keep K71).keep K85).keep K92)
    have F101 := (((((((((((Di1.keep K6 nin0).keep K12 (ninS (Nat.ne_of_lt (Nat.lt_of_lt_of_le Ei1.lt (Nat.le_trans (Nat.le_refl _) g7))) nin0)).keep K19 nin0).keep K25 (ninS (Nat.ne_of_lt (Nat.lt_of_lt_of_le Ei1.lt (Nat.le_trans (Nat.le_trans K6.1 K12.1) g20))) nin0)).keep K29 nin0).keep K43 (ninS (Nat.ne_of_lt (Nat.lt_of_lt_of_le Ei1.lt (Nat.le_trans (Nat.le_trans (Nat.le_trans (Nat.le_trans K6.1 K12.1) K19.1) K25.1) g30))) nin0)).keep K50 nin0).keep K64 (ninS (Nat.ne_of_lt (Nat.lt_of_lt_of_le Ei1.lt (Nat.le_trans (Nat.le_trans (Nat.le_trans (Nat.le_trans (Nat.le_trans (Nat.le_trans K6.1 K12.1) K19.1) K25.1) K29.1) K43.1) g51))) nin0)).keep K71 nin0).keep K85 (ninS (Nat.ne_of_lt (Nat.lt_of_lt_of_le Ei1.lt (Nat.le_trans (Nat.le_trans (Nat.le_trans (Nat.le_trans (Nat.le_trans (Nat.le_trans (Nat.le_trans (Nat.le_trans K6.1 K12.1) K19.1) K25.1) K29.1) K43.1) K50.1) K64.1) g72))) nin0)).keep K92 nin0)
    have F102 := (((((F45.keep K50 nin0 nin0).keep K64 (ninS (Nat.ne_of_lt (Nat.lt_of_lt_of_le E33.lt (Nat.le_trans K43.1 g51))) nin0) (ninS (Nat.ne_of_lt (Nat.lt_of_lt_of_le F45.ltb (Nat.le_trans (Nat.le_refl _) g51))) nin0)).keep K71 nin0 nin0).keep K85 (ninS (Nat.ne_of_lt (Nat.lt_of_lt_of_le E33.lt (Nat.le_trans (Nat.le_trans (Nat.le_trans K43.1 K50.1) K64.1) g72))) nin0) (ninS (Nat.ne_of_lt (Nat.lt_of_lt_of_le F45.ltb (Nat.le_trans (Nat.le_trans K50.1 K64.1) g72))) nin0)).keep K92 nin0 nin0)
    refine W.callN (pc' := 158) (W := 1) (argsL := [(.ref (eOf e0 e1 e2 i1)), (.ref a28)]) (st := [(.ref a91)]) (k' := 9) (n' := 334) (a := a91) X (c_dig (x := a91) (q := (eOf e0 e1 e2 i1)) (a := a28) (b := a42) (cs := (mkL i1 d z1.toNatClampNeg c1)) (dl := (dlOf i1)) (v1 := .null) (v2 := .null) G X.en E96 F98 F99 F100 F101 F102 (by rw [mkL_len]; exact ln_dl hi1) (mkL_hex _ hd hc1) g94 nb95) rfl (w53 G) (w54 G) (w55 G) (w52 G) (by decide) (by decide) (by decide) rfl (lenOf pd26 rfl) rfl rfl (Nat.le_of_eq rfl) at_155 rfl (by decide) (by decide) (by decide) (by decide) (kv fun T h103 X z104 q105 => ?_)
    obtain ⟨K106, F107, F108⟩ := q105
    refine W.astore (pc' := 160) (ls' := #[.val (.int p0), .val (.int p1), .val (.int p2), .val (.int p3), .val (.int p4), .val (.int i1), .val (.int i2), .val (.ref (eOf e0 e1 e2 i1)), .val (.ref (eOf e0 e1 e2 i2)), .val (.int (lnOf i1)), .val (.int (lnOf i2)), .val (.int d), .val (.int c1), .val (.int c2), .val (.int z1), .val (.int z2), .val (.ref a5), .val (.ref a18), .val (.ref a28), .val (.ref a49), .val (.ref a70), .val (.ref a91), .unset, .unset, .unset, .unset]) X at_158 rfl rfl rfl ?_
    refine W.new (pc' := 163) (k' := 10) (n' := 336) X (w50 G) (w51 G) (w52 G) at_160 rfl (by decide) (by decide) (by decide) (by decide) fun T h109 a110 X K111 g112 g113 nb114 E115 D116 => ?_
    have F117 : Fld Z h109 a110 "com/example/campo_grande/campogrande/PayloadDigest" "algorithm" "Lcom/example/campo_grande/campogrande/SignatureAlgorithm;" .null := D116 (Or.inr (w97 G)) (ty := (.object "com/example/campo_grande/campogrande/SignatureAlgorithm")) (by decide)
    have F118 : Fld Z h109 a110 "com/example/campo_grande/campogrande/PayloadDigest" "signature" "Ljava/lang/String;" .null := D116 (Or.inr (w99 G)) (ty := (.object "java/lang/String")) (by decide)
    refine W.dup (pc' := 164) X at_163 rfl rfl ?_
    refine W.aload (pc' := 166) X at_164 rfl rfl rfl ?_
    refine W.aload (pc' := 168) X at_166 rfl rfl rfl ?_
    have F119 := ((F100.keep K106).keep K111)
    have F120 := ((F101.keep K106 (ninS (Nat.ne_of_lt (Nat.lt_of_lt_of_le Ei1.lt (Nat.le_trans (Nat.le_trans (Nat.le_trans (Nat.le_trans (Nat.le_trans (Nat.le_trans (Nat.le_trans (Nat.le_trans (Nat.le_trans (Nat.le_trans K6.1 K12.1) K19.1) K25.1) K29.1) K43.1) K50.1) K64.1) K71.1) K85.1) g93))) nin0)).keep K111 nin0)
    have F121 := (((((F66.keep K71 nin0 nin0).keep K85 (ninS (Nat.ne_of_lt (Nat.lt_of_lt_of_le E54.lt (Nat.le_trans K64.1 g72))) nin0) (ninS (Nat.ne_of_lt (Nat.lt_of_lt_of_le F66.ltb (Nat.le_trans (Nat.le_refl _) g72))) nin0)).keep K92 nin0 nin0).keep K106 (ninS (Nat.ne_of_lt (Nat.lt_of_lt_of_le E54.lt (Nat.le_trans (Nat.le_trans (Nat.le_trans K64.1 K71.1) K85.1) g93))) nin0) (ninS (Nat.ne_of_lt (Nat.lt_of_lt_of_le F66.ltb (Nat.le_trans (Nat.le_trans K71.1 K85.1) g93))) nin0)).keep K111 nin0 nin0)
    refine W.callN (pc' := 171) (W := 1) (argsL := [(.ref (eOf e0 e1 e2 i1)), (.ref a49)]) (st := [(.ref a110)]) (k' := 10) (n' := 336) (a := a110) X (c_dig (x := a110) (q := (eOf e0 e1 e2 i1)) (a := a49) (b := a63) (cs := (mkL i1 d z1.toNatClampNeg c1)) (dl := (dlOf i1)) (v1 := .null) (v2 := .null) G X.en E115 F117 F118 F119 F120 F121 (by rw [mkL_len]; exact ln_dl hi1) (mkL_hex _ hd hc1) g113 nb114) rfl (w53 G) (w54 G) (w55 G) (w52 G) (by decide) (by decide) (by decide) rfl (lenOf pd26 rfl) rfl rfl (Nat.le_of_eq rfl) at_168 rfl (by decide) (by decide) (by decide) (by decide) (kv fun T h122 X z123 q124 => ?_)
    obtain ⟨K125, F126, F127⟩ := q124
    refine W.astore (pc' := 173) (ls' := #[.val (.int p0), .val (.int p1), .val (.int p2), .val (.int p3), .val (.int p4), .val (.int i1), .val (.int i2), .val (.ref (eOf e0 e1 e2 i1)), .val (.ref (eOf e0 e1 e2 i2)), .val (.int (lnOf i1)), .val (.int (lnOf i2)), .val (.int d), .val (.int c1), .val (.int c2), .val (.int z1), .val (.int z2), .val (.ref a5), .val (.ref a18), .val (.ref a28), .val (.ref a49), .val (.ref a70), .val (.ref a91), .val (.ref a110), .unset, .unset, .unset]) X at_171 rfl rfl rfl ?_
    refine W.new (pc' := 176) (k' := 11) (n' := 338) X (w50 G) (w51 G) (w52 G) at_173 rfl (by decide) (by decide) (by decide) (by decide) fun T h128 a129 X K130 g131 g132 nb133 E134 D135 => ?_
    have F136 : Fld Z h128 a129 "com/example/campo_grande/campogrande/PayloadDigest" "algorithm" "Lcom/example/campo_grande/campogrande/SignatureAlgorithm;" .null := D135 (Or.inr (w97 G)) (ty := (.object "com/example/campo_grande/campogrande/SignatureAlgorithm")) (by decide)
    have F137 : Fld Z h128 a129 "com/example/campo_grande/campogrande/PayloadDigest" "signature" "Ljava/lang/String;" .null := D135 (Or.inr (w99 G)) (ty := (.object "java/lang/String")) (by decide)
    refine W.dup (pc' := 177) X at_176 rfl rfl ?_
    refine W.aload (pc' := 179) X at_177 rfl rfl rfl ?_
    refine W.aload (pc' := 181) X at_179 rfl rfl rfl ?_
    have F138 := (((((((((((((((Ei2.keep K6).keep K12).keep K19).keep K25).keep K29).keep K43).keep K50).keep K64).keep K71).keep K85).keep K92).keep K106).keep K111).keep K125).keep K130)
    have F139 := (((((((((((((((Di2.keep K6 nin0).keep K12 (ninS (Nat.ne_of_lt (Nat.lt_of_lt_of_le Ei2.lt (Nat.le_trans (Nat.le_refl _) g7))) nin0)).keep K19 nin0).keep K25 (ninS (Nat.ne_of_lt (Nat.lt_of_lt_of_le Ei2.lt (Nat.le_trans (Nat.le_trans K6.1 K12.1) g20))) nin0)).keep K29 nin0).keep K43 (ninS (Nat.ne_of_lt (Nat.lt_of_lt_of_le Ei2.lt (Nat.le_trans (Nat.le_trans (Nat.le_trans (Nat.le_trans K6.1 K12.1) K19.1) K25.1) g30))) nin0)).keep K50 nin0).keep K64 (ninS (Nat.ne_of_lt (Nat.lt_of_lt_of_le Ei2.lt (Nat.le_trans (Nat.le_trans (Nat.le_trans (Nat.le_trans (Nat.le_trans (Nat.le_trans K6.1 K12.1) K19.1) K25.1) K29.1) K43.1) g51))) nin0)).keep K71 nin0).keep K85 (ninS (Nat.ne_of_lt (Nat.lt_of_lt_of_le Ei2.lt (Nat.le_trans (Nat.le_trans (Nat.le_trans (Nat.le_trans (Nat.le_trans (Nat.le_trans (Nat.le_trans (Nat.le_trans K6.1 K12.1) K19.1) K25.1) K29.1) K43.1) K50.1) K64.1) g72))) nin0)).keep K92 nin0).keep K106 (ninS (Nat.ne_of_lt (Nat.lt_of_lt_of_le Ei2.lt (Nat.le_trans (Nat.le_trans (Nat.le_trans (Nat.le_trans (Nat.le_trans (Nat.le_trans (Nat.le_trans (Nat.le_trans (Nat.le_trans (Nat.le_trans K6.1 K12.1) K19.1) K25.1) K29.1) K43.1) K50.1) K64.1) K71.1) K85.1) g93))) nin0)).keep K111 nin0).keep K125 (ninS (Nat.ne_of_lt (Nat.lt_of_lt_of_le Ei2.lt (Nat.le_trans (Nat.le_trans (Nat.le_trans (Nat.le_trans (Nat.le_trans (Nat.le_trans (Nat.le_trans (Nat.le_trans (Nat.le_trans (Nat.le_trans (Nat.le_trans (Nat.le_trans K6.1 K12.1) K19.1) K25.1) K29.1) K43.1) K50.1) K64.1) K71.1) K85.1) K92.1) K106.1) g112))) nin0)).keep K130 nin0)
    have F140 := (((((F87.keep K92 nin0 nin0).keep K106 (ninS (Nat.ne_of_lt (Nat.lt_of_lt_of_le E75.lt (Nat.le_trans K85.1 g93))) nin0) (ninS (Nat.ne_of_lt (Nat.lt_of_lt_of_le F87.ltb (Nat.le_trans (Nat.le_refl _) g93))) nin0)).keep K111 nin0 nin0).keep K125 (ninS (Nat.ne_of_lt (Nat.lt_of_lt_of_le E75.lt (Nat.le_trans (Nat.le_trans (Nat.le_trans K85.1 K92.1) K106.1) g112))) nin0) (ninS (Nat.ne_of_lt (Nat.lt_of_lt_of_le F87.ltb (Nat.le_trans (Nat.le_trans K92.1 K106.1) g112))) nin0)).keep K130 nin0 nin0)
    refine W.callN (pc' := 184) (W := 1) (argsL := [(.ref (eOf e0 e1 e2 i2)), (.ref a70)]) (st := [(.ref a129)]) (k' := 11) (n' := 338) (a := a129) X (c_dig (x := a129) (q := (eOf e0 e1 e2 i2)) (a := a70) (b := a84) (cs := (mkL i2 d z2.toNatClampNeg c2)) (dl := (dlOf i2)) (v1 := .null) (v2 := .null) G X.en E134 F136 F137 F138 F139 F140 (by rw [mkL_len]; exact ln_dl hi2) (mkL_hex _ hd hc2) g132 nb133) rfl (w53 G) (w54 G) (w55 G) (w52 G) (by decide) (by decide) (by decide) rfl (lenOf pd26 rfl) rfl rfl (Nat.le_of_eq rfl) at_181 rfl (by decide) (by decide) (by decide) (by decide) (kv fun T h141 X z142 q143 => ?_)
    obtain ⟨K144, F145, F146⟩ := q143
    refine W.astore (pc' := 186) (ls' := #[.val (.int p0), .val (.int p1), .val (.int p2), .val (.int p3), .val (.int p4), .val (.int i1), .val (.int i2), .val (.ref (eOf e0 e1 e2 i1)), .val (.ref (eOf e0 e1 e2 i2)), .val (.int (lnOf i1)), .val (.int (lnOf i2)), .val (.int d), .val (.int c1), .val (.int c2), .val (.int z1), .val (.int z2), .val (.ref a5), .val (.ref a18), .val (.ref a28), .val (.ref a49), .val (.ref a70), .val (.ref a91), .val (.ref a110), .val (.ref a129), .unset, .unset]) X at_184 rfl rfl rfl ?_
    refine W.new (pc' := 189) (k' := 12) (n' := 342) X (w100 G) (w101 G) (w102 G) at_186 rfl (by decide) (by decide) (by decide) (by decide) fun T h147 a148 X K149 g150 g151 nb152 E153 D154 => ?_
    have F155 : Fld Z h147 a148 "com/example/campo_grande/campogrande/ContentKey" "volume" "I" (.int (0 : Int32)) := D154 (Or.inr (w117 G)) (ty := .int) (by decide)
    have F156 : Fld Z h147 a148 "com/example/campo_grande/campogrande/ContentKey" "algorithm" "Lcom/example/campo_grande/campogrande/SignatureAlgorithm;" .null := D154 (Or.inr (w119 G)) (ty := (.object "com/example/campo_grande/campogrande/SignatureAlgorithm")) (by decide)
    have F157 : Fld Z h147 a148 "com/example/campo_grande/campogrande/ContentKey" "signature" "Ljava/lang/String;" .null := D154 (Or.inr (w121 G)) (ty := (.object "java/lang/String")) (by decide)
    have F158 : Fld Z h147 a148 "com/example/campo_grande/campogrande/ContentKey" "overflow" "I" (.int (0 : Int32)) := D154 (Or.inr (w123 G)) (ty := .int) (by decide)
    refine W.dup (pc' := 190) X at_189 rfl rfl ?_
    refine W.iconst (pc' := 191) X (0 : Int32) at_190 (by decide) rfl ?_
    refine W.aload (pc' := 193) X at_191 rfl rfl rfl ?_
    refine W.aload (pc' := 195) X at_193 rfl rfl rfl ?_
    refine W.iconst (pc' := 196) X (0 : Int32) at_195 (by decide) rfl ?_
    have F159 := ((((F119.keep K125).keep K130).keep K144).keep K149)
    have F160 := ((((F120.keep K125 (ninS (Nat.ne_of_lt (Nat.lt_of_lt_of_le Ei1.lt (Nat.le_trans (Nat.le_trans (Nat.le_trans (Nat.le_trans (Nat.le_trans (Nat.le_trans (Nat.le_trans (Nat.le_trans (Nat.le_trans (Nat.le_trans (Nat.le_trans (Nat.le_trans K6.1 K12.1) K19.1) K25.1) K29.1) K43.1) K50.1) K64.1) K71.1) K85.1) K92.1) K106.1) g112))) nin0)).keep K130 nin0).keep K144 (ninS (Nat.ne_of_lt (Nat.lt_of_lt_of_le Ei1.lt (Nat.le_trans (Nat.le_trans (Nat.le_trans (Nat.le_trans (Nat.le_trans (Nat.le_trans (Nat.le_trans (Nat.le_trans (Nat.le_trans (Nat.le_trans (Nat.le_trans (Nat.le_trans (Nat.le_trans (Nat.le_trans K6.1 K12.1) K19.1) K25.1) K29.1) K43.1) K50.1) K64.1) K71.1) K85.1) K92.1) K106.1) K111.1) K125.1) g131))) nin0)).keep K149 nin0)
    have F161 := ((((((F102.keep K106 (ninS (Nat.ne_of_lt (Nat.lt_of_lt_of_le E33.lt (Nat.le_trans (Nat.le_trans (Nat.le_trans (Nat.le_trans (Nat.le_trans K43.1 K50.1) K64.1) K71.1) K85.1) g93))) nin0) (ninS (Nat.ne_of_lt (Nat.lt_of_lt_of_le F45.ltb (Nat.le_trans (Nat.le_trans (Nat.le_trans (Nat.le_trans K50.1 K64.1) K71.1) K85.1) g93))) nin0)).keep K111 nin0 nin0).keep K125 (ninS (Nat.ne_of_lt (Nat.lt_of_lt_of_le E33.lt (Nat.le_trans (Nat.le_trans (Nat.le_trans (Nat.le_trans (Nat.le_trans (Nat.le_trans (Nat.le_trans K43.1 K50.1) K64.1) K71.1) K85.1) K92.1) K106.1) g112))) nin0) (ninS (Nat.ne_of_lt (Nat.lt_of_lt_of_le F45.ltb (Nat.le_trans (Nat.le_trans (Nat.le_trans (Nat.le_trans (Nat.le_trans (Nat.le_trans K50.1 K64.1) K71.1) K85.1) K92.1) K106.1) g112))) nin0)).keep K130 nin0 nin0).keep K144 (ninS (Nat.ne_of_lt (Nat.lt_of_lt_of_le E33.lt (Nat.le_trans (Nat.le_trans (Nat.le_trans (Nat.le_trans (Nat.le_trans (Nat.le_trans (Nat.le_trans (Nat.le_trans (Nat.le_trans K43.1 K50.1) K64.1) K71.1) K85.1) K92.1) K106.1) K111.1) K125.1) g131))) nin0) (ninS (Nat.ne_of_lt (Nat.lt_of_lt_of_le F45.ltb (Nat.le_trans (Nat.le_trans (Nat.le_trans (Nat.le_trans (Nat.le_trans (Nat.le_trans (Nat.le_trans (Nat.le_trans K50.1 K64.1) K71.1) K85.1) K92.1) K106.1) K111.1) K125.1) g131))) nin0)).keep K149 nin0 nin0)
    refine W.callN (pc' := 199) (W := 1) (argsL := [(.int (0 : Int32)), (.ref (eOf e0 e1 e2 i1)), (.ref a28), (.int (0 : Int32))]) (st := [(.ref a148)]) (k' := 16) (n' := 422) (a := a148) X (c_key (x := a148) (q := (eOf e0 e1 e2 i1)) (a := a28) (b := a42) (cs := (mkL i1 d z1.toNatClampNeg c1)) (dl := (dlOf i1)) (vo := (0 : Int32)) (ov := (0 : Int32)) (v0 := (.int (0 : Int32))) (v1 := .null) (v2 := .null) (v3 := (.int (0 : Int32))) G X.en E153 F155 F156 F157 F158 F159 F160 F161 (by rw [mkL_len]; exact ln_dl hi1) (mkL_hex _ hd hc1) (by decide) (by decide) g151 nb152 (Nat.ne_of_gt (Nat.lt_of_lt_of_le Ei1.lt (Nat.le_trans (Nat.le_trans (Nat.le_trans (Nat.le_trans (Nat.le_trans (Nat.le_trans (Nat.le_trans (Nat.le_trans (Nat.le_trans (Nat.le_trans (Nat.le_trans (Nat.le_trans (Nat.le_trans (Nat.le_trans (Nat.le_trans (Nat.le_trans K6.1 K12.1) K19.1) K25.1) K29.1) K43.1) K50.1) K64.1) K71.1) K85.1) K92.1) K106.1) K111.1) K125.1) K130.1) K144.1) g150))) (Nat.ne_of_gt (Nat.lt_of_lt_of_le E33.lt (Nat.le_trans (Nat.le_trans (Nat.le_trans (Nat.le_trans (Nat.le_trans (Nat.le_trans (Nat.le_trans (Nat.le_trans (Nat.le_trans (Nat.le_trans (Nat.le_trans K43.1 K50.1) K64.1) K71.1) K85.1) K92.1) K106.1) K111.1) K125.1) K130.1) K144.1) g150))) (Nat.ne_of_gt (Nat.lt_of_lt_of_le F45.ltb (Nat.le_trans (Nat.le_trans (Nat.le_trans (Nat.le_trans (Nat.le_trans (Nat.le_trans (Nat.le_trans (Nat.le_trans (Nat.le_trans (Nat.le_trans K50.1 K64.1) K71.1) K85.1) K92.1) K106.1) K111.1) K125.1) K130.1) K144.1) g150)))) rfl (w103 G) (w104 G) (w105 G) (w102 G) (by decide) (by decide) (by decide) rfl (lenOf pd27 rfl) rfl rfl (Nat.le_of_eq rfl) at_196 rfl (by decide) (by decide) (by decide) (by decide) (kvi fun T h162 B165 X z163 zb166 q164 => ?_)
    obtain ⟨K167, F168, F169, F170, F171⟩ := q164
    refine W.astore (pc' := 201) (ls' := #[.val (.int p0), .val (.int p1), .val (.int p2), .val (.int p3), .val (.int p4), .val (.int i1), .val (.int i2), .val (.ref (eOf e0 e1 e2 i1)), .val (.ref (eOf e0 e1 e2 i2)), .val (.int (lnOf i1)), .val (.int (lnOf i2)), .val (.int d), .val (.int c1), .val (.int c2), .val (.int z1), .val (.int z2), .val (.ref a5), .val (.ref a18), .val (.ref a28), .val (.ref a49), .val (.ref a70), .val (.ref a91), .val (.ref a110), .val (.ref a129), .val (.ref a148), .unset]) X at_199 rfl rfl rfl ?_
    have s259 : ∀ ex : Int32, ex = (if eOf e0 e1 e2 i1 = eOf e0 e1 e2 i2 ∧ mkL i1 d z1.toNatClampNeg c1 = mkL i2 d z2.toNatClampNeg c2 then (1 : Int32) else 0) → Go l Z [] room_1 B (fun vR hR BR => vR = some (.int (1 : Int32))) p e s m below T 259 #[.val (.int p0), .val (.int p1), .val (.int p2), .val (.int p3), .val (.int p4), .val (.int i1), .val (.int i2), .val (.ref (eOf e0 e1 e2 i1)), .val (.ref (eOf e0 e1 e2 i2)), .val (.int (lnOf i1)), .val (.int (lnOf i2)), .val (.int d), .val (.int c1), .val (.int c2), .val (.int z1), .val (.int z2), .val (.ref a5), .val (.ref a18), .val (.ref a28), .val (.ref a49), .val (.ref a70), .val (.ref a91), .val (.ref a110), .val (.ref a129), .val (.ref a148), .val (.int ex)] [] := by
      intro ex hex
      refine W.aload (pc' := 261) X at_259 rfl rfl rfl ?_
      refine W.aload (pc' := 263) X at_261 rfl rfl rfl ?_
      have F172 := (((((((E96.keep K106).keep K111).keep K125).keep K130).keep K144).keep K149).keep K167)
      have F173 := (((((E115.keep K125).keep K130).keep K144).keep K149).keep K167)
      have F174 := ((((F126.keep K130 nin0).keep K144 (ninS (Nat.ne_of_lt (Nat.lt_of_lt_of_le E115.lt (Nat.le_trans K125.1 g131))) nin0)).keep K149 nin0).keep K167 (ninS (Nat.ne_of_lt (Nat.lt_of_lt_of_le E115.lt (Nat.le_trans (Nat.le_trans (Nat.le_trans K125.1 K130.1) K144.1) g150))) nin0))
      have F175 := ((((F127.keep K130 nin0).keep K144 (ninS (Nat.ne_of_lt (Nat.lt_of_lt_of_le E115.lt (Nat.le_trans K125.1 g131))) nin0)).keep K149 nin0).keep K167 (ninS (Nat.ne_of_lt (Nat.lt_of_lt_of_le E115.lt (Nat.le_trans (Nat.le_trans (Nat.le_trans K125.1 K130.1) K144.1) g150))) nin0))
      have F176 := ((((((F107.keep K111 nin0).keep K125 (ninS (Nat.ne_of_lt (Nat.lt_of_lt_of_le E96.lt (Nat.le_trans K106.1 g112))) nin0)).keep K130 nin0).keep K144 (ninS (Nat.ne_of_lt (Nat.lt_of_lt_of_le E96.lt (Nat.le_trans (Nat.le_trans (Nat.le_trans K106.1 K111.1) K125.1) g131))) nin0)).keep K149 nin0).keep K167 (ninS (Nat.ne_of_lt (Nat.lt_of_lt_of_le E96.lt (Nat.le_trans (Nat.le_trans (Nat.le_trans (Nat.le_trans (Nat.le_trans K106.1 K111.1) K125.1) K130.1) K144.1) g150))) nin0))
      have F177 := ((((((F108.keep K111 nin0).keep K125 (ninS (Nat.ne_of_lt (Nat.lt_of_lt_of_le E96.lt (Nat.le_trans K106.1 g112))) nin0)).keep K130 nin0).keep K144 (ninS (Nat.ne_of_lt (Nat.lt_of_lt_of_le E96.lt (Nat.le_trans (Nat.le_trans (Nat.le_trans K106.1 K111.1) K125.1) g131))) nin0)).keep K149 nin0).keep K167 (ninS (Nat.ne_of_lt (Nat.lt_of_lt_of_le E96.lt (Nat.le_trans (Nat.le_trans (Nat.le_trans (Nat.le_trans (Nat.le_trans K106.1 K111.1) K125.1) K130.1) K144.1) g150))) nin0))
      have F178 := (F161.keep K167 (ninS (Nat.ne_of_lt (Nat.lt_of_lt_of_le E33.lt (Nat.le_trans (Nat.le_trans (Nat.le_trans (Nat.le_trans (Nat.le_trans (Nat.le_trans (Nat.le_trans (Nat.le_trans (Nat.le_trans (Nat.le_trans (Nat.le_trans K43.1 K50.1) K64.1) K71.1) K85.1) K92.1) K106.1) K111.1) K125.1) K130.1) K144.1) g150))) nin0) (ninS (Nat.ne_of_lt (Nat.lt_of_lt_of_le F45.ltb (Nat.le_trans (Nat.le_trans (Nat.le_trans (Nat.le_trans (Nat.le_trans (Nat.le_trans (Nat.le_trans (Nat.le_trans (Nat.le_trans (Nat.le_trans K50.1 K64.1) K71.1) K85.1) K92.1) K106.1) K111.1) K125.1) K130.1) K144.1) g150))) nin0))
      have F179 := (((((F121.keep K125 (ninS (Nat.ne_of_lt (Nat.lt_of_lt_of_le E54.lt (Nat.le_trans (Nat.le_trans (Nat.le_trans (Nat.le_trans (Nat.le_trans K64.1 K71.1) K85.1) K92.1) K106.1) g112))) nin0) (ninS (Nat.ne_of_lt (Nat.lt_of_lt_of_le F66.ltb (Nat.le_trans (Nat.le_trans (Nat.le_trans (Nat.le_trans K71.1 K85.1) K92.1) K106.1) g112))) nin0)).keep K130 nin0 nin0).keep K144 (ninS (Nat.ne_of_lt (Nat.lt_of_lt_of_le E54.lt (Nat.le_trans (Nat.le_trans (Nat.le_trans (Nat.le_trans (Nat.le_trans (Nat.le_trans (Nat.le_trans K64.1 K71.1) K85.1) K92.1) K106.1) K111.1) K125.1) g131))) nin0) (ninS (Nat.ne_of_lt (Nat.lt_of_lt_of_le F66.ltb (Nat.le_trans (Nat.le_trans (Nat.le_trans (Nat.le_trans (Nat.le_trans (Nat.le_trans K71.1 K85.1) K92.1) K106.1) K111.1) K125.1) g131))) nin0)).keep K149 nin0 nin0).keep K167 (ninS (Nat.ne_of_lt (Nat.lt_of_lt_of_le E54.lt (Nat.le_trans (Nat.le_trans (Nat.le_trans (Nat.le_trans (Nat.le_trans (Nat.le_trans (Nat.le_trans (Nat.le_trans (Nat.le_trans K64.1 K71.1) K85.1) K92.1) K106.1) K111.1) K125.1) K130.1) K144.1) g150))) nin0) (ninS (Nat.ne_of_lt (Nat.lt_of_lt_of_le F66.ltb (Nat.le_trans (Nat.le_trans (Nat.le_trans (Nat.le_trans (Nat.le_trans (Nat.le_trans (Nat.le_trans (Nat.le_trans K71.1 K85.1) K92.1) K106.1) K111.1) K125.1) K130.1) K144.1) g150))) nin0))
      refine W.callV (pc' := 266) (W := 0) (argsL := [(.ref a110)]) (st := []) (k' := 16) (n' := 422) (a := a91) X (c_peq (x := a91) (k := a110) (q := (eOf e0 e1 e2 i1)) (q' := (eOf e0 e1 e2 i1)) (a := a28) (b := a42) (a' := a49) (b' := a63) (cs := (mkL i1 d z1.toNatClampNeg c1)) (ds := (mkL i1 d z1.toNatClampNeg c1)) G X.en F173 F174 F175 F176 F177 F178 F179 (Nat.ne_of_lt (Nat.lt_of_lt_of_le E33.lt (Nat.le_trans K43.1 g51)))) (w124 G) (w125 G) (nfM (z' := (⟨"com/example/campo_grande/campogrande/PayloadDigest", "equals", "(Ljava/lang/Object;)Z"⟩ : MethodName)) rfl (w127 G)) (w127 G) (w126 G) F172 (w128 G) (w52 G) (by decide) (by decide) (by decide) rfl (lenOf pd23 rfl) rfl rfl (Nat.le_of_eq rfl) at_263 rfl (by decide) (by decide) (by decide) (by decide) (kp fun T X => ?_)
      refine W.ifF (pc' := 269) X at_266 (XT.i0_eq_f (by rw [if_pos ⟨rfl, rfl⟩]; decide)) rfl ?_
      refine W.aload (pc' := 271) X at_269 rfl rfl rfl ?_
      refine W.aload (pc' := 273) X at_271 rfl rfl rfl ?_
      refine W.callV (pc' := 276) (W := 0) (argsL := [(.ref a91)]) (st := []) (k' := 16) (n' := 422) (a := a110) X (c_peq (x := a110) (k := a91) (q := (eOf e0 e1 e2 i1)) (q' := (eOf e0 e1 e2 i1)) (a := a49) (b := a63) (a' := a28) (b' := a42) (cs := (mkL i1 d z1.toNatClampNeg c1)) (ds := (mkL i1 d z1.toNatClampNeg c1)) G X.en F172 F176 F177 F174 F175 F179 F178 (Nat.ne_of_gt (Nat.lt_of_lt_of_le E33.lt (Nat.le_trans K43.1 g51)))) (w124 G) (w125 G) (nfM (z' := (⟨"com/example/campo_grande/campogrande/PayloadDigest", "equals", "(Ljava/lang/Object;)Z"⟩ : MethodName)) rfl (w127 G)) (w127 G) (w126 G) F173 (w128 G) (w52 G) (by decide) (by decide) (by decide) rfl (lenOf pd23 rfl) rfl rfl (Nat.le_of_eq rfl) at_273 rfl (by decide) (by decide) (by decide) (by decide) (kp fun T X => ?_)
      refine W.ifF (pc' := 279) X at_276 (XT.i0_eq_f (by rw [if_pos ⟨rfl, rfl⟩]; decide)) rfl ?_
      refine W.aload (pc' := 281) X at_279 rfl rfl rfl ?_
      refine W.aload (pc' := 283) X at_281 rfl rfl rfl ?_
      have F180 := (((E134.keep K144).keep K149).keep K167)
      have F181 := ((F145.keep K149 nin0).keep K167 (ninS (Nat.ne_of_lt (Nat.lt_of_lt_of_le E134.lt (Nat.le_trans K144.1 g150))) nin0))
      have F182 := ((F146.keep K149 nin0).keep K167 (ninS (Nat.ne_of_lt (Nat.lt_of_lt_of_le E134.lt (Nat.le_trans K144.1 g150))) nin0))
      have F183 := (((F140.keep K144 (ninS (Nat.ne_of_lt (Nat.lt_of_lt_of_le E75.lt (Nat.le_trans (Nat.le_trans (Nat.le_trans (Nat.le_trans (Nat.le_trans K85.1 K92.1) K106.1) K111.1) K125.1) g131))) nin0) (ninS (Nat.ne_of_lt (Nat.lt_of_lt_of_le F87.ltb (Nat.le_trans (Nat.le_trans (Nat.le_trans (Nat.le_trans K92.1 K106.1) K111.1) K125.1) g131))) nin0)).keep K149 nin0 nin0).keep K167 (ninS (Nat.ne_of_lt (Nat.lt_of_lt_of_le E75.lt (Nat.le_trans (Nat.le_trans (Nat.le_trans (Nat.le_trans (Nat.le_trans (Nat.le_trans (Nat.le_trans K85.1 K92.1) K106.1) K111.1) K125.1) K130.1) K144.1) g150))) nin0) (ninS (Nat.ne_of_lt (Nat.lt_of_lt_of_le F87.ltb (Nat.le_trans (Nat.le_trans (Nat.le_trans (Nat.le_trans (Nat.le_trans (Nat.le_trans K92.1 K106.1) K111.1) K125.1) K130.1) K144.1) g150))) nin0))
      refine W.callV (pc' := 286) (W := 0) (argsL := [(.ref a129)]) (st := []) (k' := 16) (n' := 422) (a := a91) X (c_peq (x := a91) (k := a129) (q := (eOf e0 e1 e2 i1)) (q' := (eOf e0 e1 e2 i2)) (a := a28) (b := a42) (a' := a70) (b' := a84) (cs := (mkL i1 d z1.toNatClampNeg c1)) (ds := (mkL i2 d z2.toNatClampNeg c2)) G X.en F180 F181 F182 F176 F177 F178 F183 (Nat.ne_of_lt (Nat.lt_of_lt_of_le E33.lt (Nat.le_trans (Nat.le_trans (Nat.le_trans K43.1 K50.1) K64.1) g72)))) (w124 G) (w125 G) (nfM (z' := (⟨"com/example/campo_grande/campogrande/PayloadDigest", "equals", "(Ljava/lang/Object;)Z"⟩ : MethodName)) rfl (w127 G)) (w127 G) (w126 G) F172 (w128 G) (w52 G) (by decide) (by decide) (by decide) rfl (lenOf pd23 rfl) rfl rfl (Nat.le_of_eq rfl) at_283 rfl (by decide) (by decide) (by decide) (by decide) (kp fun T X => ?_)
      refine W.iload (pc' := 288) X at_286 rfl rfl ?_
      refine W.icF (pc' := 291) X at_288 (XT.ii_ne_f hex.symm) rfl ?_
      refine W.aload (pc' := 293) X at_291 rfl rfl rfl ?_
      refine W.aload (pc' := 295) X at_293 rfl rfl rfl ?_
      refine W.callV (pc' := 298) (W := 0) (argsL := [(.ref a91)]) (st := []) (k' := 16) (n' := 422) (a := a129) X (c_peq (x := a129) (k := a91) (q := (eOf e0 e1 e2 i2)) (q' := (eOf e0 e1 e2 i1)) (a := a70) (b := a84) (a' := a28) (b' := a42) (cs := (mkL i2 d z2.toNatClampNeg c2)) (ds := (mkL i1 d z1.toNatClampNeg c1)) G X.en F172 F176 F177 F181 F182 F183 F178 (Nat.ne_of_gt (Nat.lt_of_lt_of_le E33.lt (Nat.le_trans (Nat.le_trans (Nat.le_trans K43.1 K50.1) K64.1) g72)))) (w124 G) (w125 G) (nfM (z' := (⟨"com/example/campo_grande/campogrande/PayloadDigest", "equals", "(Ljava/lang/Object;)Z"⟩ : MethodName)) rfl (w127 G)) (w127 G) (w126 G) F180 (w128 G) (w52 G) (by decide) (by decide) (by decide) rfl (lenOf pd23 rfl) rfl rfl (Nat.le_of_eq rfl) at_295 rfl (by decide) (by decide) (by decide) (by decide) (kp fun T X => ?_)
      refine W.iload (pc' := 300) X at_298 rfl rfl ?_
      refine W.icF (pc' := 303) X at_300 (XT.ii_ne_f (ifc.trans hex.symm)) rfl ?_
      refine W.aload (pc' := 305) X at_303 rfl rfl rfl ?_
      refine W.aconst_null (pc' := 306) X at_305 rfl ?_
      refine W.callV (pc' := 309) (W := 0) (argsL := [.null]) (st := []) (k' := 16) (n' := 422) (a := a91) X (c_peqN (x := a91) G X.en) (w124 G) (w125 G) (nfM (z' := (⟨"com/example/campo_grande/campogrande/PayloadDigest", "equals", "(Ljava/lang/Object;)Z"⟩ : MethodName)) rfl (w127 G)) (w127 G) (w126 G) F172 (w128 G) (w52 G) (by decide) (by decide) (by decide) rfl (lenOf pd23 rfl) rfl rfl (Nat.le_of_eq rfl) at_306 rfl (by decide) (by decide) (by decide) (by decide) (kp fun T X => ?_)
      refine W.ifF (pc' := 312) X at_309 (by decide) rfl ?_
      refine W.aload (pc' := 314) X at_312 rfl rfl rfl ?_
      refine W.aload (pc' := 316) X at_314 rfl rfl rfl ?_
      have F184 := (((((((((((((E33.keep K43).keep K50).keep K64).keep K71).keep K85).keep K92).keep K106).keep K111).keep K125).keep K130).keep K144).keep K149).keep K167)
      refine W.callV (pc' := 319) (W := 0) (argsL := [(.ref a28)]) (st := []) (k' := 16) (n' := 422) (a := a91) X (c_peqS (x := a91) (k := a28) G X.en F184) (w124 G) (w125 G) (nfM (z' := (⟨"com/example/campo_grande/campogrande/PayloadDigest", "equals", "(Ljava/lang/Object;)Z"⟩ : MethodName)) rfl (w127 G)) (w127 G) (w126 G) F172 (w128 G) (w52 G) (by decide) (by decide) (by decide) rfl (lenOf pd23 rfl) rfl rfl (Nat.le_of_eq rfl) at_316 rfl (by decide) (by decide) (by decide) (by decide) (kp fun T X => ?_)
      refine W.ifF (pc' := 322) X at_319 (by decide) rfl ?_
      refine W.aload (pc' := 324) X at_322 rfl rfl rfl ?_
      refine W.aload (pc' := 326) X at_324 rfl rfl rfl ?_
      have F185 := (E153.keep K167)
      refine W.callV (pc' := 329) (W := 0) (argsL := [(.ref a148)]) (st := []) (k' := 16) (n' := 422) (a := a91) X (c_peqK (x := a91) (k := a148) G X.en F185) (w124 G) (w125 G) (nfM (z' := (⟨"com/example/campo_grande/campogrande/PayloadDigest", "equals", "(Ljava/lang/Object;)Z"⟩ : MethodName)) rfl (w127 G)) (w127 G) (w126 G) F172 (w128 G) (w52 G) (by decide) (by decide) (by decide) rfl (lenOf pd23 rfl) rfl rfl (Nat.le_of_eq rfl) at_326 rfl (by decide) (by decide) (by decide) (by decide) (kp fun T X => ?_)
      refine W.ifF (pc' := 332) X at_329 (by decide) rfl ?_
      refine W.iconst (pc' := 333) X (1 : Int32) at_332 (by decide) rfl ?_
      refine W.goto (pc' := 337) X at_333 (by decide) (by decide) ?_
      exact W.ireturn X at_337 rfl (by decide) (by decide) (by decide) (by decide) rfl
    refine W.iload (pc' := 203) X at_201 rfl rfl ?_
    refine W.iload (pc' := 205) X at_203 rfl rfl ?_
    by_cases hi : i1 = i2
    · skip
      refine W.icT (pc' := 214) X at_205 (XT.ii_eq_t hi) (by decide) (by decide) ?_
      refine W.iload (pc' := 216) X at_214 rfl rfl ?_
      refine W.iload (pc' := 218) X at_216 rfl rfl ?_
      by_cases hp : z1 = z2
      · skip
        refine W.icF (pc' := 221) X at_218 (XT.ii_ne_f hp) rfl ?_
        refine W.iload (pc' := 223) X at_221 rfl rfl ?_
        refine W.iload (pc' := 225) X at_223 rfl rfl ?_
        by_cases he : c1 = c2
        · skip
          refine W.icF (pc' := 228) X at_225 (XT.ii_ne_f he) rfl ?_
          refine W.iconst (pc' := 229) X (1 : Int32) at_228 (by decide) rfl ?_
          refine W.goto (pc' := 233) X at_229 (by decide) (by decide) ?_
          refine W.istore (pc' := 235) (ls' := #[.val (.int p0), .val (.int p1), .val (.int p2), .val (.int p3), .val (.int p4), .val (.int i1), .val (.int i2), .val (.ref (eOf e0 e1 e2 i1)), .val (.ref (eOf e0 e1 e2 i2)), .val (.int (lnOf i1)), .val (.int (lnOf i2)), .val (.int d), .val (.int c1), .val (.int c2), .val (.int z1), .val (.int z2), .val (.ref a5), .val (.ref a18), .val (.ref a28), .val (.ref a49), .val (.ref a70), .val (.ref a91), .val (.ref a110), .val (.ref a129), .val (.ref a148), .val (.int (1 : Int32))]) X at_233 rfl rfl ?_
          refine W.goto (pc' := 259) X at_235 (by decide) (by decide) ?_
          exact s259 _ (if_pos (by subst hi hp he; exact ⟨rfl, rfl⟩)).symm
        · skip
          refine W.icT (pc' := 232) X at_225 (XT.ii_ne_t he) (by decide) (by decide) ?_
          refine W.iconst (pc' := 233) X (0 : Int32) at_232 (by decide) rfl ?_
          refine W.istore (pc' := 235) (ls' := #[.val (.int p0), .val (.int p1), .val (.int p2), .val (.int p3), .val (.int p4), .val (.int i1), .val (.int i2), .val (.ref (eOf e0 e1 e2 i1)), .val (.ref (eOf e0 e1 e2 i2)), .val (.int (lnOf i1)), .val (.int (lnOf i2)), .val (.int d), .val (.int c1), .val (.int c2), .val (.int z1), .val (.int z2), .val (.ref a5), .val (.ref a18), .val (.ref a28), .val (.ref a49), .val (.ref a70), .val (.ref a91), .val (.ref a110), .val (.ref a129), .val (.ref a148), .val (.int (0 : Int32))]) X at_233 rfl rfl ?_
          refine W.goto (pc' := 259) X at_235 (by decide) (by decide) ?_
          exact s259 _ (if_neg (fun n => by subst hi; have n2 := (mkL_eq hz1.2 hz2.2).mp n.2; rw [if_pos ((p_nat hz1 hz2).mpr hp)] at n2; exact he n2)).symm
      · skip
        refine W.icT (pc' := 238) X at_218 (XT.ii_ne_t hp) (by decide) (by decide) ?_
        refine W.iload (pc' := 240) X at_238 rfl rfl ?_
        refine W.iload (pc' := 242) X at_240 rfl rfl ?_
        by_cases ha : c1 = d
        · skip
          refine W.icF (pc' := 245) X at_242 (XT.ii_ne_f ha) rfl ?_
          refine W.iload (pc' := 247) X at_245 rfl rfl ?_
          refine W.iload (pc' := 249) X at_247 rfl rfl ?_
          by_cases hb : c2 = d
          · skip
            refine W.icF (pc' := 252) X at_249 (XT.ii_ne_f hb) rfl ?_
            refine W.iconst (pc' := 253) X (1 : Int32) at_252 (by decide) rfl ?_
            refine W.goto (pc' := 257) X at_253 (by decide) (by decide) ?_
            refine W.istore (pc' := 259) (ls' := #[.val (.int p0), .val (.int p1), .val (.int p2), .val (.int p3), .val (.int p4), .val (.int i1), .val (.int i2), .val (.ref (eOf e0 e1 e2 i1)), .val (.ref (eOf e0 e1 e2 i2)), .val (.int (lnOf i1)), .val (.int (lnOf i2)), .val (.int d), .val (.int c1), .val (.int c2), .val (.int z1), .val (.int z2), .val (.ref a5), .val (.ref a18), .val (.ref a28), .val (.ref a49), .val (.ref a70), .val (.ref a91), .val (.ref a110), .val (.ref a129), .val (.ref a148), .val (.int (1 : Int32))]) X at_257 rfl rfl ?_
            exact s259 _ (if_pos (by subst hi ha hb; exact ⟨rfl, (mkL_eq hz1.2 hz2.2).mpr (by rw [if_neg (fun n => hp ((p_nat hz1 hz2).mp n))]; exact ⟨rfl, rfl⟩)⟩)).symm
          · skip
            refine W.icT (pc' := 256) X at_249 (XT.ii_ne_t hb) (by decide) (by decide) ?_
            refine W.iconst (pc' := 257) X (0 : Int32) at_256 (by decide) rfl ?_
            refine W.istore (pc' := 259) (ls' := #[.val (.int p0), .val (.int p1), .val (.int p2), .val (.int p3), .val (.int p4), .val (.int i1), .val (.int i2), .val (.ref (eOf e0 e1 e2 i1)), .val (.ref (eOf e0 e1 e2 i2)), .val (.int (lnOf i1)), .val (.int (lnOf i2)), .val (.int d), .val (.int c1), .val (.int c2), .val (.int z1), .val (.int z2), .val (.ref a5), .val (.ref a18), .val (.ref a28), .val (.ref a49), .val (.ref a70), .val (.ref a91), .val (.ref a110), .val (.ref a129), .val (.ref a148), .val (.int (0 : Int32))]) X at_257 rfl rfl ?_
            exact s259 _ (if_neg (fun n => by subst hi; have n2 := (mkL_eq hz1.2 hz2.2).mp n.2; rw [if_neg (fun n => hp ((p_nat hz1 hz2).mp n))] at n2; exact hb n2.2)).symm
        · skip
          refine W.icT (pc' := 256) X at_242 (XT.ii_ne_t ha) (by decide) (by decide) ?_
          refine W.iconst (pc' := 257) X (0 : Int32) at_256 (by decide) rfl ?_
          refine W.istore (pc' := 259) (ls' := #[.val (.int p0), .val (.int p1), .val (.int p2), .val (.int p3), .val (.int p4), .val (.int i1), .val (.int i2), .val (.ref (eOf e0 e1 e2 i1)), .val (.ref (eOf e0 e1 e2 i2)), .val (.int (lnOf i1)), .val (.int (lnOf i2)), .val (.int d), .val (.int c1), .val (.int c2), .val (.int z1), .val (.int z2), .val (.ref a5), .val (.ref a18), .val (.ref a28), .val (.ref a49), .val (.ref a70), .val (.ref a91), .val (.ref a110), .val (.ref a129), .val (.ref a148), .val (.int (0 : Int32))]) X at_257 rfl rfl ?_
          exact s259 _ (if_neg (fun n => by subst hi; have n2 := (mkL_eq hz1.2 hz2.2).mp n.2; rw [if_neg (fun n => hp ((p_nat hz1 hz2).mp n))] at n2; exact ha n2.1)).symm
    · skip
      refine W.icF (pc' := 208) X at_205 (XT.ii_eq_f hi) rfl ?_
      refine W.iconst (pc' := 209) X (0 : Int32) at_208 (by decide) rfl ?_
      refine W.istore (pc' := 211) (ls' := #[.val (.int p0), .val (.int p1), .val (.int p2), .val (.int p3), .val (.int p4), .val (.int i1), .val (.int i2), .val (.ref (eOf e0 e1 e2 i1)), .val (.ref (eOf e0 e1 e2 i2)), .val (.int (lnOf i1)), .val (.int (lnOf i2)), .val (.int d), .val (.int c1), .val (.int c2), .val (.int z1), .val (.int z2), .val (.ref a5), .val (.ref a18), .val (.ref a28), .val (.ref a49), .val (.ref a70), .val (.ref a91), .val (.ref a110), .val (.ref a129), .val (.ref a148), .val (.int (0 : Int32))]) X at_209 rfl rfl ?_
      refine W.goto (pc' := 259) X at_211 (by decide) (by decide) ?_
      exact s259 _ (if_neg (fun n => hi (eOf_inj G.2.2.2.2.2.2.2.2.2.2.1 G.2.2.2.2.2.2.2.2.2.2.2.2.1 G.2.2.2.2.2.2.2.2.2.2.2.2.2.2.1 hi1 hi2 n.1))).symm
  refine W.iloadN (pc' := 1) X at_0 rfl rfl ?_
  refine W.callS (pc' := 4) (W := 0) (argsL := [(.int p0)]) (st := []) (k' := 0) (n' := 0) X (c_idx (n := p0) G X.en) (w0 G) (w1 G) (w3 G) (w2 G) (by decide) (by decide) (by decide) rfl (lenOf pd28 rfl) rfl rfl (Nat.le_of_eq rfl) at_1 rfl (by decide) (by decide) (by decide) (by decide) (kp fun T X => ?_)
  refine W.istore (pc' := 6) (ls' := #[.val (.int p0), .val (.int p1), .val (.int p2), .val (.int p3), .val (.int p4), .val (.int ((p0 &&& (2147483647 : Int32)) % (3 : Int32))), .unset, .unset, .unset, .unset, .unset, .unset, .unset, .unset, .unset, .unset, .unset, .unset, .unset, .unset, .unset, .unset, .unset, .unset, .unset, .unset]) X at_4 rfl rfl ?_
  refine W.iloadN (pc' := 7) X at_6 rfl rfl ?_
  refine W.iconst (pc' := 8) X (4 : Int32) at_7 (by decide) rfl ?_
  refine W.iushr (pc' := 9) (w := (XT.ushr p0 (4 : Int32))) X at_8 rfl rfl ?_
  refine W.callS (pc' := 12) (W := 0) (argsL := [(.int (XT.ushr p0 (4 : Int32)))]) (st := []) (k' := 0) (n' := 0) X (c_idx (n := (XT.ushr p0 (4 : Int32))) G X.en) (w0 G) (w1 G) (w3 G) (w2 G) (by decide) (by decide) (by decide) rfl (lenOf pd28 rfl) rfl rfl (Nat.le_of_eq rfl) at_9 rfl (by decide) (by decide) (by decide) (by decide) (kp fun T X => ?_)
  refine W.istore (pc' := 14) (ls' := #[.val (.int p0), .val (.int p1), .val (.int p2), .val (.int p3), .val (.int p4), .val (.int ((p0 &&& (2147483647 : Int32)) % (3 : Int32))), .val (.int (((XT.ushr p0 (4 : Int32)) &&& (2147483647 : Int32)) % (3 : Int32))), .unset, .unset, .unset, .unset, .unset, .unset, .unset, .unset, .unset, .unset, .unset, .unset, .unset, .unset, .unset, .unset, .unset, .unset, .unset]) X at_12 rfl rfl ?_
  refine W.iload (pc' := 16) X at_14 rfl rfl ?_
  refine W.callS (pc' := 19) (W := 0) (argsL := [(.int ((p0 &&& (2147483647 : Int32)) % (3 : Int32)))]) (st := []) (k' := 0) (n' := 0) X (c_alg (i := ((p0 &&& (2147483647 : Int32)) % (3 : Int32))) G X.en) (w5 G) (w6 G) (w7 G) (w2 G) (by decide) (by decide) (by decide) rfl (lenOf pd29 rfl) rfl rfl (Nat.le_of_eq rfl) at_16 rfl (by decide) (by decide) (by decide) (by decide) (kp fun T X => ?_)
  refine W.astore (pc' := 21) (ls' := #[.val (.int p0), .val (.int p1), .val (.int p2), .val (.int p3), .val (.int p4), .val (.int ((p0 &&& (2147483647 : Int32)) % (3 : Int32))), .val (.int (((XT.ushr p0 (4 : Int32)) &&& (2147483647 : Int32)) % (3 : Int32))), .val (.ref (eOf e0 e1 e2 ((p0 &&& (2147483647 : Int32)) % (3 : Int32)))), .unset, .unset, .unset, .unset, .unset, .unset, .unset, .unset, .unset, .unset, .unset, .unset, .unset, .unset, .unset, .unset, .unset, .unset]) X at_19 rfl rfl rfl ?_
  refine W.iload (pc' := 23) X at_21 rfl rfl ?_
  refine W.callS (pc' := 26) (W := 0) (argsL := [(.int (((XT.ushr p0 (4 : Int32)) &&& (2147483647 : Int32)) % (3 : Int32)))]) (st := []) (k' := 0) (n' := 0) X (c_alg (i := (((XT.ushr p0 (4 : Int32)) &&& (2147483647 : Int32)) % (3 : Int32))) G X.en) (w5 G) (w6 G) (w7 G) (w2 G) (by decide) (by decide) (by decide) rfl (lenOf pd29 rfl) rfl rfl (Nat.le_of_eq rfl) at_23 rfl (by decide) (by decide) (by decide) (by decide) (kp fun T X => ?_)
  refine W.astore (pc' := 28) (ls' := #[.val (.int p0), .val (.int p1), .val (.int p2), .val (.int p3), .val (.int p4), .val (.int ((p0 &&& (2147483647 : Int32)) % (3 : Int32))), .val (.int (((XT.ushr p0 (4 : Int32)) &&& (2147483647 : Int32)) % (3 : Int32))), .val (.ref (eOf e0 e1 e2 ((p0 &&& (2147483647 : Int32)) % (3 : Int32)))), .val (.ref (eOf e0 e1 e2 (((XT.ushr p0 (4 : Int32)) &&& (2147483647 : Int32)) % (3 : Int32)))), .unset, .unset, .unset, .unset, .unset, .unset, .unset, .unset, .unset, .unset, .unset, .unset, .unset, .unset, .unset, .unset, .unset]) X at_26 rfl rfl rfl ?_
  refine W.iload (pc' := 30) X at_28 rfl rfl ?_
  refine W.callS (pc' := 33) (W := 0) (argsL := [(.int ((p0 &&& (2147483647 : Int32)) % (3 : Int32)))]) (st := []) (k' := 0) (n' := 0) X (c_lenI (i := ((p0 &&& (2147483647 : Int32)) % (3 : Int32))) G X.en) (w11 G) (w12 G) (w13 G) (w2 G) (by decide) (by decide) (by decide) rfl (lenOf pd28 rfl) rfl rfl (Nat.le_of_eq rfl) at_30 rfl (by decide) (by decide) (by decide) (by decide) (kp fun T X => ?_)
  refine W.istore (pc' := 35) (ls' := #[.val (.int p0), .val (.int p1), .val (.int p2), .val (.int p3), .val (.int p4), .val (.int ((p0 &&& (2147483647 : Int32)) % (3 : Int32))), .val (.int (((XT.ushr p0 (4 : Int32)) &&& (2147483647 : Int32)) % (3 : Int32))), .val (.ref (eOf e0 e1 e2 ((p0 &&& (2147483647 : Int32)) % (3 : Int32)))), .val (.ref (eOf e0 e1 e2 (((XT.ushr p0 (4 : Int32)) &&& (2147483647 : Int32)) % (3 : Int32)))), .val (.int (lnOf ((p0 &&& (2147483647 : Int32)) % (3 : Int32)))), .unset, .unset, .unset, .unset, .unset, .unset, .unset, .unset, .unset, .unset, .unset, .unset, .unset, .unset, .unset, .unset]) X at_33 rfl rfl ?_
  refine W.iload (pc' := 37) X at_35 rfl rfl ?_
  refine W.callS (pc' := 40) (W := 0) (argsL := [(.int (((XT.ushr p0 (4 : Int32)) &&& (2147483647 : Int32)) % (3 : Int32)))]) (st := []) (k' := 0) (n' := 0) X (c_lenI (i := (((XT.ushr p0 (4 : Int32)) &&& (2147483647 : Int32)) % (3 : Int32))) G X.en) (w11 G) (w12 G) (w13 G) (w2 G) (by decide) (by decide) (by decide) rfl (lenOf pd28 rfl) rfl rfl (Nat.le_of_eq rfl) at_37 rfl (by decide) (by decide) (by decide) (by decide) (kp fun T X => ?_)
  refine W.istore (pc' := 42) (ls' := #[.val (.int p0), .val (.int p1), .val (.int p2), .val (.int p3), .val (.int p4), .val (.int ((p0 &&& (2147483647 : Int32)) % (3 : Int32))), .val (.int (((XT.ushr p0 (4 : Int32)) &&& (2147483647 : Int32)) % (3 : Int32))), .val (.ref (eOf e0 e1 e2 ((p0 &&& (2147483647 : Int32)) % (3 : Int32)))), .val (.ref (eOf e0 e1 e2 (((XT.ushr p0 (4 : Int32)) &&& (2147483647 : Int32)) % (3 : Int32)))), .val (.int (lnOf ((p0 &&& (2147483647 : Int32)) % (3 : Int32)))), .val (.int (lnOf (((XT.ushr p0 (4 : Int32)) &&& (2147483647 : Int32)) % (3 : Int32)))), .unset, .unset, .unset, .unset, .unset, .unset, .unset, .unset, .unset, .unset, .unset, .unset, .unset, .unset, .unset]) X at_40 rfl rfl ?_
  refine W.iloadN (pc' := 43) X at_42 rfl rfl ?_
  refine W.callS (pc' := 46) (W := 0) (argsL := [(.int p1)]) (st := []) (k' := 0) (n' := 0) X (c_hex (n := p1) G X.en) (w14 G) (w15 G) (w16 G) (w2 G) (by decide) (by decide) (by decide) rfl (lenOf pd16 rfl) rfl rfl (Nat.le_of_eq rfl) at_43 rfl (by decide) (by decide) (by decide) (by decide) (kp fun T X => ?_)
  refine W.istore (pc' := 48) (ls' := #[.val (.int p0), .val (.int p1), .val (.int p2), .val (.int p3), .val (.int p4), .val (.int ((p0 &&& (2147483647 : Int32)) % (3 : Int32))), .val (.int (((XT.ushr p0 (4 : Int32)) &&& (2147483647 : Int32)) % (3 : Int32))), .val (.ref (eOf e0 e1 e2 ((p0 &&& (2147483647 : Int32)) % (3 : Int32)))), .val (.ref (eOf e0 e1 e2 (((XT.ushr p0 (4 : Int32)) &&& (2147483647 : Int32)) % (3 : Int32)))), .val (.int (lnOf ((p0 &&& (2147483647 : Int32)) % (3 : Int32)))), .val (.int (lnOf (((XT.ushr p0 (4 : Int32)) &&& (2147483647 : Int32)) % (3 : Int32)))), .val (.int (hexd p1)), .unset, .unset, .unset, .unset, .unset, .unset, .unset, .unset, .unset, .unset, .unset, .unset, .unset, .unset]) X at_46 rfl rfl ?_
  refine W.iload (pc' := 50) X at_48 rfl rfl ?_
  refine W.callS (pc' := 53) (W := 0) (argsL := [(.int p4)]) (st := []) (k' := 0) (n' := 0) X (c_hex (n := p4) G X.en) (w14 G) (w15 G) (w16 G) (w2 G) (by decide) (by decide) (by decide) rfl (lenOf pd16 rfl) rfl rfl (Nat.le_of_eq rfl) at_50 rfl (by decide) (by decide) (by decide) (by decide) (kp fun T X => ?_)
  refine W.istore (pc' := 55) (ls' := #[.val (.int p0), .val (.int p1), .val (.int p2), .val (.int p3), .val (.int p4), .val (.int ((p0 &&& (2147483647 : Int32)) % (3 : Int32))), .val (.int (((XT.ushr p0 (4 : Int32)) &&& (2147483647 : Int32)) % (3 : Int32))), .val (.ref (eOf e0 e1 e2 ((p0 &&& (2147483647 : Int32)) % (3 : Int32)))), .val (.ref (eOf e0 e1 e2 (((XT.ushr p0 (4 : Int32)) &&& (2147483647 : Int32)) % (3 : Int32)))), .val (.int (lnOf ((p0 &&& (2147483647 : Int32)) % (3 : Int32)))), .val (.int (lnOf (((XT.ushr p0 (4 : Int32)) &&& (2147483647 : Int32)) % (3 : Int32)))), .val (.int (hexd p1)), .val (.int (hexd p4)), .unset, .unset, .unset, .unset, .unset, .unset, .unset, .unset, .unset, .unset, .unset, .unset, .unset]) X at_53 rfl rfl ?_
  refine W.iload (pc' := 57) X at_55 rfl rfl ?_
  refine W.iconst (pc' := 58) X (4 : Int32) at_57 (by decide) rfl ?_
  refine W.iushr (pc' := 59) (w := (XT.ushr p4 (4 : Int32))) X at_58 rfl rfl ?_
  refine W.callS (pc' := 62) (W := 0) (argsL := [(.int (XT.ushr p4 (4 : Int32)))]) (st := []) (k' := 0) (n' := 0) X (c_hex (n := (XT.ushr p4 (4 : Int32))) G X.en) (w14 G) (w15 G) (w16 G) (w2 G) (by decide) (by decide) (by decide) rfl (lenOf pd16 rfl) rfl rfl (Nat.le_of_eq rfl) at_59 rfl (by decide) (by decide) (by decide) (by decide) (kp fun T X => ?_)
  refine W.istore (pc' := 64) (ls' := #[.val (.int p0), .val (.int p1), .val (.int p2), .val (.int p3), .val (.int p4), .val (.int ((p0 &&& (2147483647 : Int32)) % (3 : Int32))), .val (.int (((XT.ushr p0 (4 : Int32)) &&& (2147483647 : Int32)) % (3 : Int32))), .val (.ref (eOf e0 e1 e2 ((p0 &&& (2147483647 : Int32)) % (3 : Int32)))), .val (.ref (eOf e0 e1 e2 (((XT.ushr p0 (4 : Int32)) &&& (2147483647 : Int32)) % (3 : Int32)))), .val (.int (lnOf ((p0 &&& (2147483647 : Int32)) % (3 : Int32)))), .val (.int (lnOf (((XT.ushr p0 (4 : Int32)) &&& (2147483647 : Int32)) % (3 : Int32)))), .val (.int (hexd p1)), .val (.int (hexd p4)), .val (.int (hexd (XT.ushr p4 (4 : Int32)))), .unset, .unset, .unset, .unset, .unset, .unset, .unset, .unset, .unset, .unset, .unset, .unset]) X at_62 rfl rfl ?_
  refine W.iloadN (pc' := 65) X at_64 rfl rfl ?_
  refine W.ldcI (pc' := 67) X (w4 G) at_65 rfl ?_
  refine W.iand (pc' := 68) (w := (p2 &&& (2147483647 : Int32))) X at_67 rfl rfl ?_
  refine W.iload (pc' := 70) X at_68 rfl rfl ?_
  refine W.irem (pc' := 71) (w := ((p2 &&& (2147483647 : Int32)) % (lnOf ((p0 &&& (2147483647 : Int32)) % (3 : Int32))))) X at_70 (ln_nz (idx3 _)) rfl rfl ?_
  refine W.istore (pc' := 73) (ls' := #[.val (.int p0), .val (.int p1), .val (.int p2), .val (.int p3), .val (.int p4), .val (.int ((p0 &&& (2147483647 : Int32)) % (3 : Int32))), .val (.int (((XT.ushr p0 (4 : Int32)) &&& (2147483647 : Int32)) % (3 : Int32))), .val (.ref (eOf e0 e1 e2 ((p0 &&& (2147483647 : Int32)) % (3 : Int32)))), .val (.ref (eOf e0 e1 e2 (((XT.ushr p0 (4 : Int32)) &&& (2147483647 : Int32)) % (3 : Int32)))), .val (.int (lnOf ((p0 &&& (2147483647 : Int32)) % (3 : Int32)))), .val (.int (lnOf (((XT.ushr p0 (4 : Int32)) &&& (2147483647 : Int32)) % (3 : Int32)))), .val (.int (hexd p1)), .val (.int (hexd p4)), .val (.int (hexd (XT.ushr p4 (4 : Int32)))), .val (.int ((p2 &&& (2147483647 : Int32)) % (lnOf ((p0 &&& (2147483647 : Int32)) % (3 : Int32))))), .unset, .unset, .unset, .unset, .unset, .unset, .unset, .unset, .unset, .unset, .unset]) X at_71 rfl rfl ?_
  refine W.iloadN (pc' := 74) X at_73 rfl rfl ?_
  refine W.ldcI (pc' := 76) X (w4 G) at_74 rfl ?_
  refine W.iand (pc' := 77) (w := (p3 &&& (2147483647 : Int32))) X at_76 rfl rfl ?_
  refine W.iload (pc' := 79) X at_77 rfl rfl ?_
  refine W.irem (pc' := 80) (w := ((p3 &&& (2147483647 : Int32)) % (lnOf (((XT.ushr p0 (4 : Int32)) &&& (2147483647 : Int32)) % (3 : Int32))))) X at_79 (ln_nz (idx3 _)) rfl rfl ?_
  refine W.istore (pc' := 82) (ls' := #[.val (.int p0), .val (.int p1), .val (.int p2), .val (.int p3), .val (.int p4), .val (.int ((p0 &&& (2147483647 : Int32)) % (3 : Int32))), .val (.int (((XT.ushr p0 (4 : Int32)) &&& (2147483647 : Int32)) % (3 : Int32))), .val (.ref (eOf e0 e1 e2 ((p0 &&& (2147483647 : Int32)) % (3 : Int32)))), .val (.ref (eOf e0 e1 e2 (((XT.ushr p0 (4 : Int32)) &&& (2147483647 : Int32)) % (3 : Int32)))), .val (.int (lnOf ((p0 &&& (2147483647 : Int32)) % (3 : Int32)))), .val (.int (lnOf (((XT.ushr p0 (4 : Int32)) &&& (2147483647 : Int32)) % (3 : Int32)))), .val (.int (hexd p1)), .val (.int (hexd p4)), .val (.int (hexd (XT.ushr p4 (4 : Int32)))), .val (.int ((p2 &&& (2147483647 : Int32)) % (lnOf ((p0 &&& (2147483647 : Int32)) % (3 : Int32))))), .val (.int ((p3 &&& (2147483647 : Int32)) % (lnOf (((XT.ushr p0 (4 : Int32)) &&& (2147483647 : Int32)) % (3 : Int32))))), .unset, .unset, .unset, .unset, .unset, .unset, .unset, .unset, .unset, .unset]) X at_80 rfl rfl ?_
  exact s82 T ((p0 &&& (2147483647 : Int32)) % (3 : Int32)) (((XT.ushr p0 (4 : Int32)) &&& (2147483647 : Int32)) % (3 : Int32)) (hexd p1) (hexd p4) (hexd (XT.ushr p4 (4 : Int32))) ((p2 &&& (2147483647 : Int32)) % (lnOf ((p0 &&& (2147483647 : Int32)) % (3 : Int32)))) ((p3 &&& (2147483647 : Int32)) % (lnOf (((XT.ushr p0 (4 : Int32)) &&& (2147483647 : Int32)) % (3 : Int32)))) X (idx3 _) (idx3 _) (hexd_hex _) (hexd_hex _) (hexd_hex _) (ps (idx3 _) _) (ps (idx3 _) _)
set_option maxRecDepth 65536 in
set_option maxHeartbeats 40000000 in
theorem comes_1 {Post : Tables → Env → Array Value → State → Outcome → State → Prop} (hpost : ∀ tb e args s v u, (limb_1_1.after args s (.returned v) u = true ∧ limb_1_2.after args s (.returned v) u = true ∧ True) → ReturnedEndW s (.returned v) u (Jvm.fieldLocs frame_1_writes args s ++ Jvm.arrayLocs frame_1_arrays args s ++ Jvm.staticLocs frame_1_statics s) 40 2816 → Post tb e args s (.returned v) u) :
    ArmFor flags0 classFile x code maxLocals ret World_1 tables_1 room_1 Calls_1 rest_1 Pre_1 Post := by
  intro l hfl _ _ p e ha hc hk s m args below hf hA hF happ hP
  obtain ⟨hcalls, hrest, hpre⟩ := hP
  obtain ⟨-, -, -, hnamed, -, -, -, hat⟩ := (Spec.applies_iff hf).mp happ
  obtain ⟨hg, hn⟩ := and_e (Cond.before_iff.mp (show (Jvm.Cond.and given_1 narrow_1).before args s = true from hpre))
  obtain ⟨h1, h2⟩ := and_e hg
  obtain ⟨w0, w1, w2, w3, w4, rfl⟩ : ∃ w0 w1 w2 w3 w4 : Value, args = #[w0, w1, w2, w3, w4] := by
    have hs : args.size = 5 := by simpa [Cond.value, given_1] using h1
    obtain ⟨L⟩ := args
    match L, hs with
    | [w0, w1, w2, w3, w4], _ => exact ⟨w0, w1, w2, w3, w4, rfl⟩
  obtain ⟨k0, r0⟩ := and_e h2
  obtain ⟨i0, e0⟩ := is_v k0
  obtain rfl : w0 = (.int i0) := Option.some.inj e0
  obtain ⟨k1, r1⟩ := and_e r0
  obtain ⟨i1, e1⟩ := is_v k1
  obtain rfl : w1 = (.int i1) := Option.some.inj e1
  obtain ⟨k2, r2⟩ := and_e r1
  obtain ⟨i2, e2⟩ := is_v k2
  obtain rfl : w2 = (.int i2) := Option.some.inj e2
  obtain ⟨k3, r3⟩ := and_e r2
  obtain ⟨i3, e3⟩ := is_v k3
  obtain rfl : w3 = (.int i3) := Option.some.inj e3
  obtain ⟨i4, e4⟩ := is_v r3
  obtain rfl : w4 = (.int i4) := Option.some.inj e4
  have hw := fun d (hd : d ∈ tables_1) => atoms_spec (ws := Jvm.Cond.code x code maxLocals ret :: tables_1) hat d (List.mem_cons_of_mem _ hd)
  obtain ⟨hsets, hown0⟩ := atoms_of _ (rest_1_c_eq ▸ (show rest_1_c.before _ s = true from hrest))
  obtain ⟨zC, v1⟩ := is_v (Cond.before_iff.mp (hsets _ (List.mem_of_getElem? (i := 1) rfl)))
  have c1 : ¬ (zC = (0 : Int32)) := gotF (Cond.eq_ints v1 (Term.int_eval (0))) (not_v (Cond.before_iff.mp (hsets _ (List.mem_of_getElem? (i := 2) rfl))))
  have S1 := Sta.start v1 (Or.inl (hsets _ (List.mem_of_getElem? (i := 0) rfl)))
  obtain ⟨fS, v2, c2⟩ := isR_v (Cond.before_iff.mp (hsets _ (List.mem_of_getElem? (i := 8) rfl)))
  have S2 := Sta.start v2 (Or.inl (hsets _ (List.mem_of_getElem? (i := 7) rfl)))
  obtain ⟨m0, s0⟩ := and_e hn
  obtain ⟨m1, s1⟩ := and_e s0
  obtain ⟨m2, s2⟩ := and_e s1
  obtain ⟨m3, s3⟩ := and_e s2
  obtain ⟨m4, s4⟩ := and_e s3
  obtain ⟨m5, s5⟩ := and_e s4
  obtain ⟨m6, s6⟩ := and_e s5
  obtain ⟨m7, s7⟩ := and_e s6
  have m8 := s7
  obtain ⟨e0, v6⟩ := exa_v m0
  have S6 := Sta.start v6 (Or.inr ⟨(hw _ (List.mem_of_getElem? (i := 9) rfl)), (hw _ (List.mem_of_getElem? (i := 10) rfl))⟩)
  obtain ⟨e1, v7⟩ := exa_v m6
  have S7 := Sta.start v7 (Or.inr ⟨(hw _ (List.mem_of_getElem? (i := 9) rfl)), (hw _ (List.mem_of_getElem? (i := 146) rfl))⟩)
  obtain ⟨e2, v8⟩ := exa_v m2
  have S8 := Sta.start v8 (Or.inr ⟨(hw _ (List.mem_of_getElem? (i := 9) rfl)), (hw _ (List.mem_of_getElem? (i := 144) rfl))⟩)
  have Xe0 := Exa.start v6 m0
  have Ye0 : Fld s s.heap e0 "com/example/campo_grande/campogrande/SignatureAlgorithm" "digestLength" "I" (.int (32 : Int32)) := Fld.start ((fld_at v6).symm.trans (Cond.eq_int (Cond.before_iff.mpr m1) rfl))
  have Xe1 := Exa.start v7 m6
  have Ye1 : Fld s s.heap e1 "com/example/campo_grande/campogrande/SignatureAlgorithm" "digestLength" "I" (.int (20 : Int32)) := Fld.start ((fld_at v7).symm.trans (Cond.eq_int (Cond.before_iff.mpr m7) rfl))
  have Xe2 := Exa.start v8 m2
  have Ye2 : Fld s s.heap e2 "com/example/campo_grande/campogrande/SignatureAlgorithm" "digestLength" "I" (.int (16 : Int32)) := Fld.start ((fld_at v8).symm.trans (Cond.eq_int (Cond.before_iff.mpr m3) rfl))
  have hew : EW s #[(.int i0), (.int i1), (.int i2), (.int i3), (.int i4)] [] := EW.nil
  have G : Gl s #[(.int i0), (.int i1), (.int i2), (.int i3), (.int i4)] zC fS e0 e1 e2 := ⟨hw, hew, S1, c1, S2, c2, S6, S7, S8, Xe0, Ye0, Xe1, Ye1, Xe2, Ye2, trivial⟩
  have hch : CHv s [] s.vm s.heap := fun p hp => by cases hp
  obtain ⟨n, o, h1, h2, h3, v, L, B', rfl, N, -, -, -, -, -, rfl, hq⟩ := c_law (l := l) (B := fun x => Bk s [] s.vm s.heap x) G ⟨⟨Nat.le_refl _, fun _ _ q => q⟩, fun x r => by obtain ⟨cell, q⟩ := r.there; exact (Array.getElem?_eq_some_iff.mp q).1⟩ p e ha hc hk s m _ below hf ((Spec.applies_iff_loose hf).mp happ).1 ⟨rfl, State.Warmed39.refl s, rfl, hch, fun x r => r⟩ trivial
  refine ⟨n, _, h1, h2, h3, hpost _ _ _ _ _ _ ⟨Cond.after_iff.mpr rfl, Cond.after_iff.mpr (eq_i res_at (Term.int_eval (1)) rfl), trivial⟩ ⟨hq.1, hq.2.1, hq.2.2.1, (hq.2.2.2.sift fun y hy => Or.inr (N y hy)).mono (by decide) (by decide)⟩⟩
theorem main_1_1 : Claimed_1_1 := comes_1 fun _ _ _ _ _ _ h hF => ⟨h.1, hF⟩
theorem main_1_2 : Claimed_1_2 := comes_1 fun _ _ _ _ _ _ h hF => ⟨h.2.1, hF⟩
end Jvm.Pilot.@@N@@
namespace Jvm.Pilot.@@N@@
open Jvm Jvm.ClassFile Sem Op Lib Jvm.Free Jvm.Stand Jvm.Pilot.@@N@@.Jvm.D
/-! MADE BY PROGRAM (witnessworld.py) out of the Statement's table words and the real class files: 24 classes; the members and pool entries that the words name. The judged class is class 1, her method 1. -/
namespace start1
open Jvm.ClassFile
def u (s : String) : CpInfo := .utf8 (stringToUtf16 s)
/-- a pool by its gaps: so many unusable entries, then the entry; so many at the end -/
def gap : Nat → List CpInfo → List CpInfo
  | 0, r => r
  | n + 1, r => .unusable :: gap n r
def poolList (es : List (Nat × CpInfo)) (last : Nat) : List CpInfo := es.foldr (fun e r => gap e.1 (e.2 :: r)) (gap last [])
def pool (es : List (Nat × CpInfo)) (last : Nat) : Array CpInfo := ⟨poolList es last⟩
def fileOf (pool : Array CpInfo) (this : Nat) (attrs : Array Attribute := #[]) (ms : Array MethodInfo := #[]) (fl : Nat := 33) (sup : Nat := 0) (ifs : Array Nat := #[]) (fds : Array FieldInfo := #[]) : ClassFile where
  minorVersion := 0
  majorVersion := 65
  constantPool := pool
  accessFlags := fl
  thisClass := this
  superClass := sup
  interfaces := ifs
  fields := fds
  methods := ms
  attributes := attrs
def plain (name : String) (sup : Option ClassId) : Class where
  name := name
  kind := .ordinary
  loader := none
  accessFlags := 33
  super := sup
  interfaces := #[]
  cf := none
  fields := #[]
  methods := #[]
  instanceTypes := #[]
  staticTypes := #[]
  resolved := #[]
  callSites := []
  init := .initialized
  statics := none
  mirror := none

def pool0 : Array CpInfo := pool [(5, u "<init>"), (0, u "()V"), (1, .class_ 10), (1, u "java/lang/Object")] 113

def k0c0 : Code := { maxStack := 0, maxLocals := 1, code := object_method_1_code, exceptionTable := #[], attributes := #[] }
def k0m0 : Method := { name := "<init>", desc := "()V", sig := { parameters := [], returnType := none }, accessFlags := 1, code := some k0c0 }
/-- java/lang/Object -/
def k0 : Class := { plain "java/lang/Object" none with
  accessFlags := 33
  interfaces := #[]
  cf := some (fileOf pool0 8 #[] #[{ accessFlags := 1, nameIndex := 5, descriptorIndex := 6, attributes := #[] }] 33 0 #[] #[])
  fields := #[]
  methods := #[k0m0]
  instanceTypes := #[]
  staticTypes := #[]
  resolved := Array.replicate 124 none
  statics := none }

def pool1 : Array CpInfo := pool [(2, .class_ 4), (1, u "java/lang/Object"), (0, u "<init>"), (0, u "()V"), (0, .methodref 8 9), (0, .class_ 10), (0, .nameAndType 11 12), (0, u "com/example/campo_grande/campogrande/PayloadDigestEqualsPinLaw"), (0, u "index"), (0, u "(I)I"), (0, .methodref 8 14), (0, .nameAndType 15 16), (0, u "algorithm"), (0, u "(I)Lcom/example/campo_grande/campogrande/SignatureAlgorithm;"), (0, .methodref 8 18), (0, .nameAndType 19 12), (0, u "length"), (0, .methodref 8 21), (0, .nameAndType 22 23), (0, u "hex"), (0, u "(I)C"), (0, .integer 2147483647), (0, .methodref 8 26), (0, .nameAndType 27 28), (0, u "filled"), (0, u "(IC)[C"), (0, .class_ 30), (0, u "java/lang/String"), (0, .methodref 29 32), (0, .nameAndType 5 33), (0, u "([C)V"), (0, .class_ 35), (0, u "com/example/campo_grande/campogrande/PayloadDigest"), (0, .methodref 34 37), (0, .nameAndType 5 38), (0, u "(Lcom/example/campo_grande/campogrande/SignatureAlgorithm;Ljava/lang/String;)V"), (0, .class_ 40), (0, u "com/example/campo_grande/campogrande/ContentKey"), (0, .methodref 39 42), (0, .nameAndType 5 43), (0, u "(ILcom/example/campo_grande/campogrande/SignatureAlgorithm;Ljava/lang/String;I)V"), (0, .methodref 34 45), (0, .nameAndType 46 47), (0, u "equals"), (0, u "(Ljava/lang/Object;)Z"), (0, .fieldref 49 50), (0, .class_ 51), (0, .nameAndType 52 53), (0, u "com/example/campo_grande/campogrande/SignatureAlgorithm"), (0, u "SHA256"), (0, u "Lcom/example/campo_grande/campogrande/SignatureAlgorithm;"), (0, .fieldref 49 55), (0, .nameAndType 56 53), (0, u "SHA1"), (0, .fieldref 49 58), (0, .nameAndType 59 53), (0, u "MD5"), (2, u "law"), (0, u "(IIIII)Z")] 5

def k1m0 : Method := { name := "<init>", desc := "()V", sig := { parameters := [], returnType := none }, accessFlags := 1, code := none }
def k1c1 : Code := { maxStack := 6, maxLocals := 26, code := code, exceptionTable := #[], attributes := #[] }
def k1m1 : Method := { name := "law", desc := "(IIIII)Z", sig := { parameters := [.int, .int, .int, .int, .int], returnType := some .boolean }, accessFlags := 9, code := some k1c1 }
def k1c2 : Code := { maxStack := 2, maxLocals := 1, code := method_3_code, exceptionTable := #[], attributes := #[] }
def k1m2 : Method := { name := "index", desc := "(I)I", sig := { parameters := [.int], returnType := some .int }, accessFlags := 10, code := some k1c2 }
def k1c3 : Code := { maxStack := 2, maxLocals := 1, code := method_4_code, exceptionTable := #[], attributes := #[] }
def k1m3 : Method := { name := "algorithm", desc := "(I)Lcom/example/campo_grande/campogrande/SignatureAlgorithm;", sig := { parameters := [.int], returnType := some (.object "com/example/campo_grande/campogrande/SignatureAlgorithm") }, accessFlags := 10, code := some k1c3 }
def k1c4 : Code := { maxStack := 2, maxLocals := 1, code := method_5_code, exceptionTable := #[], attributes := #[] }
def k1m4 : Method := { name := "length", desc := "(I)I", sig := { parameters := [.int], returnType := some .int }, accessFlags := 10, code := some k1c4 }
def k1c5 : Code := { maxStack := 3, maxLocals := 2, code := method_6_code, exceptionTable := #[], attributes := #[] }
def k1m5 : Method := { name := "hex", desc := "(I)C", sig := { parameters := [.int], returnType := some .char }, accessFlags := 10, code := some k1c5 }
def k1c6 : Code := { maxStack := 4, maxLocals := 2, code := method_7_code, exceptionTable := #[], attributes := #[] }
def k1m6 : Method := { name := "filled", desc := "(IC)[C", sig := { parameters := [.int, .char], returnType := some (.array .char) }, accessFlags := 10, code := some k1c6 }
/-- com/example/campo_grande/campogrande/PayloadDigestEqualsPinLaw -/
def k1 : Class := { plain "com/example/campo_grande/campogrande/PayloadDigestEqualsPinLaw" (some 0) with
  accessFlags := 49
  interfaces := #[]
  cf := some (fileOf pool1 8 #[] #[{ accessFlags := 1, nameIndex := 5, descriptorIndex := 6, attributes := #[] }, { accessFlags := 9, nameIndex := 62, descriptorIndex := 63, attributes := #[] }, { accessFlags := 10, nameIndex := 11, descriptorIndex := 12, attributes := #[] }, { accessFlags := 10, nameIndex := 15, descriptorIndex := 16, attributes := #[] }, { accessFlags := 10, nameIndex := 19, descriptorIndex := 12, attributes := #[] }, { accessFlags := 10, nameIndex := 22, descriptorIndex := 23, attributes := #[] }, { accessFlags := 10, nameIndex := 27, descriptorIndex := 28, attributes := #[] }] 49 2 #[] #[])
  fields := #[]
  methods := #[k1m0, k1m1, k1m2, k1m3, k1m4, k1m5, k1m6]
  instanceTypes := #[]
  staticTypes := #[]
  resolved := Array.replicate 69 none
  statics := none }

def pool2 : Array CpInfo := pool [(1, .class_ 2), (0, u "java/lang/constant/Constable"), (0, .class_ 4), (0, u "java/lang/Object")] 6

/-- java/lang/constant/Constable -/
def k2 : Class := { plain "java/lang/constant/Constable" (some 0) with
  accessFlags := 1537
  interfaces := #[]
  cf := some (fileOf pool2 1 #[] #[] 1537 3 #[] #[])
  fields := #[]
  methods := #[]
  instanceTypes := #[]
  staticTypes := #[]
  resolved := Array.replicate 11 none
  statics := none }

def pool3 : Array CpInfo := pool [(1, .class_ 2), (0, u "java/lang/Comparable"), (0, .class_ 4), (0, u "java/lang/Object")] 7

/-- java/lang/Comparable -/
def k3 : Class := { plain "java/lang/Comparable" (some 0) with
  accessFlags := 1537
  interfaces := #[]
  cf := some (fileOf pool3 1 #[] #[] 1537 3 #[] #[])
  fields := #[]
  methods := #[]
  instanceTypes := #[]
  staticTypes := #[]
  resolved := Array.replicate 12 none
  statics := none }

def pool4 : Array CpInfo := pool [(1, .class_ 2), (0, u "java/io/Serializable"), (0, .class_ 4), (0, u "java/lang/Object")] 2

/-- java/io/Serializable -/
def k4 : Class := { plain "java/io/Serializable" (some 0) with
  accessFlags := 1537
  interfaces := #[]
  cf := some (fileOf pool4 1 #[] #[] 1537 3 #[] #[])
  fields := #[]
  methods := #[]
  instanceTypes := #[]
  staticTypes := #[]
  resolved := Array.replicate 7 none
  statics := none }

def pool5 : Array CpInfo := pool [(2, .class_ 4), (1, u "java/lang/Enum"), (0, u "name"), (0, u "Ljava/lang/String;"), (2, u "ordinal"), (0, u "I"), (1, .class_ 14), (1, u "java/lang/Object"), (4, u "hash"), (86, .class_ 108), (1, u "java/lang/Enum$EnumDesc"), (2, .class_ 112), (0, u "java/lang/constant/Constable"), (0, .class_ 114), (0, u "java/lang/Comparable"), (0, .class_ 116), (0, u "java/io/Serializable")] 87

/-- java/lang/Enum -/
def k5 : Class := { plain "java/lang/Enum" (some 0) with
  accessFlags := 1057
  interfaces := #[2, 3, 4]
  cf := some (fileOf pool5 2 #[.nestMembers #[106]] #[] 1057 12 #[111, 113, 115] #[{ accessFlags := 18, nameIndex := 5, descriptorIndex := 6, attributes := #[] }, { accessFlags := 18, nameIndex := 9, descriptorIndex := 10, attributes := #[] }, { accessFlags := 2, nameIndex := 19, descriptorIndex := 10, attributes := #[] }])
  fields := #[{ name := "name", type := (.object "java/lang/String"), accessFlags := 18, slot := 0, constantValue := 0 }, { name := "ordinal", type := .int, accessFlags := 18, slot := 1, constantValue := 0 }, { name := "hash", type := .int, accessFlags := 2, slot := 2, constantValue := 0 }]
  methods := #[]
  instanceTypes := #[(.object "java/lang/String"), .int, .int]
  staticTypes := #[]
  resolved := Array.replicate 204 none
  statics := none }

def pool6 : Array CpInfo := pool [(1, .class_ 2), (0, u "com/example/campo_grande/campogrande/SignatureAlgorithm"), (2, u "SHA256"), (0, u "Lcom/example/campo_grande/campogrande/SignatureAlgorithm;"), (2, u "SHA1"), (2, u "MD5"), (2, u "$VALUES"), (0, u "[Lcom/example/campo_grande/campogrande/SignatureAlgorithm;"), (6, .class_ 25), (1, u "java/lang/Enum"), (8, u "text"), (0, u "Ljava/lang/String;"), (2, u "javaName"), (0, .fieldref 1 40), (0, .nameAndType 41 42), (0, u "digestLength"), (0, u "I"), (5, .class_ 50), (1, u "java/lang/String"), (9, .methodref 48 61), (0, .nameAndType 62 63), (0, u "length"), (0, u "()I"), (0, .methodref 48 65), (0, .nameAndType 66 67), (0, u "charAt"), (0, u "(I)C"), (66, u "isSignature"), (0, u "(Ljava/lang/String;)Z")] 27

def k6c0 : Code := { maxStack := 3, maxLocals := 4, code := prog_25_method_6_code, exceptionTable := #[], attributes := #[] }
def k6m0 : Method := { name := "isSignature", desc := "(Ljava/lang/String;)Z", sig := { parameters := [(.object "java/lang/String")], returnType := some .boolean }, accessFlags := 1, code := some k6c0 }
/-- com/example/campo_grande/campogrande/SignatureAlgorithm -/
def k6 : Class := { plain "com/example/campo_grande/campogrande/SignatureAlgorithm" (some 5) with
  accessFlags := 16433
  interfaces := #[]
  cf := some (fileOf pool6 1 #[] #[{ accessFlags := 1, nameIndex := 134, descriptorIndex := 135, attributes := #[] }] 16433 23 #[] #[{ accessFlags := 16409, nameIndex := 5, descriptorIndex := 6, attributes := #[] }, { accessFlags := 16409, nameIndex := 9, descriptorIndex := 6, attributes := #[] }, { accessFlags := 16409, nameIndex := 12, descriptorIndex := 6, attributes := #[] }, { accessFlags := 18, nameIndex := 34, descriptorIndex := 35, attributes := #[] }, { accessFlags := 18, nameIndex := 38, descriptorIndex := 35, attributes := #[] }, { accessFlags := 18, nameIndex := 41, descriptorIndex := 42, attributes := #[] }, { accessFlags := 4122, nameIndex := 15, descriptorIndex := 16, attributes := #[] }])
  fields := #[{ name := "SHA256", type := (.object "com/example/campo_grande/campogrande/SignatureAlgorithm"), accessFlags := 16409, slot := 0, constantValue := 0 }, { name := "SHA1", type := (.object "com/example/campo_grande/campogrande/SignatureAlgorithm"), accessFlags := 16409, slot := 1, constantValue := 0 }, { name := "MD5", type := (.object "com/example/campo_grande/campogrande/SignatureAlgorithm"), accessFlags := 16409, slot := 2, constantValue := 0 }, { name := "text", type := (.object "java/lang/String"), accessFlags := 18, slot := 3, constantValue := 0 }, { name := "javaName", type := (.object "java/lang/String"), accessFlags := 18, slot := 4, constantValue := 0 }, { name := "digestLength", type := .int, accessFlags := 18, slot := 5, constantValue := 0 }, { name := "$VALUES", type := (.array (.object "com/example/campo_grande/campogrande/SignatureAlgorithm")), accessFlags := 4122, slot := 3, constantValue := 0 }]
  methods := #[k6m0]
  instanceTypes := #[(.object "java/lang/String"), .int, .int, (.object "java/lang/String"), (.object "java/lang/String"), .int]
  staticTypes := #[(.object "com/example/campo_grande/campogrande/SignatureAlgorithm"), (.object "com/example/campo_grande/campogrande/SignatureAlgorithm"), (.object "com/example/campo_grande/campogrande/SignatureAlgorithm"), (.array (.object "com/example/campo_grande/campogrande/SignatureAlgorithm"))]
  resolved := Array.replicate 163 none
  statics := some 0 }

def pool7 : Array CpInfo := pool [(2, .class_ 4), (1, u "java/lang/CharSequence"), (42, .class_ 48), (0, u "java/lang/CharSequence$1CodePointIterator"), (10, .class_ 60), (0, u "java/lang/CharSequence$1CharIterator"), (5, .class_ 67), (0, u "java/lang/Object")] 63

/-- java/lang/CharSequence -/
def k7 : Class := { plain "java/lang/CharSequence" (some 0) with
  accessFlags := 1537
  interfaces := #[]
  cf := some (fileOf pool7 2 #[.nestMembers #[47, 59]] #[] 1537 66 #[] #[])
  fields := #[]
  methods := #[]
  instanceTypes := #[]
  staticTypes := #[]
  resolved := Array.replicate 131 none
  statics := none }

def pool8 : Array CpInfo := pool [(1, .class_ 2), (0, u "java/lang/constant/ConstantDesc"), (0, .class_ 4), (0, u "java/lang/Object")] 32

/-- java/lang/constant/ConstantDesc -/
def k8 : Class := { plain "java/lang/constant/ConstantDesc" (some 0) with
  accessFlags := 1537
  interfaces := #[]
  cf := some (fileOf pool8 1 #[] #[] 1537 3 #[] #[])
  fields := #[]
  methods := #[]
  instanceTypes := #[]
  staticTypes := #[]
  resolved := Array.replicate 37 none
  statics := none }

def pool9 : Array CpInfo := pool [(1, .methodref 2 3), (0, .class_ 4), (0, .nameAndType 5 6), (0, u "java/lang/Object"), (0, u "<init>"), (0, u "()V"), (2, .fieldref 10 11), (0, .class_ 12), (0, .nameAndType 13 14), (0, u "java/lang/String"), (0, u "value"), (0, u "[B"), (0, .fieldref 10 16), (0, .nameAndType 17 18), (0, u "coder"), (0, u "B"), (2, u "hash"), (0, u "I"), (2, u "hashIsZero"), (0, u "Z"), (0, .methodref 10 28), (0, .nameAndType 5 29), (0, u "([CIILjava/lang/Void;)V"), (8, .fieldref 10 39), (0, .nameAndType 40 26), (0, u "COMPACT_STRINGS"), (1, .class_ 44), (1, u "java/lang/StringUTF16"), (0, u "compress"), (1, .methodref 42 48), (0, .nameAndType 49 50), (0, u "coderFromArrayLen"), (0, u "([BI)B"), (56, .class_ 109), (1, u "java/lang/StringLatin1"), (32, u "()Z"), (34, .methodref 42 178), (0, .nameAndType 45 179), (0, u "([CII)[B"), (154, u "()I"), (0, .methodref 10 336), (0, .nameAndType 17 337), (0, u "()B"), (25, u "([BI)C"), (27, u "(II)V"), (35, u "(I)C"), (64, .methodref 10 493), (0, .nameAndType 494 142), (0, u "isLatin1"), (0, .methodref 107 496), (0, .nameAndType 497 363), (0, u "charAt"), (3, u "checkIndex"), (5, u "length"), (33, .methodref 107 542), (0, .nameAndType 543 544), (0, u "equals"), (0, u "([B[B)Z"), (28, u "(Ljava/lang/Object;)Z"), (1, .class_ 576), (0, u "java/lang/CharSequence"), (22, u "CASE_INSENSITIVE_ORDER"), (0, u "Ljava/util/Comparator;"), (409, u "([C)V"), (42, .fieldref 1054 1055), (0, .class_ 1056), (0, .nameAndType 1057 1058), (0, u "jdk/internal/util/Preconditions"), (0, u "SIOOBE_FORMATTER"), (0, u "Ljava/util/function/BiFunction;"), (0, .methodref 1054 1060), (0, .nameAndType 501 1061), (0, u "(IILjava/util/function/BiFunction;)I"), (39, u "serialPersistentFields"), (0, u "[Ljava/io/ObjectStreamField;"), (0, .class_ 1104), (0, u "java/lang/String$CaseInsensitiveComparator"), (1, .class_ 1107), (0, u "java/io/Serializable"), (0, .class_ 1109), (0, u "java/lang/Comparable"), (0, .class_ 1111), (0, u "java/lang/constant/Constable"), (0, .class_ 1113), (0, u "java/lang/constant/ConstantDesc"), (2, u "serialVersionUID"), (0, u "J"), (3, u "REPL"), (0, u "C"), (2, u "LATIN1"), (1, u "UTF16")] 323

def k9m0 : Method := { name := "<init>", desc := "()V", sig := { parameters := [], returnType := none }, accessFlags := 1, code := none }
def k9c1 : Code := { maxStack := 5, maxLocals := 2, code := jdk_42_method_3_code, exceptionTable := #[], attributes := #[] }
def k9m1 : Method := { name := "<init>", desc := "([C)V", sig := { parameters := [(.array .char)], returnType := none }, accessFlags := 1, code := some k9c1 }
def k9c2 : Code := { maxStack := 2, maxLocals := 1, code := jdk_42_method_54_code, exceptionTable := #[], attributes := #[] }
def k9m2 : Method := { name := "length", desc := "()I", sig := { parameters := [], returnType := some .int }, accessFlags := 1, code := some k9c2 }
def k9c3 : Code := { maxStack := 2, maxLocals := 2, code := jdk_42_method_56_code, exceptionTable := #[], attributes := #[] }
def k9m3 : Method := { name := "charAt", desc := "(I)C", sig := { parameters := [.int], returnType := some .char }, accessFlags := 1, code := some k9c3 }
def k9c4 : Code := { maxStack := 2, maxLocals := 3, code := jdk_42_method_66_code, exceptionTable := #[], attributes := #[] }
def k9m4 : Method := { name := "equals", desc := "(Ljava/lang/Object;)Z", sig := { parameters := [(.object "java/lang/Object")], returnType := some .boolean }, accessFlags := 1, code := some k9c4 }
def k9c5 : Code := { maxStack := 4, maxLocals := 6, code := jdk_42_method_149_code, exceptionTable := #[], attributes := #[] }
def k9m5 : Method := { name := "<init>", desc := "([CIILjava/lang/Void;)V", sig := { parameters := [(.array .char), .int, .int, (.object "java/lang/Void")], returnType := none }, accessFlags := 2, code := some k9c5 }
def k9c6 : Code := { maxStack := 1, maxLocals := 1, code := jdk_42_method_152_code, exceptionTable := #[], attributes := #[] }
def k9m6 : Method := { name := "coder", desc := "()B", sig := { parameters := [], returnType := some .byte }, accessFlags := 0, code := some k9c6 }
def k9c7 : Code := { maxStack := 1, maxLocals := 1, code := jdk_42_method_154_code, exceptionTable := #[], attributes := #[] }
def k9m7 : Method := { name := "isLatin1", desc := "()Z", sig := { parameters := [], returnType := some .boolean }, accessFlags := 0, code := some k9c7 }
def k9c8 : Code := { maxStack := 3, maxLocals := 2, code := jdk_42_method_155_code, exceptionTable := #[], attributes := #[] }
def k9m8 : Method := { name := "checkIndex", desc := "(II)V", sig := { parameters := [.int, .int], returnType := none }, accessFlags := 8, code := some k9c8 }
/-- java/lang/String -/
def k9 : Class := { plain "java/lang/String" (some 0) with
  accessFlags := 49
  interfaces := #[4, 3, 7, 2, 8]
  cf := some (fileOf pool9 10 #[.nestMembers #[1103]] #[{ accessFlags := 1, nameIndex := 5, descriptorIndex := 6, attributes := #[] }, { accessFlags := 1, nameIndex := 5, descriptorIndex := 1010, attributes := #[] }, { accessFlags := 1, nameIndex := 507, descriptorIndex := 334, attributes := #[] }, { accessFlags := 1, nameIndex := 497, descriptorIndex := 427, attributes := #[] }, { accessFlags := 1, nameIndex := 543, descriptorIndex := 573, attributes := #[] }, { accessFlags := 2, nameIndex := 5, descriptorIndex := 29, attributes := #[] }, { accessFlags := 0, nameIndex := 17, descriptorIndex := 337, attributes := #[] }, { accessFlags := 0, nameIndex := 494, descriptorIndex := 142, attributes := #[] }, { accessFlags := 8, nameIndex := 501, descriptorIndex := 391, attributes := #[] }] 49 2 #[1106, 1108, 575, 1110, 1112] #[{ accessFlags := 18, nameIndex := 13, descriptorIndex := 14, attributes := #[] }, { accessFlags := 18, nameIndex := 17, descriptorIndex := 18, attributes := #[] }, { accessFlags := 2, nameIndex := 21, descriptorIndex := 22, attributes := #[] }, { accessFlags := 2, nameIndex := 25, descriptorIndex := 26, attributes := #[] }, { accessFlags := 26, nameIndex := 1116, descriptorIndex := 1117, attributes := #[] }, { accessFlags := 24, nameIndex := 40, descriptorIndex := 26, attributes := #[] }, { accessFlags := 26, nameIndex := 1101, descriptorIndex := 1102, attributes := #[] }, { accessFlags := 26, nameIndex := 1121, descriptorIndex := 1122, attributes := #[] }, { accessFlags := 25, nameIndex := 599, descriptorIndex := 600, attributes := #[] }, { accessFlags := 24, nameIndex := 1125, descriptorIndex := 18, attributes := #[] }, { accessFlags := 24, nameIndex := 1127, descriptorIndex := 18, attributes := #[] }])
  fields := #[{ name := "value", type := (.array .byte), accessFlags := 18, slot := 0, constantValue := 0 }, { name := "coder", type := .byte, accessFlags := 18, slot := 1, constantValue := 0 }, { name := "hash", type := .int, accessFlags := 2, slot := 2, constantValue := 0 }, { name := "hashIsZero", type := .boolean, accessFlags := 2, slot := 3, constantValue := 0 }, { name := "serialVersionUID", type := .long, accessFlags := 26, slot := 0, constantValue := 0 }, { name := "COMPACT_STRINGS", type := .boolean, accessFlags := 24, slot := 1, constantValue := 0 }, { name := "serialPersistentFields", type := (.array (.object "java/io/ObjectStreamField")), accessFlags := 26, slot := 2, constantValue := 0 }, { name := "REPL", type := .char, accessFlags := 26, slot := 3, constantValue := 0 }, { name := "CASE_INSENSITIVE_ORDER", type := (.object "java/util/Comparator"), accessFlags := 25, slot := 4, constantValue := 0 }, { name := "LATIN1", type := .byte, accessFlags := 24, slot := 5, constantValue := 0 }, { name := "UTF16", type := .byte, accessFlags := 24, slot := 6, constantValue := 0 }]
  methods := #[k9m0, k9m1, k9m2, k9m3, k9m4, k9m5, k9m6, k9m7, k9m8]
  instanceTypes := #[(.array .byte), .byte, .int, .boolean]
  staticTypes := #[.long, .boolean, (.array (.object "java/io/ObjectStreamField")), .char, (.object "java/util/Comparator"), .byte, .byte]
  resolved := Array.replicate 1451 none
  statics := some 1 }

def pool10 : Array CpInfo := pool [(6, .class_ 8), (1, u "java/lang/Object"), (0, u "<init>"), (0, u "()V"), (1, .class_ 14), (1, u "java/lang/StringUTF16"), (31, u "$assertionsDisabled"), (0, u "Z"), (13, u "HI_BYTE_SHIFT"), (0, u "I"), (2, u "LO_BYTE_SHIFT"), (49, .methodref 12 116), (0, .nameAndType 117 118), (0, u "compress"), (0, u "([CI[BII)I"), (3, u "([CII)[B"), (138, u "coderFromArrayLen"), (0, u "([BI)B"), (106, .class_ 371), (1, u "java/lang/StringUTF16$LinesSpliterator"), (58, u "MAX_LENGTH"), (196, .class_ 628), (0, u "java/lang/StringUTF16$CodePointsSpliterator"), (0, .class_ 630), (0, u "java/lang/StringUTF16$CharsSpliterator")] 4

def k10m0 : Method := { name := "<init>", desc := "()V", sig := { parameters := [], returnType := none }, accessFlags := 0, code := none }
def k10c1 : Code := { maxStack := 2, maxLocals := 2, code := jdk_52_method_15_code, exceptionTable := #[], attributes := #[] }
def k10m1 : Method := { name := "coderFromArrayLen", desc := "([BI)B", sig := { parameters := [(.array .byte), .int], returnType := some .byte }, accessFlags := 8, code := some k10c1 }
def k10c2 : Code := { maxStack := 5, maxLocals := 6, code := jdk_52_method_16_code, exceptionTable := #[], attributes := #[] }
def k10m2 : Method := { name := "compress", desc := "([CII)[B", sig := { parameters := [(.array .char), .int, .int], returnType := some (.array .byte) }, accessFlags := 9, code := some k10c2 }
def k10c3 : Code := { maxStack := 3, maxLocals := 7, code := jdk_52_method_21_code, exceptionTable := #[], attributes := #[] }
def k10m3 : Method := { name := "compress", desc := "([CI[BII)I", sig := { parameters := [(.array .char), .int, (.array .byte), .int, .int], returnType := some .int }, accessFlags := 9, code := some k10c3 }
/-- java/lang/StringUTF16 -/
def k10 : Class := { plain "java/lang/StringUTF16" (some 0) with
  accessFlags := 48
  interfaces := #[]
  cf := some (fileOf pool10 12 #[.nestMembers #[627, 629, 369]] #[{ accessFlags := 0, nameIndex := 9, descriptorIndex := 10, attributes := #[] }, { accessFlags := 8, nameIndex := 261, descriptorIndex := 262, attributes := #[] }, { accessFlags := 9, nameIndex := 117, descriptorIndex := 122, attributes := #[] }, { accessFlags := 9, nameIndex := 117, descriptorIndex := 118, attributes := #[] }] 48 6 #[] #[{ accessFlags := 26, nameIndex := 61, descriptorIndex := 62, attributes := #[] }, { accessFlags := 26, nameIndex := 65, descriptorIndex := 62, attributes := #[] }, { accessFlags := 24, nameIndex := 430, descriptorIndex := 62, attributes := #[] }, { accessFlags := 4120, nameIndex := 46, descriptorIndex := 47, attributes := #[] }])
  fields := #[{ name := "HI_BYTE_SHIFT", type := .int, accessFlags := 26, slot := 0, constantValue := 0 }, { name := "LO_BYTE_SHIFT", type := .int, accessFlags := 26, slot := 1, constantValue := 0 }, { name := "MAX_LENGTH", type := .int, accessFlags := 24, slot := 2, constantValue := 0 }, { name := "$assertionsDisabled", type := .boolean, accessFlags := 4120, slot := 3, constantValue := 0 }]
  methods := #[k10m0, k10m1, k10m2, k10m3]
  instanceTypes := #[]
  staticTypes := #[.int, .int, .int, .boolean]
  resolved := Array.replicate 635 none
  statics := none }

def pool11 : Array CpInfo := pool [(1, .methodref 2 3), (0, .class_ 4), (0, .nameAndType 5 6), (0, u "java/lang/Object"), (0, u "<init>"), (0, u "()V"), (0, .methodref 8 9), (0, .class_ 10), (0, .nameAndType 11 12), (0, u "com/example/campo_grande/campogrande/SignatureAlgorithm"), (0, u "isSignature"), (0, u "(Ljava/lang/String;)Z"), (3, .class_ 18), (1, u "java/lang/String"), (9, .fieldref 29 30), (0, .class_ 31), (0, .nameAndType 32 33), (0, u "com/example/campo_grande/campogrande/PayloadDigest"), (0, u "algorithm"), (0, u "Lcom/example/campo_grande/campogrande/SignatureAlgorithm;"), (0, .fieldref 29 35), (0, .nameAndType 36 37), (0, u "signature"), (0, u "Ljava/lang/String;"), (41, u "(Lcom/example/campo_grande/campogrande/SignatureAlgorithm;Ljava/lang/String;)V"), (27, .methodref 16 108), (0, .nameAndType 109 110), (0, u "equals"), (0, u "(Ljava/lang/Object;)Z"), (45, u "BASE32"), (1, u "BITS_PER_DIGIT"), (0, u "I")] 30

def k11c0 : Code := { maxStack := 3, maxLocals := 3, code := prog_21_method_1_code, exceptionTable := #[], attributes := #[] }
def k11m0 : Method := { name := "<init>", desc := "(Lcom/example/campo_grande/campogrande/SignatureAlgorithm;Ljava/lang/String;)V", sig := { parameters := [(.object "com/example/campo_grande/campogrande/SignatureAlgorithm"), (.object "java/lang/String")], returnType := none }, accessFlags := 0, code := some k11c0 }
def k11c1 : Code := { maxStack := 2, maxLocals := 3, code := prog_21_method_5_code, exceptionTable := #[], attributes := #[] }
def k11m1 : Method := { name := "equals", desc := "(Ljava/lang/Object;)Z", sig := { parameters := [(.object "java/lang/Object")], returnType := some .boolean }, accessFlags := 1, code := some k11c1 }
/-- com/example/campo_grande/campogrande/PayloadDigest -/
def k11 : Class := { plain "com/example/campo_grande/campogrande/PayloadDigest" (some 0) with
  accessFlags := 48
  interfaces := #[]
  cf := some (fileOf pool11 29 #[] #[{ accessFlags := 0, nameIndex := 5, descriptorIndex := 79, attributes := #[] }, { accessFlags := 1, nameIndex := 109, descriptorIndex := 110, attributes := #[] }] 48 2 #[] #[{ accessFlags := 26, nameIndex := 156, descriptorIndex := 37, attributes := #[] }, { accessFlags := 26, nameIndex := 158, descriptorIndex := 159, attributes := #[] }, { accessFlags := 18, nameIndex := 32, descriptorIndex := 33, attributes := #[] }, { accessFlags := 18, nameIndex := 36, descriptorIndex := 37, attributes := #[] }])
  fields := #[{ name := "BASE32", type := (.object "java/lang/String"), accessFlags := 26, slot := 0, constantValue := 0 }, { name := "BITS_PER_DIGIT", type := .int, accessFlags := 26, slot := 1, constantValue := 0 }, { name := "algorithm", type := (.object "com/example/campo_grande/campogrande/SignatureAlgorithm"), accessFlags := 18, slot := 0, constantValue := 0 }, { name := "signature", type := (.object "java/lang/String"), accessFlags := 18, slot := 1, constantValue := 0 }]
  methods := #[k11m0, k11m1]
  instanceTypes := #[(.object "com/example/campo_grande/campogrande/SignatureAlgorithm"), (.object "java/lang/String")]
  staticTypes := #[(.object "java/lang/String"), .int]
  resolved := Array.replicate 190 none
  statics := none }

def pool12 : Array CpInfo := pool [(1, .class_ 2), (0, u "java/lang/String"), (1, .class_ 6), (1, u "java/lang/Object"), (0, u "<init>"), (0, u "()V"), (0, .methodref 1 10), (0, .nameAndType 11 12), (0, u "checkIndex"), (0, u "(II)V"), (1, .class_ 16), (1, u "java/lang/StringLatin1"), (36, u "([BI)C"), (67, u "$assertionsDisabled"), (0, u "Z"), (98, .class_ 223), (1, u "java/lang/StringLatin1$LinesSpliterator"), (28, u "charAt"), (28, u "equals"), (0, u "([B[B)Z"), (107, .class_ 391), (0, u "java/lang/StringLatin1$CharsSpliterator")] 3

def k12m0 : Method := { name := "<init>", desc := "()V", sig := { parameters := [], returnType := none }, accessFlags := 0, code := none }
def k12c1 : Code := { maxStack := 2, maxLocals := 2, code := jdk_43_method_2_code, exceptionTable := #[], attributes := #[] }
def k12m1 : Method := { name := "charAt", desc := "([BI)C", sig := { parameters := [(.array .byte), .int], returnType := some .char }, accessFlags := 9, code := some k12c1 }
def k12c2 : Code := { maxStack := 3, maxLocals := 3, code := jdk_43_method_13_code, exceptionTable := #[], attributes := #[] }
def k12m2 : Method := { name := "equals", desc := "([B[B)Z", sig := { parameters := [(.array .byte), (.array .byte)], returnType := some .boolean }, accessFlags := 9, code := some k12c2 }
/-- java/lang/StringLatin1 -/
def k12 : Class := { plain "java/lang/StringLatin1" (some 0) with
  accessFlags := 48
  interfaces := #[]
  cf := some (fileOf pool12 14 #[.nestMembers #[390, 221]] #[{ accessFlags := 0, nameIndex := 7, descriptorIndex := 8, attributes := #[] }, { accessFlags := 9, nameIndex := 252, descriptorIndex := 53, attributes := #[] }, { accessFlags := 9, nameIndex := 281, descriptorIndex := 282, attributes := #[] }] 48 4 #[] #[{ accessFlags := 4120, nameIndex := 121, descriptorIndex := 122, attributes := #[] }])
  fields := #[{ name := "$assertionsDisabled", type := .boolean, accessFlags := 4120, slot := 0, constantValue := 0 }]
  methods := #[k12m0, k12m1, k12m2]
  instanceTypes := #[]
  staticTypes := #[.boolean]
  resolved := Array.replicate 395 none
  statics := none }

def pool13 : Array CpInfo := pool [(2, .class_ 4), (1, u "java/lang/Object"), (0, u "<init>"), (0, u "()V"), (17, .class_ 26), (1, u "jdk/internal/util/Preconditions"), (6, u "checkIndex"), (21, .class_ 56), (0, u "jdk/internal/util/Preconditions$4"), (57, .class_ 115), (0, u "jdk/internal/util/Preconditions$1"), (7, u "SIOOBE_FORMATTER"), (0, u "Ljava/util/function/BiFunction;"), (0, .class_ 126), (0, u "jdk/internal/util/Preconditions$2"), (3, u "AIOOBE_FORMATTER"), (0, .class_ 132), (0, u "jdk/internal/util/Preconditions$3"), (3, u "IOOBE_FORMATTER"), (41, u "(IILjava/util/function/BiFunction;)I")] 15

def k13m0 : Method := { name := "<init>", desc := "()V", sig := { parameters := [], returnType := none }, accessFlags := 1, code := none }
def k13c1 : Code := { maxStack := 3, maxLocals := 3, code := jdk_41_method_11_code, exceptionTable := #[], attributes := #[] }
def k13m1 : Method := { name := "checkIndex", desc := "(IILjava/util/function/BiFunction;)I", sig := { parameters := [.int, .int, (.object "java/util/function/BiFunction")], returnType := some .int }, accessFlags := 9, code := some k13c1 }
/-- jdk/internal/util/Preconditions -/
def k13 : Class := { plain "jdk/internal/util/Preconditions" (some 0) with
  accessFlags := 33
  interfaces := #[]
  cf := some (fileOf pool13 24 #[.nestMembers #[55, 131, 125, 114]] #[{ accessFlags := 1, nameIndex := 5, descriptorIndex := 6, attributes := #[] }, { accessFlags := 9, nameIndex := 33, descriptorIndex := 178, attributes := #[] }] 33 2 #[] #[{ accessFlags := 25, nameIndex := 123, descriptorIndex := 124, attributes := #[] }, { accessFlags := 25, nameIndex := 130, descriptorIndex := 124, attributes := #[] }, { accessFlags := 25, nameIndex := 136, descriptorIndex := 124, attributes := #[] }])
  fields := #[{ name := "SIOOBE_FORMATTER", type := (.object "java/util/function/BiFunction"), accessFlags := 25, slot := 0, constantValue := 0 }, { name := "AIOOBE_FORMATTER", type := (.object "java/util/function/BiFunction"), accessFlags := 25, slot := 1, constantValue := 0 }, { name := "IOOBE_FORMATTER", type := (.object "java/util/function/BiFunction"), accessFlags := 25, slot := 2, constantValue := 0 }]
  methods := #[k13m0, k13m1]
  instanceTypes := #[]
  staticTypes := #[(.object "java/util/function/BiFunction"), (.object "java/util/function/BiFunction"), (.object "java/util/function/BiFunction")]
  resolved := Array.replicate 194 none
  statics := some 2 }

def pool14 : Array CpInfo := pool [(1, .methodref 2 3), (0, .class_ 4), (0, .nameAndType 5 6), (0, u "java/lang/Object"), (0, u "<init>"), (0, u "()V"), (0, .string 8), (0, u "algorithm"), (0, .methodref 10 11), (0, .class_ 12), (0, .nameAndType 13 14), (0, u "java/util/Objects"), (0, u "requireNonNull"), (0, u "(Ljava/lang/Object;Ljava/lang/String;)Ljava/lang/Object;"), (0, .string 16), (0, u "signature"), (3, .class_ 22), (1, u "com/example/campo_grande/campogrande/ContentKey"), (2, .methodref 26 27), (0, .class_ 28), (0, .nameAndType 29 30), (0, u "com/example/campo_grande/campogrande/SignatureAlgorithm"), (0, u "isSignature"), (0, u "(Ljava/lang/String;)Z"), (16, .fieldref 20 48), (0, .nameAndType 49 50), (0, u "volume"), (0, u "I"), (0, .fieldref 20 52), (0, .nameAndType 8 53), (0, u "Lcom/example/campo_grande/campogrande/SignatureAlgorithm;"), (0, .fieldref 20 55), (0, .nameAndType 16 56), (0, u "Ljava/lang/String;"), (0, .fieldref 20 58), (0, .nameAndType 59 50), (0, u "overflow"), (32, u "(ILcom/example/campo_grande/campogrande/SignatureAlgorithm;Ljava/lang/String;I)V")] 83

def k14c0 : Code := { maxStack := 2, maxLocals := 5, code := prog_13_method_1_code, exceptionTable := #[], attributes := #[] }
def k14m0 : Method := { name := "<init>", desc := "(ILcom/example/campo_grande/campogrande/SignatureAlgorithm;Ljava/lang/String;I)V", sig := { parameters := [.int, (.object "com/example/campo_grande/campogrande/SignatureAlgorithm"), (.object "java/lang/String"), .int], returnType := none }, accessFlags := 1, code := some k14c0 }
/-- com/example/campo_grande/campogrande/ContentKey -/
def k14 : Class := { plain "com/example/campo_grande/campogrande/ContentKey" (some 0) with
  accessFlags := 49
  interfaces := #[]
  cf := some (fileOf pool14 20 #[] #[{ accessFlags := 1, nameIndex := 5, descriptorIndex := 92, attributes := #[] }] 49 2 #[] #[{ accessFlags := 18, nameIndex := 49, descriptorIndex := 50, attributes := #[] }, { accessFlags := 18, nameIndex := 8, descriptorIndex := 53, attributes := #[] }, { accessFlags := 18, nameIndex := 16, descriptorIndex := 56, attributes := #[] }, { accessFlags := 18, nameIndex := 59, descriptorIndex := 50, attributes := #[] }])
  fields := #[{ name := "volume", type := .int, accessFlags := 18, slot := 0, constantValue := 0 }, { name := "algorithm", type := (.object "com/example/campo_grande/campogrande/SignatureAlgorithm"), accessFlags := 18, slot := 1, constantValue := 0 }, { name := "signature", type := (.object "java/lang/String"), accessFlags := 18, slot := 2, constantValue := 0 }, { name := "overflow", type := .int, accessFlags := 18, slot := 3, constantValue := 0 }]
  methods := #[k14m0]
  instanceTypes := #[.int, (.object "com/example/campo_grande/campogrande/SignatureAlgorithm"), (.object "java/lang/String"), .int]
  staticTypes := #[]
  resolved := Array.replicate 176 none
  statics := none }

def pool15 : Array CpInfo := pool [(2, .class_ 4), (1, u "java/lang/Object"), (0, u "<init>"), (0, u "()V"), (35, .class_ 44), (1, u "java/util/Objects"), (0, u "requireNonNull"), (48, u "(Ljava/lang/Object;Ljava/lang/String;)Ljava/lang/Object;")] 89

def k15m0 : Method := { name := "<init>", desc := "()V", sig := { parameters := [], returnType := none }, accessFlags := 2, code := none }
def k15c1 : Code := { maxStack := 3, maxLocals := 2, code := jdk_31_method_11_code, exceptionTable := #[], attributes := #[] }
def k15m1 : Method := { name := "requireNonNull", desc := "(Ljava/lang/Object;Ljava/lang/String;)Ljava/lang/Object;", sig := { parameters := [(.object "java/lang/Object"), (.object "java/lang/String")], returnType := some (.object "java/lang/Object") }, accessFlags := 9, code := some k15c1 }
/-- java/util/Objects -/
def k15 : Class := { plain "java/util/Objects" (some 0) with
  accessFlags := 49
  interfaces := #[]
  cf := some (fileOf pool15 42 #[] #[{ accessFlags := 2, nameIndex := 5, descriptorIndex := 6, attributes := #[] }, { accessFlags := 9, nameIndex := 45, descriptorIndex := 94, attributes := #[] }] 49 2 #[] #[])
  fields := #[]
  methods := #[k15m0, k15m1]
  instanceTypes := #[]
  staticTypes := #[]
  resolved := Array.replicate 184 none
  statics := none }

def pool16 : Array CpInfo := pool [(9, u "<init>"), (6, .class_ 18), (1, u "java/lang/Object"), (0, u "()V"), (1, .class_ 23), (1, u "jdk/internal/util/ArraysSupport"), (0, u "LOG2_ARRAY_LONG_INDEX_SCALE"), (0, u "I"), (2, u "U"), (0, u "Ljdk/internal/misc/Unsafe;"), (8, u "BIG_ENDIAN"), (0, u "Z"), (8, u "LOG2_BYTE_BIT_SIZE"), (4, u "LOG2_ARRAY_INT_INDEX_SCALE"), (54, u "JLA"), (0, u "Ljdk/internal/access/JavaLangAccess;"), (11, u "LOG2_ARRAY_BOOLEAN_INDEX_SCALE"), (9, u "LOG2_ARRAY_BYTE_INDEX_SCALE"), (5, u "LOG2_ARRAY_CHAR_INDEX_SCALE"), (5, u "LOG2_ARRAY_SHORT_INDEX_SCALE"), (18, u "LOG2_ARRAY_FLOAT_INDEX_SCALE"), (24, u "LOG2_ARRAY_DOUBLE_INDEX_SCALE"), (89, u "T_BOOLEAN"), (2, u "T_CHAR"), (1, u "T_FLOAT"), (1, u "T_DOUBLE"), (1, u "T_BYTE"), (1, u "T_SHORT"), (1, u "T_INT"), (1, u "T_LONG"), (1, u "SOFT_MAX_ARRAY_LENGTH")] 83

def k16m0 : Method := { name := "<init>", desc := "()V", sig := { parameters := [], returnType := none }, accessFlags := 2, code := none }
/-- jdk/internal/util/ArraysSupport -/
def k16 : Class := { plain "jdk/internal/util/ArraysSupport" (some 0) with
  accessFlags := 33
  interfaces := #[]
  cf := some (fileOf pool16 21 #[] #[{ accessFlags := 2, nameIndex := 9, descriptorIndex := 19, attributes := #[] }] 33 16 #[] #[{ accessFlags := 24, nameIndex := 28, descriptorIndex := 29, attributes := #[] }, { accessFlags := 26, nameIndex := 38, descriptorIndex := 39, attributes := #[] }, { accessFlags := 25, nameIndex := 121, descriptorIndex := 25, attributes := #[] }, { accessFlags := 25, nameIndex := 131, descriptorIndex := 25, attributes := #[] }, { accessFlags := 25, nameIndex := 137, descriptorIndex := 25, attributes := #[] }, { accessFlags := 25, nameIndex := 143, descriptorIndex := 25, attributes := #[] }, { accessFlags := 25, nameIndex := 53, descriptorIndex := 25, attributes := #[] }, { accessFlags := 25, nameIndex := 24, descriptorIndex := 25, attributes := #[] }, { accessFlags := 25, nameIndex := 162, descriptorIndex := 25, attributes := #[] }, { accessFlags := 25, nameIndex := 187, descriptorIndex := 25, attributes := #[] }, { accessFlags := 26, nameIndex := 48, descriptorIndex := 25, attributes := #[] }, { accessFlags := 25, nameIndex := 277, descriptorIndex := 25, attributes := #[] }, { accessFlags := 25, nameIndex := 280, descriptorIndex := 25, attributes := #[] }, { accessFlags := 25, nameIndex := 282, descriptorIndex := 25, attributes := #[] }, { accessFlags := 25, nameIndex := 284, descriptorIndex := 25, attributes := #[] }, { accessFlags := 25, nameIndex := 286, descriptorIndex := 25, attributes := #[] }, { accessFlags := 25, nameIndex := 288, descriptorIndex := 25, attributes := #[] }, { accessFlags := 25, nameIndex := 290, descriptorIndex := 25, attributes := #[] }, { accessFlags := 25, nameIndex := 292, descriptorIndex := 25, attributes := #[] }, { accessFlags := 26, nameIndex := 108, descriptorIndex := 109, attributes := #[] }, { accessFlags := 25, nameIndex := 294, descriptorIndex := 25, attributes := #[] }])
  fields := #[{ name := "U", type := (.object "jdk/internal/misc/Unsafe"), accessFlags := 24, slot := 0, constantValue := 0 }, { name := "BIG_ENDIAN", type := .boolean, accessFlags := 26, slot := 1, constantValue := 0 }, { name := "LOG2_ARRAY_BOOLEAN_INDEX_SCALE", type := .int, accessFlags := 25, slot := 2, constantValue := 0 }, { name := "LOG2_ARRAY_BYTE_INDEX_SCALE", type := .int, accessFlags := 25, slot := 3, constantValue := 0 }, { name := "LOG2_ARRAY_CHAR_INDEX_SCALE", type := .int, accessFlags := 25, slot := 4, constantValue := 0 }, { name := "LOG2_ARRAY_SHORT_INDEX_SCALE", type := .int, accessFlags := 25, slot := 5, constantValue := 0 }, { name := "LOG2_ARRAY_INT_INDEX_SCALE", type := .int, accessFlags := 25, slot := 6, constantValue := 0 }, { name := "LOG2_ARRAY_LONG_INDEX_SCALE", type := .int, accessFlags := 25, slot := 7, constantValue := 0 }, { name := "LOG2_ARRAY_FLOAT_INDEX_SCALE", type := .int, accessFlags := 25, slot := 8, constantValue := 0 }, { name := "LOG2_ARRAY_DOUBLE_INDEX_SCALE", type := .int, accessFlags := 25, slot := 9, constantValue := 0 }, { name := "LOG2_BYTE_BIT_SIZE", type := .int, accessFlags := 26, slot := 10, constantValue := 0 }, { name := "T_BOOLEAN", type := .int, accessFlags := 25, slot := 11, constantValue := 0 }, { name := "T_CHAR", type := .int, accessFlags := 25, slot := 12, constantValue := 0 }, { name := "T_FLOAT", type := .int, accessFlags := 25, slot := 13, constantValue := 0 }, { name := "T_DOUBLE", type := .int, accessFlags := 25, slot := 14, constantValue := 0 }, { name := "T_BYTE", type := .int, accessFlags := 25, slot := 15, constantValue := 0 }, { name := "T_SHORT", type := .int, accessFlags := 25, slot := 16, constantValue := 0 }, { name := "T_INT", type := .int, accessFlags := 25, slot := 17, constantValue := 0 }, { name := "T_LONG", type := .int, accessFlags := 25, slot := 18, constantValue := 0 }, { name := "JLA", type := (.object "jdk/internal/access/JavaLangAccess"), accessFlags := 26, slot := 19, constantValue := 0 }, { name := "SOFT_MAX_ARRAY_LENGTH", type := .int, accessFlags := 25, slot := 20, constantValue := 0 }]
  methods := #[k16m0]
  instanceTypes := #[]
  staticTypes := #[(.object "jdk/internal/misc/Unsafe"), .boolean, .int, .int, .int, .int, .int, .int, .int, .int, .int, .int, .int, .int, .int, .int, .int, .int, .int, (.object "jdk/internal/access/JavaLangAccess"), .int]
  resolved := Array.replicate 378 none
  statics := none }

def pool17 : Array CpInfo := pool [(1, u "java/lang/Cloneable"), (0, .class_ 1), (0, u "java/lang/Object"), (0, .class_ 3)] 3

/-- java/lang/Cloneable -/
def k17 : Class := { plain "java/lang/Cloneable" (some 0) with
  accessFlags := 1537
  interfaces := #[]
  cf := some (fileOf pool17 2 #[] #[] 1537 4 #[] #[])
  fields := #[]
  methods := #[]
  instanceTypes := #[]
  staticTypes := #[]
  resolved := Array.replicate 8 none
  statics := none }

/-- the primitive byte -/
def k18 : Class := { plain "byte" none with kind := .primitive 'B', accessFlags := 0x411 }
/-- [B -/
def k19 : Class := { plain "[B" (some 0) with kind := .array 18 .byte, interfaces := #[17, 4], accessFlags := 1041 }

/-- the primitive char -/
def k20 : Class := { plain "char" none with kind := .primitive 'C', accessFlags := 0x411 }
/-- [C -/
def k21 : Class := { plain "[C" (some 0) with kind := .array 20 .char, interfaces := #[17, 4], accessFlags := 1041 }

/-- the primitive int -/
def k22 : Class := { plain "int" none with kind := .primitive 'I', accessFlags := 0x411 }
/-- [I -/
def k23 : Class := { plain "[I" (some 0) with kind := .array 22 .int, interfaces := #[17, 4], accessFlags := 1041 }

def heap : Heap := #[{ cls := 6, slots := #[.ref 3, .ref 4, .ref 5, .null], vm := .statics 6 },
  { cls := 9, slots := #[.long 0, .int 1, .null, .int 0, .null, .int 0, .int 0], vm := .statics 9 },
  { cls := 13, slots := #[.null, .null, .null], vm := .statics 13 },
  { cls := 6, slots := #[.null, .int 0, .int 0, .null, .null, .int 32], vm := .none },
  { cls := 6, slots := #[.null, .int 1, .int 0, .null, .null, .int 20], vm := .none },
  { cls := 6, slots := #[.null, .int 2, .int 0, .null, .null, .int 16], vm := .none }]
def classes : Array Class := #[k0, k1, k2, k3, k4, k5, k6, k7, k8, k9, k10, k11, k12, k13, k14, k15, k16, k17, k18, k19, k20, k21, k22, k23]
def interned : List (Array UInt16 × Addr) := []
def slotsUsed : Nat := 32
def theMethod : MethodId := ⟨1, 1⟩
def args0 : Array Value := #[.int 5, .int 5, .int 5, .int 5, .int 5]
def aboutOver (below : List Frame) : State where
  vm := { classes := classes, interned := interned.toArray }
  heap := heap
  slotsUsed := slotsUsed
  threads := #[{ frames := .invoking theMethod args0 :: below }]
def below0 : List Frame := [.native { method := ⟨0, 0⟩, args := #[] }]
def about1 : State := aboutOver below0
def p0 : Program := .bare "" "" ""
def e0 : Env := launch0.env 0 0 0
theorem w_frames : about1.frames = Frame.invoking theMethod args0 :: below0 := rfl
set_option maxRecDepth 65536 in
theorem w_args : argsFit about1.vm theMethod args0 = true := by decide +kernel
set_option maxRecDepth 65536 in
theorem w_heap : heapFits about1 = true := by decide +kernel
set_option maxRecDepth 65536 in
theorem w_runnable : about1.curStatus? = some .runnable := by decide +kernel
set_option maxRecDepth 65536 in
theorem w_alone : about1.alone = true := by decide +kernel
set_option maxRecDepth 65536 in
theorem w_named : about1.methodNamed? x = some theMethod := by decide +kernel
set_option maxRecDepth 65536 in
theorem w_hears : about1.hears theMethod below0 = true := by decide +kernel
set_option maxRecDepth 65536 in
theorem w_ripe : about1.ripe theMethod args0 below0 = true := by decide +kernel
theorem w_running : about1.status = .running := rfl
set_option maxRecDepth 65536 in
theorem w_room : about1.hasRoom e0.platform room_1 = true :=
  launch0.hasRoom_least _ room_1 (by decide +kernel) (by decide +kernel) (by decide +kernel) (by decide +kernel) (by decide +kernel) (by decide +kernel)
theorem allAtoms_all (ts : List Jvm.Cond) (a : Array Jvm.Value) (st : Jvm.State) : (allAtoms ts).before a st = ts.all (fun c => c.before a st) := by
  induction ts with
  | nil => rfl
  | cons c t ih =>
    show (Jvm.Cond.and c (allAtoms t)).before a st = _
    rw [Jvm.Cond.before_and, ih, List.all_cons]
def words1 : List Jvm.Cond := Jvm.Cond.code x code maxLocals ret :: tables_1
/-- a 'code' word, met by the world's own term for the bytes: nothing is compared byte by byte -/
theorem code_word {y : MethodName} {bytes : ByteArray} {mx : Nat} {rt : Option FieldType} {a : Array Value} {s : State} {m : MethodId} {meth : Method} {c : Code} (h1 : s.methodNamed? y = some m) (h2 : s.vm.method? m = some meth) (h3 : meth.code = some c) (h4 : c.code = bytes)
    (h5 : (c.maxLocals == mx && c.exceptionTable.isEmpty && decide (c.maxStack ≤ mostOperands) && decide (meth.sig.returnType = rt) && !meth.locks && decide (parseMethodDescriptor y.desc = some meth.sig)) = true) : (Jvm.Cond.code y bytes mx rt).before a s = true := by
  simp only [Bool.and_eq_true, beq_iff_eq, Bool.not_eq_true', decide_eq_true_eq] at h5
  obtain ⟨⟨⟨⟨⟨g1, g2⟩, g3⟩, g4⟩, g5⟩, g6⟩ := h5
  simp [Cond.before, Cond.holds, Cond.value, h1, h2, h3, h4, g1, g2, g3, g4, g5, g6]
def isCode : Jvm.Cond → Bool
  | .code _ _ _ _ => true
  | _ => false
theorem all_split {L : List Jvm.Cond} {P : Jvm.Cond → Bool} (h1 : L.all (fun c => isCode c || P c) = true) (h2 : ∀ c ∈ L.filter isCode, P c = true) : L.all P = true := by
  refine List.all_eq_true.mpr fun c hc => ?_
  have h := List.all_eq_true.mp h1 c hc
  rcases Bool.eq_false_or_eq_true (isCode c) with hi | hi
  · exact h2 c (List.mem_filter.mpr ⟨hc, hi⟩)
  · simpa [hi] using h
set_option maxRecDepth 65536 in
theorem w_c0 : (Jvm.Cond.code x code maxLocals ret).before args0 about1 = true := code_word (m := ⟨1, 1⟩) (meth := k1m1) (c := k1c1) (by decide +kernel) rfl rfl rfl (by decide +kernel)
set_option maxRecDepth 65536 in
theorem w_c1 : (Jvm.Cond.code ({ cls := "com/example/campo_grande/campogrande/PayloadDigestEqualsPinLaw", name := "index", desc := "(I)I" } : Jvm.MethodName) method_3_code (1 : Nat) (Option.some Jvm.ClassFile.FieldType.int)).before args0 about1 = true := code_word (m := ⟨1, 2⟩) (meth := k1m2) (c := k1c2) (by decide +kernel) rfl rfl rfl (by decide +kernel)
set_option maxRecDepth 65536 in
theorem w_c2 : (Jvm.Cond.code ({ cls := "com/example/campo_grande/campogrande/PayloadDigestEqualsPinLaw", name := "algorithm", desc := "(I)Lcom/example/campo_grande/campogrande/SignatureAlgorithm;" } : Jvm.MethodName) method_4_code (1 : Nat) (Option.some (Jvm.ClassFile.FieldType.object "com/example/campo_grande/campogrande/SignatureAlgorithm"))).before args0 about1 = true := code_word (m := ⟨1, 3⟩) (meth := k1m3) (c := k1c3) (by decide +kernel) rfl rfl rfl (by decide +kernel)
set_option maxRecDepth 65536 in
theorem w_c3 : (Jvm.Cond.code ({ cls := "com/example/campo_grande/campogrande/PayloadDigestEqualsPinLaw", name := "length", desc := "(I)I" } : Jvm.MethodName) method_5_code (1 : Nat) (Option.some Jvm.ClassFile.FieldType.int)).before args0 about1 = true := code_word (m := ⟨1, 4⟩) (meth := k1m4) (c := k1c4) (by decide +kernel) rfl rfl rfl (by decide +kernel)
set_option maxRecDepth 65536 in
theorem w_c4 : (Jvm.Cond.code ({ cls := "com/example/campo_grande/campogrande/PayloadDigestEqualsPinLaw", name := "hex", desc := "(I)C" } : Jvm.MethodName) method_6_code (2 : Nat) (Option.some Jvm.ClassFile.FieldType.char)).before args0 about1 = true := code_word (m := ⟨1, 5⟩) (meth := k1m5) (c := k1c5) (by decide +kernel) rfl rfl rfl (by decide +kernel)
set_option maxRecDepth 65536 in
theorem w_c5 : (Jvm.Cond.code ({ cls := "com/example/campo_grande/campogrande/PayloadDigestEqualsPinLaw", name := "filled", desc := "(IC)[C" } : Jvm.MethodName) method_7_code (2 : Nat) (Option.some (Jvm.ClassFile.FieldType.array Jvm.ClassFile.FieldType.char))).before args0 about1 = true := code_word (m := ⟨1, 6⟩) (meth := k1m6) (c := k1c6) (by decide +kernel) rfl rfl rfl (by decide +kernel)
set_option maxRecDepth 65536 in
theorem w_c6 : (Jvm.Cond.code ({ cls := "java/lang/String", name := "<init>", desc := "([C)V" } : Jvm.MethodName) jdk_42_method_3_code (2 : Nat) (Option.none : Option Jvm.ClassFile.FieldType)).before args0 about1 = true := code_word (m := ⟨9, 1⟩) (meth := k9m1) (c := k9c1) (by decide +kernel) rfl rfl rfl (by decide +kernel)
set_option maxRecDepth 65536 in
theorem w_c7 : (Jvm.Cond.code ({ cls := "java/lang/String", name := "<init>", desc := "([CIILjava/lang/Void;)V" } : Jvm.MethodName) jdk_42_method_149_code (6 : Nat) (Option.none : Option Jvm.ClassFile.FieldType)).before args0 about1 = true := code_word (m := ⟨9, 5⟩) (meth := k9m5) (c := k9c5) (by decide +kernel) rfl rfl rfl (by decide +kernel)
set_option maxRecDepth 65536 in
theorem w_c8 : (Jvm.Cond.code ({ cls := "java/lang/Object", name := "<init>", desc := "()V" } : Jvm.MethodName) object_method_1_code (1 : Nat) (Option.none : Option Jvm.ClassFile.FieldType)).before args0 about1 = true := code_word (m := ⟨0, 0⟩) (meth := k0m0) (c := k0c0) (by decide +kernel) rfl rfl rfl (by decide +kernel)
set_option maxRecDepth 65536 in
theorem w_c9 : (Jvm.Cond.code ({ cls := "java/lang/StringUTF16", name := "compress", desc := "([CII)[B" } : Jvm.MethodName) jdk_52_method_16_code (6 : Nat) (Option.some (Jvm.ClassFile.FieldType.array Jvm.ClassFile.FieldType.byte))).before args0 about1 = true := code_word (m := ⟨10, 2⟩) (meth := k10m2) (c := k10c2) (by decide +kernel) rfl rfl rfl (by decide +kernel)
set_option maxRecDepth 65536 in
theorem w_c10 : (Jvm.Cond.code ({ cls := "java/lang/StringUTF16", name := "compress", desc := "([CI[BII)I" } : Jvm.MethodName) jdk_52_method_21_code (7 : Nat) (Option.some Jvm.ClassFile.FieldType.int)).before args0 about1 = true := code_word (m := ⟨10, 3⟩) (meth := k10m3) (c := k10c3) (by decide +kernel) rfl rfl rfl (by decide +kernel)
set_option maxRecDepth 65536 in
theorem w_c11 : (Jvm.Cond.code ({ cls := "java/lang/StringUTF16", name := "coderFromArrayLen", desc := "([BI)B" } : Jvm.MethodName) jdk_52_method_15_code (2 : Nat) (Option.some Jvm.ClassFile.FieldType.byte)).before args0 about1 = true := code_word (m := ⟨10, 1⟩) (meth := k10m1) (c := k10c1) (by decide +kernel) rfl rfl rfl (by decide +kernel)
set_option maxRecDepth 65536 in
theorem w_c12 : (Jvm.Cond.code ({ cls := "com/example/campo_grande/campogrande/PayloadDigest", name := "<init>", desc := "(Lcom/example/campo_grande/campogrande/SignatureAlgorithm;Ljava/lang/String;)V" } : Jvm.MethodName) prog_21_method_1_code (3 : Nat) (Option.none : Option Jvm.ClassFile.FieldType)).before args0 about1 = true := code_word (m := ⟨11, 0⟩) (meth := k11m0) (c := k11c0) (by decide +kernel) rfl rfl rfl (by decide +kernel)
set_option maxRecDepth 65536 in
theorem w_c13 : (Jvm.Cond.code ({ cls := "com/example/campo_grande/campogrande/SignatureAlgorithm", name := "isSignature", desc := "(Ljava/lang/String;)Z" } : Jvm.MethodName) prog_25_method_6_code (4 : Nat) (Option.some Jvm.ClassFile.FieldType.boolean)).before args0 about1 = true := code_word (m := ⟨6, 0⟩) (meth := k6m0) (c := k6c0) (by decide +kernel) rfl rfl rfl (by decide +kernel)
set_option maxRecDepth 65536 in
theorem w_c14 : (Jvm.Cond.code ({ cls := "java/lang/String", name := "length", desc := "()I" } : Jvm.MethodName) jdk_42_method_54_code (1 : Nat) (Option.some Jvm.ClassFile.FieldType.int)).before args0 about1 = true := code_word (m := ⟨9, 2⟩) (meth := k9m2) (c := k9c2) (by decide +kernel) rfl rfl rfl (by decide +kernel)
set_option maxRecDepth 65536 in
theorem w_c15 : (Jvm.Cond.code ({ cls := "java/lang/String", name := "coder", desc := "()B" } : Jvm.MethodName) jdk_42_method_152_code (1 : Nat) (Option.some Jvm.ClassFile.FieldType.byte)).before args0 about1 = true := code_word (m := ⟨9, 6⟩) (meth := k9m6) (c := k9c6) (by decide +kernel) rfl rfl rfl (by decide +kernel)
set_option maxRecDepth 65536 in
theorem w_c16 : (Jvm.Cond.code ({ cls := "java/lang/String", name := "charAt", desc := "(I)C" } : Jvm.MethodName) jdk_42_method_56_code (2 : Nat) (Option.some Jvm.ClassFile.FieldType.char)).before args0 about1 = true := code_word (m := ⟨9, 3⟩) (meth := k9m3) (c := k9c3) (by decide +kernel) rfl rfl rfl (by decide +kernel)
set_option maxRecDepth 65536 in
theorem w_c17 : (Jvm.Cond.code ({ cls := "java/lang/String", name := "isLatin1", desc := "()Z" } : Jvm.MethodName) jdk_42_method_154_code (1 : Nat) (Option.some Jvm.ClassFile.FieldType.boolean)).before args0 about1 = true := code_word (m := ⟨9, 7⟩) (meth := k9m7) (c := k9c7) (by decide +kernel) rfl rfl rfl (by decide +kernel)
set_option maxRecDepth 65536 in
theorem w_c18 : (Jvm.Cond.code ({ cls := "java/lang/StringLatin1", name := "charAt", desc := "([BI)C" } : Jvm.MethodName) jdk_43_method_2_code (2 : Nat) (Option.some Jvm.ClassFile.FieldType.char)).before args0 about1 = true := code_word (m := ⟨12, 1⟩) (meth := k12m1) (c := k12c1) (by decide +kernel) rfl rfl rfl (by decide +kernel)
set_option maxRecDepth 65536 in
theorem w_c19 : (Jvm.Cond.code ({ cls := "java/lang/String", name := "checkIndex", desc := "(II)V" } : Jvm.MethodName) jdk_42_method_155_code (2 : Nat) (Option.none : Option Jvm.ClassFile.FieldType)).before args0 about1 = true := code_word (m := ⟨9, 8⟩) (meth := k9m8) (c := k9c8) (by decide +kernel) rfl rfl rfl (by decide +kernel)
set_option maxRecDepth 65536 in
theorem w_c20 : (Jvm.Cond.code ({ cls := "jdk/internal/util/Preconditions", name := "checkIndex", desc := "(IILjava/util/function/BiFunction;)I" } : Jvm.MethodName) jdk_41_method_11_code (3 : Nat) (Option.some Jvm.ClassFile.FieldType.int)).before args0 about1 = true := code_word (m := ⟨13, 1⟩) (meth := k13m1) (c := k13c1) (by decide +kernel) rfl rfl rfl (by decide +kernel)
set_option maxRecDepth 65536 in
theorem w_c21 : (Jvm.Cond.code ({ cls := "com/example/campo_grande/campogrande/ContentKey", name := "<init>", desc := "(ILcom/example/campo_grande/campogrande/SignatureAlgorithm;Ljava/lang/String;I)V" } : Jvm.MethodName) prog_13_method_1_code (5 : Nat) (Option.none : Option Jvm.ClassFile.FieldType)).before args0 about1 = true := code_word (m := ⟨14, 0⟩) (meth := k14m0) (c := k14c0) (by decide +kernel) rfl rfl rfl (by decide +kernel)
set_option maxRecDepth 65536 in
theorem w_c22 : (Jvm.Cond.code ({ cls := "java/util/Objects", name := "requireNonNull", desc := "(Ljava/lang/Object;Ljava/lang/String;)Ljava/lang/Object;" } : Jvm.MethodName) jdk_31_method_11_code (2 : Nat) (Option.some (Jvm.ClassFile.FieldType.object "java/lang/Object"))).before args0 about1 = true := code_word (m := ⟨15, 1⟩) (meth := k15m1) (c := k15c1) (by decide +kernel) rfl rfl rfl (by decide +kernel)
set_option maxRecDepth 65536 in
theorem w_c23 : (Jvm.Cond.code ({ cls := "com/example/campo_grande/campogrande/PayloadDigest", name := "equals", desc := "(Ljava/lang/Object;)Z" } : Jvm.MethodName) prog_21_method_5_code (3 : Nat) (Option.some Jvm.ClassFile.FieldType.boolean)).before args0 about1 = true := code_word (m := ⟨11, 1⟩) (meth := k11m1) (c := k11c1) (by decide +kernel) rfl rfl rfl (by decide +kernel)
set_option maxRecDepth 65536 in
theorem w_c24 : (Jvm.Cond.code ({ cls := "java/lang/String", name := "equals", desc := "(Ljava/lang/Object;)Z" } : Jvm.MethodName) jdk_42_method_66_code (3 : Nat) (Option.some Jvm.ClassFile.FieldType.boolean)).before args0 about1 = true := code_word (m := ⟨9, 4⟩) (meth := k9m4) (c := k9c4) (by decide +kernel) rfl rfl rfl (by decide +kernel)
set_option maxRecDepth 65536 in
theorem w_c25 : (Jvm.Cond.code ({ cls := "java/lang/StringLatin1", name := "equals", desc := "([B[B)Z" } : Jvm.MethodName) jdk_43_method_13_code (3 : Nat) (Option.some Jvm.ClassFile.FieldType.boolean)).before args0 about1 = true := code_word (m := ⟨12, 2⟩) (meth := k12m2) (c := k12c2) (by decide +kernel) rfl rfl rfl (by decide +kernel)
def codes1 : List Jvm.Cond := [Jvm.Cond.code x code maxLocals ret, Jvm.Cond.code ({ cls := "com/example/campo_grande/campogrande/PayloadDigestEqualsPinLaw", name := "index", desc := "(I)I" } : Jvm.MethodName) method_3_code (1 : Nat) (Option.some Jvm.ClassFile.FieldType.int), Jvm.Cond.code ({ cls := "com/example/campo_grande/campogrande/PayloadDigestEqualsPinLaw", name := "algorithm", desc := "(I)Lcom/example/campo_grande/campogrande/SignatureAlgorithm;" } : Jvm.MethodName) method_4_code (1 : Nat) (Option.some (Jvm.ClassFile.FieldType.object "com/example/campo_grande/campogrande/SignatureAlgorithm")), Jvm.Cond.code ({ cls := "com/example/campo_grande/campogrande/PayloadDigestEqualsPinLaw", name := "length", desc := "(I)I" } : Jvm.MethodName) method_5_code (1 : Nat) (Option.some Jvm.ClassFile.FieldType.int), Jvm.Cond.code ({ cls := "com/example/campo_grande/campogrande/PayloadDigestEqualsPinLaw", name := "hex", desc := "(I)C" } : Jvm.MethodName) method_6_code (2 : Nat) (Option.some Jvm.ClassFile.FieldType.char), Jvm.Cond.code ({ cls := "com/example/campo_grande/campogrande/PayloadDigestEqualsPinLaw", name := "filled", desc := "(IC)[C" } : Jvm.MethodName) method_7_code (2 : Nat) (Option.some (Jvm.ClassFile.FieldType.array Jvm.ClassFile.FieldType.char)), Jvm.Cond.code ({ cls := "java/lang/String", name := "<init>", desc := "([C)V" } : Jvm.MethodName) jdk_42_method_3_code (2 : Nat) (Option.none : Option Jvm.ClassFile.FieldType), Jvm.Cond.code ({ cls := "java/lang/String", name := "<init>", desc := "([CIILjava/lang/Void;)V" } : Jvm.MethodName) jdk_42_method_149_code (6 : Nat) (Option.none : Option Jvm.ClassFile.FieldType), Jvm.Cond.code ({ cls := "java/lang/Object", name := "<init>", desc := "()V" } : Jvm.MethodName) object_method_1_code (1 : Nat) (Option.none : Option Jvm.ClassFile.FieldType), Jvm.Cond.code ({ cls := "java/lang/StringUTF16", name := "compress", desc := "([CII)[B" } : Jvm.MethodName) jdk_52_method_16_code (6 : Nat) (Option.some (Jvm.ClassFile.FieldType.array Jvm.ClassFile.FieldType.byte)), Jvm.Cond.code ({ cls := "java/lang/StringUTF16", name := "compress", desc := "([CI[BII)I" } : Jvm.MethodName) jdk_52_method_21_code (7 : Nat) (Option.some Jvm.ClassFile.FieldType.int), Jvm.Cond.code ({ cls := "java/lang/StringUTF16", name := "coderFromArrayLen", desc := "([BI)B" } : Jvm.MethodName) jdk_52_method_15_code (2 : Nat) (Option.some Jvm.ClassFile.FieldType.byte), Jvm.Cond.code ({ cls := "com/example/campo_grande/campogrande/PayloadDigest", name := "<init>", desc := "(Lcom/example/campo_grande/campogrande/SignatureAlgorithm;Ljava/lang/String;)V" } : Jvm.MethodName) prog_21_method_1_code (3 : Nat) (Option.none : Option Jvm.ClassFile.FieldType), Jvm.Cond.code ({ cls := "com/example/campo_grande/campogrande/SignatureAlgorithm", name := "isSignature", desc := "(Ljava/lang/String;)Z" } : Jvm.MethodName) prog_25_method_6_code (4 : Nat) (Option.some Jvm.ClassFile.FieldType.boolean), Jvm.Cond.code ({ cls := "java/lang/String", name := "length", desc := "()I" } : Jvm.MethodName) jdk_42_method_54_code (1 : Nat) (Option.some Jvm.ClassFile.FieldType.int), Jvm.Cond.code ({ cls := "java/lang/String", name := "coder", desc := "()B" } : Jvm.MethodName) jdk_42_method_152_code (1 : Nat) (Option.some Jvm.ClassFile.FieldType.byte), Jvm.Cond.code ({ cls := "java/lang/String", name := "charAt", desc := "(I)C" } : Jvm.MethodName) jdk_42_method_56_code (2 : Nat) (Option.some Jvm.ClassFile.FieldType.char), Jvm.Cond.code ({ cls := "java/lang/String", name := "isLatin1", desc := "()Z" } : Jvm.MethodName) jdk_42_method_154_code (1 : Nat) (Option.some Jvm.ClassFile.FieldType.boolean), Jvm.Cond.code ({ cls := "java/lang/StringLatin1", name := "charAt", desc := "([BI)C" } : Jvm.MethodName) jdk_43_method_2_code (2 : Nat) (Option.some Jvm.ClassFile.FieldType.char), Jvm.Cond.code ({ cls := "java/lang/String", name := "checkIndex", desc := "(II)V" } : Jvm.MethodName) jdk_42_method_155_code (2 : Nat) (Option.none : Option Jvm.ClassFile.FieldType), Jvm.Cond.code ({ cls := "jdk/internal/util/Preconditions", name := "checkIndex", desc := "(IILjava/util/function/BiFunction;)I" } : Jvm.MethodName) jdk_41_method_11_code (3 : Nat) (Option.some Jvm.ClassFile.FieldType.int), Jvm.Cond.code ({ cls := "com/example/campo_grande/campogrande/ContentKey", name := "<init>", desc := "(ILcom/example/campo_grande/campogrande/SignatureAlgorithm;Ljava/lang/String;I)V" } : Jvm.MethodName) prog_13_method_1_code (5 : Nat) (Option.none : Option Jvm.ClassFile.FieldType), Jvm.Cond.code ({ cls := "java/util/Objects", name := "requireNonNull", desc := "(Ljava/lang/Object;Ljava/lang/String;)Ljava/lang/Object;" } : Jvm.MethodName) jdk_31_method_11_code (2 : Nat) (Option.some (Jvm.ClassFile.FieldType.object "java/lang/Object")), Jvm.Cond.code ({ cls := "com/example/campo_grande/campogrande/PayloadDigest", name := "equals", desc := "(Ljava/lang/Object;)Z" } : Jvm.MethodName) prog_21_method_5_code (3 : Nat) (Option.some Jvm.ClassFile.FieldType.boolean), Jvm.Cond.code ({ cls := "java/lang/String", name := "equals", desc := "(Ljava/lang/Object;)Z" } : Jvm.MethodName) jdk_42_method_66_code (3 : Nat) (Option.some Jvm.ClassFile.FieldType.boolean), Jvm.Cond.code ({ cls := "java/lang/StringLatin1", name := "equals", desc := "([B[B)Z" } : Jvm.MethodName) jdk_43_method_13_code (3 : Nat) (Option.some Jvm.ClassFile.FieldType.boolean)]
set_option maxRecDepth 65536 in
theorem codes_eq : words1.filter isCode = codes1 := rfl
theorem w_codes : ∀ c ∈ words1.filter isCode, c.before args0 about1 = true := by
  rw [codes_eq]
  intro c hc
  simp only [codes1, List.mem_cons, List.not_mem_nil, or_false] at hc
  rcases hc with rfl | rfl | rfl | rfl | rfl | rfl | rfl | rfl | rfl | rfl | rfl | rfl | rfl | rfl | rfl | rfl | rfl | rfl | rfl | rfl | rfl | rfl | rfl | rfl | rfl | rfl
  · exact w_c0
  · exact w_c1
  · exact w_c2
  · exact w_c3
  · exact w_c4
  · exact w_c5
  · exact w_c6
  · exact w_c7
  · exact w_c8
  · exact w_c9
  · exact w_c10
  · exact w_c11
  · exact w_c12
  · exact w_c13
  · exact w_c14
  · exact w_c15
  · exact w_c16
  · exact w_c17
  · exact w_c18
  · exact w_c19
  · exact w_c20
  · exact w_c21
  · exact w_c22
  · exact w_c23
  · exact w_c24
  · exact w_c25
set_option maxRecDepth 65536 in
theorem w_t1 : (words1.take 24).all (fun c => isCode c || c.before args0 about1) = true := by decide +kernel
set_option maxRecDepth 65536 in
theorem w_t2 : ((words1.drop 24).take 24).all (fun c => isCode c || c.before args0 about1) = true := by decide +kernel
set_option maxRecDepth 65536 in
theorem w_t3 : (((words1.drop 24).drop 24).take 24).all (fun c => isCode c || c.before args0 about1) = true := by decide +kernel
set_option maxRecDepth 65536 in
theorem w_t4 : ((((words1.drop 24).drop 24).drop 24).take 24).all (fun c => isCode c || c.before args0 about1) = true := by decide +kernel
set_option maxRecDepth 65536 in
theorem w_t5 : (((((words1.drop 24).drop 24).drop 24).drop 24).take 24).all (fun c => isCode c || c.before args0 about1) = true := by decide +kernel
set_option maxRecDepth 65536 in
theorem w_t6 : ((((((words1.drop 24).drop 24).drop 24).drop 24).drop 24).take 24).all (fun c => isCode c || c.before args0 about1) = true := by decide +kernel
set_option maxRecDepth 65536 in
theorem w_t7 : ((((((words1.drop 24).drop 24).drop 24).drop 24).drop 24).drop 24).all (fun c => isCode c || c.before args0 about1) = true := by decide +kernel
theorem w_tables : (allAtoms (Jvm.Cond.code x code maxLocals ret :: tables_1)).before args0 about1 = true := by
  rw [allAtoms_all]
  show words1.all (fun c => c.before args0 about1) = true
  refine all_split ?_ w_codes
  rw [← List.take_append_drop 24 words1, List.all_append, w_t1, ← List.take_append_drop 24 (words1.drop 24), List.all_append, w_t2, ← List.take_append_drop 24 ((words1.drop 24).drop 24), List.all_append, w_t3, ← List.take_append_drop 24 (((words1.drop 24).drop 24).drop 24), List.all_append, w_t4, ← List.take_append_drop 24 ((((words1.drop 24).drop 24).drop 24).drop 24), List.all_append, w_t5, ← List.take_append_drop 24 (((((words1.drop 24).drop 24).drop 24).drop 24).drop 24), List.all_append, w_t6, w_t7]
  rfl
set_option maxRecDepth 65536 in
theorem w_rest : rest_1_c.before args0 about1 = true := by decide +kernel
set_option maxRecDepth 65536 in
theorem w_case : (Jvm.Cond.and given_1 narrow_1).before args0 about1 = true := by decide +kernel
theorem w_applies : (headSpec (Jvm.Cond.code x code maxLocals ret :: tables_1) room_1).applies x e0.platform about1 = true :=
  (Spec.applies_iff w_frames).mpr ⟨w_running, w_runnable, w_alone, w_named, w_hears, w_ripe, w_room, w_tables⟩
theorem atStart : AtStart classFile x code maxLocals ret World_1 tables_1 room_1 Calls_1 rest_1 Pre_1 launch0 p0 e0 about1 theMethod args0 below0 :=
  ⟨lists_1, trivial, launch0.admits_env _ _ _, launch0.least_env, fairChoices_fair.cas, fairChoices_fair.clock, w_frames, w_args, w_heap, w_applies, trivial, w_rest, w_case⟩
end start1
theorem witness_1 : WitnessClaimed_1 := ⟨start1.p0, start1.e0, start1.about1, start1.theMethod, start1.args0, start1.below0, start1.atStart⟩
end Jvm.Pilot.@@N@@
