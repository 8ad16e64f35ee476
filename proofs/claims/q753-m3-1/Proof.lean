import JvmDerived
import JvmDerived.Pilot.@@N@@Statement
import JvmDerived.Pilot.@@N@@Code
set_option linter.unusedVariables false
set_option linter.unusedSimpArgs false

namespace Jvm.Pilot.@@N@@
namespace Own
open Jvm Jvm.ClassFile Sem Op Lib Bundle Jvm.Free Jvm.Stand Jvm.LawKit Jvm.RoadKit
section Own
variable {l : Launch} {Z : State} {EL : List (String × Nat)} {y : MethodName} {bytes : ByteArray} {maxL : Nat} {ret : Option FieldType} {R : Room} {B0 : Addr → Prop} {Q : Option Value → Heap → (Addr → Prop) → Prop} {p : Program} {e : Env} {s : State} {m : MethodId} {args : Array Value} {below : List Frame} {meth : Method} {c : Code} {B : Addr → Prop} {T : State} {h h' : Heap} {k n : Nat} {a0 : Array Value} {pc pc' : Nat} {ls ls' : Array Slot} {st : List Value} {a b : Addr} {ws : List Addr} {ty : FieldType} {vs : List Value}
/-! facts on arrays and Strings -/
def Ar (Z : State) (h : Heap) (a : Addr) (ty : FieldType) (vs : List Value) : Prop := ∃ c : Cell, Arr Z h a c ty ∧ c.slots.toList = vs ∧ vs.length < 2 ^ 31 ∧ ∀ v ∈ vs, fits ty v = true
theorem Ar.keep (F : Ar Z h a ty vs) (K : Keep h h' ws) (q : a ∉ ws) : Ar Z h' a ty vs := by
  obtain ⟨c, A, r⟩ := F; exact ⟨c, ⟨K.2.1 a c A.1 q, A.2⟩, r⟩
theorem Ar.lt (F : Ar Z h a ty vs) : a < h.size := by obtain ⟨c, A, -⟩ := F; exact A.lt
theorem Ar.new {kc : ClassId} {z : Int32} (A : Arr Z h a (newA kc ty z) ty) (q : ¬ z < 0) : Ar Z h a ty (List.replicate z.toNatClampNeg (defaultValue ty)) :=
  ⟨_, A, by simp [newA], by simpa using (back32 q).2, fun v hv => by rw [List.eq_of_mem_replicate hv]; cases ty <;> rfl⟩
theorem len32 {n : Nat} (h : n < 2 ^ 31) : ¬ n.toInt32 < 0 ∧ n.toInt32.toNatClampNeg = n ∧ n.toInt32.toInt = n := by
  have e3 : n.toInt32.toInt = n := len_toInt h
  have e0 : (0 : Int32).toInt = 0 := rfl
  refine ⟨by rw [Int32.lt_iff_toInt_lt, e3, e0]; omega, by simp only [Int32.toNatClampNeg, e3]; omega, e3⟩
theorem Ar.toArv {z : Int32} (F : Ar Z h a ty vs) (hz : vs.length.toInt32 = z) (d : Value) : ∃ k, Arv Z h a k ty z vs d := by
  obtain ⟨c, A, e, hl, hf⟩ := F
  subst hz
  obtain ⟨q1, q2, -⟩ := len32 hl
  have e2 : c.slots.size = vs.length := by rw [← e]; simp
  refine ⟨c.cls, c, A, rfl, by rw [e2, q2], q1, fun i hi => ?_, fun i hi => ?_⟩
  · have hi' : i < vs.length := by omega
    rw [← Array.getElem?_toList, e, List.getD_eq_getElem?_getD, List.getElem?_eq_getElem hi']; rfl
  · have hi' : i < vs.length := by omega
    rw [List.getD_eq_getElem?_getD, List.getElem?_eq_getElem hi']; exact hf _ (List.getElem_mem _)
theorem Ar.ofArv {kc : ClassId} {z : Int32} {d : Value} (F : Arv Z h a kc ty z vs d) (hl : z.toNatClampNeg = vs.length) : Ar Z h a ty vs := by
  obtain ⟨c, A, -, S, q, H, G⟩ := F
  have e2 : c.slots.size = vs.length := by rw [S, hl]
  have e3 : c.slots.toList = vs := by
    apply List.ext_getElem?
    intro i
    by_cases hi : i < vs.length
    · rw [Array.getElem?_toList, H i (by omega), List.getD_eq_getElem?_getD, List.getElem?_eq_getElem hi]; rfl
    · rw [List.getElem?_eq_none (by rw [Array.length_toList]; omega), List.getElem?_eq_none (by omega)]
  refine ⟨c, A, e3, by rw [← hl]; exact (back32 q).2, fun v hv => ?_⟩
  obtain ⟨i, hi, rfl⟩ := List.getElem_of_mem hv
  have := G i (by omega)
  rwa [List.getD_eq_getElem?_getD, List.getElem?_eq_getElem hi] at this
theorem Ar.len_lt (F : Ar Z h a ty vs) : vs.length < 2 ^ 31 := by obtain ⟨c, A, e, hl, hf⟩ := F; exact hl
theorem Ar.fit (F : Ar Z h a ty vs) : ∀ v ∈ vs, fits ty v = true := by obtain ⟨c, A, e, hl, hf⟩ := F; exact hf
abbrev ST : String := "java/lang/String"
/-- bytes of Latin-1 chars -/
abbrev by8 (cs : List Int32) : List Value := cs.map fun c => Value.int c.toInt8.toInt32
def Lat (cs : List Int32) : Prop := ∀ c ∈ cs, 0 ≤ c.toInt ∧ c.toInt ≤ 255
/-- a is a String of the Latin-1 chars cs, its bytes in b -/
def Str (Z : State) (h : Heap) (a b : Addr) (cs : List Int32) : Prop := Exa Z h a ST ∧ Fld Z h a ST "coder" "B" (.int 0) ∧ Fld Z h a ST "value" "[B" (.ref b) ∧ Ar Z h b .byte (by8 cs) ∧ Lat cs
theorem Str.keep {cs : List Int32} (F : Str Z h a b cs) (K : Keep h h' ws) (q : a ∉ ws) (q' : b ∉ ws) : Str Z h' a b cs := ⟨F.1.keep K, F.2.1.keep K q, F.2.2.1.keep K q, F.2.2.2.1.keep K q', F.2.2.2.2⟩
theorem Str.exa {cs : List Int32} (F : Str Z h a b cs) : Exa Z h a ST := F.1
theorem Str.cod {cs : List Int32} (F : Str Z h a b cs) : Fld Z h a ST "coder" "B" (.int 0) := F.2.1
theorem Str.val {cs : List Int32} (F : Str Z h a b cs) : Fld Z h a ST "value" "[B" (.ref b) := F.2.2.1
theorem Str.arr {cs : List Int32} (F : Str Z h a b cs) : Ar Z h b .byte (by8 cs) := F.2.2.2.1
theorem Str.lat {cs : List Int32} (F : Str Z h a b cs) : Lat cs := F.2.2.2.2
theorem Str.lt {cs : List Int32} (F : Str Z h a b cs) : a < h.size := F.1.lt
theorem Str.ltb {cs : List Int32} (F : Str Z h a b cs) : b < h.size := F.arr.lt
theorem Str.len_lt {cs : List Int32} (F : Str Z h a b cs) : cs.length < 2 ^ 31 := by simpa using F.arr.len_lt
theorem strc {cs ds : List Int32} (F : Str Z h a b cs) (q : cs = ds) : Str Z h a b ds := q ▸ F
theorem Ar.ext (E : Ext h h') (F : Ar Z h a ty vs) : Ar Z h' a ty vs := by obtain ⟨c, A, r⟩ := F; exact ⟨c, A.ext E, r⟩
theorem Str.ext {cs : List Int32} (E : Ext h h') (F : Str Z h a b cs) : Str Z h' a b cs := ⟨F.1.ext E, F.2.1.ext E, F.2.2.1.ext E, F.2.2.2.1.ext E, F.2.2.2.2⟩
abbrev ASB : String := "java/lang/AbstractStringBuilder"
/-- a is a StringBuilder that holds the Latin-1 chars cs, in the array v of length cap -/
def Sb (Z : State) (h : Heap) (a v : Addr) (cs : List Int32) (cap : Nat) : Prop := Exa Z h a "java/lang/StringBuilder" ∧ Fld Z h a ASB "value" "[B" (.ref v) ∧ Fld Z h a ASB "coder" "B" (.int 0) ∧ Fld Z h a ASB "count" "I" (.int cs.length.toInt32) ∧ Lat cs ∧ cs.length ≤ cap ∧ ∃ vs, Ar Z h v .byte vs ∧ vs.length = cap ∧ vs.take cs.length = by8 cs
theorem Sb.keep {v : Addr} {cs : List Int32} {cap : Nat} (F : Sb Z h a v cs cap) (K : Keep h h' ws) (q : a ∉ ws) (q' : v ∉ ws) : Sb Z h' a v cs cap := by
  obtain ⟨h1, h2, h3, h4, h5, h6, vs, h7, h8⟩ := F
  exact ⟨h1.keep K, h2.keep K q, h3.keep K q, h4.keep K q, h5, h6, vs, h7.keep K q', h8⟩
theorem Sb.exa {v : Addr} {cs : List Int32} {cap : Nat} (F : Sb Z h a v cs cap) : Exa Z h a "java/lang/StringBuilder" := F.1
theorem Sb.val {v : Addr} {cs : List Int32} {cap : Nat} (F : Sb Z h a v cs cap) : Fld Z h a ASB "value" "[B" (.ref v) := F.2.1
theorem Sb.cod {v : Addr} {cs : List Int32} {cap : Nat} (F : Sb Z h a v cs cap) : Fld Z h a ASB "coder" "B" (.int 0) := F.2.2.1
theorem Sb.cnt {v : Addr} {cs : List Int32} {cap : Nat} (F : Sb Z h a v cs cap) : Fld Z h a ASB "count" "I" (.int cs.length.toInt32) := F.2.2.2.1
theorem Sb.lat {v : Addr} {cs : List Int32} {cap : Nat} (F : Sb Z h a v cs cap) : Lat cs := F.2.2.2.2.1
theorem Sb.lt {v : Addr} {cs : List Int32} {cap : Nat} (F : Sb Z h a v cs cap) : a < h.size := F.1.lt
theorem Sb.ltb {v : Addr} {cs : List Int32} {cap : Nat} (F : Sb Z h a v cs cap) : v < h.size := by obtain ⟨h1, h2, h3, h4, h5, h6, vs, h7, h8⟩ := F; exact h7.lt
/-- the array at a takes objects of class C -/
def Tk (Z : State) (h : Heap) (a : Addr) (C : String) : Prop := ∃ (c : Cell) (ty : FieldType), Arr Z h a c ty ∧ Ovr Z c.cls C
theorem Tk.keep {C : String} (F : Tk Z h a C) (K : Keep h h' ws) : Tk Z h' a C := by
  obtain ⟨c, ty, ⟨h1, ⟨s1, k1, s2, comp, s3⟩, h3⟩, O⟩ := F
  obtain ⟨c', q1, q2, q3, q4⟩ := K.2.2 a c h1
  exact ⟨c', ty, ⟨q1, ⟨by rw [q3]; exact s1, k1, by rw [q2]; exact s2, comp, s3⟩, by rw [q3]; exact h3⟩, by rw [q2]; exact O⟩
theorem exa_ne_ar {C : String} {kI : Nat} (E : Exa Z h a C) (wi : (Jvm.Cond.instantiable C kI).before a0 Z = true) (A : Ar Z h b ty vs) : a ≠ b := by obtain ⟨c, A, -⟩ := A; exact ne_arr E wi A
theorem ar_ne {ty' : FieldType} {vs' : List Value} (A : Ar Z h a ty vs) (A' : Ar Z h b ty' vs') (ht : ty ≠ ty') : a ≠ b := fun q => by
  subst q
  obtain ⟨c, ⟨h1, ⟨-, k1, h2, c1, h3⟩, -⟩, -⟩ := A
  obtain ⟨c', ⟨g1, ⟨-, k2, g2, c2, g3⟩, -⟩, -⟩ := A'
  cases h1.symm.trans g1
  cases h2.symm.trans g2
  have := h3.symm.trans g3
  injection this with _ e
  exact ht e
theorem ltb {a b : Nat} (q : Nat.ble (a + 1) b = true) : a < b := Nat.le_of_ble_eq_true q
theorem leb {a b : Nat} (q : Nat.ble a b = true) : a ≤ b := Nat.le_of_ble_eq_true q
/-! where the walk stands -/
def En (Z : State) (B : Addr → Prop) (h : Heap) : Prop := Ext Z.heap h ∧ ∀ x, B x → x < h.size
def Wk (l : Launch) (Z : State) (EL : List (String × Nat)) (y : MethodName) (bytes : ByteArray) (maxL : Nat) (ret : Option FieldType) (R : Room) (B0 : Addr → Prop) (p : Program) (e : Env) (s : State) (m : MethodId) (args : Array Value) (below : List Frame) (meth : Method) (c : Code) (B : Addr → Prop) (T : State) (h : Heap) (k n : Nat) : Prop :=
  (p.tables.exec = Jvm.exec ∧ c.code = bytes ∧ c.maxLocals = maxL ∧ meth.sig.returnType = ret ∧ meth.locks = false ∧ meth.name = y.name ∧ ∃ a1, EW Z a1 EL) ∧
  En Z B h ∧ s.heap.size ≤ h.size ∧ (∀ x, B x → B0 x ∨ s.heap.size ≤ x) ∧
  ∃ (V : Vm) (locs : List Loc) (q : Nat), Stand p l e R (s.setVm V) m args below meth c T locs k n ∧ T.heap = h ∧ Z.Warmed39 V ∧ V.findClass y.cls = some m.cls ∧ s.Since V q ∧ q ≤ h.size ∧ Fr Z.heap.size locs ∧ CHv Z EL V h ∧ (∀ x, Bk Z EL V h x → B x)
def Go (l : Launch) (Z : State) (EL : List (String × Nat)) (R : Room) (B0 : Addr → Prop) (Q : Option Value → Heap → (Addr → Prop) → Prop) (p : Program) (e : Env) (s : State) (m : MethodId) (below : List Frame) (T : State) (pc : Nat) (ls : Array Slot) (st : List Value) : Prop :=
  ∃ s₂ o, Steps p.tables e below (T.setTop (mkF m pc ls st)) s₂ ∧ s₂.status = .running ∧ Ended s₂ below o ∧ ∃ v L B', o = .returned v ∧ Fr Z.heap.size L ∧ CHv Z EL s₂.vm s₂.heap ∧ (∀ x, Bk Z EL s₂.vm s₂.heap x → B' x) ∧ (∀ x, B' x → B0 x ∨ s.heap.size ≤ x) ∧ En Z B' s₂.heap ∧ s.heap.size ≤ s₂.heap.size ∧ Q v s₂.heap B' ∧ ReturnedEndW s o s₂ L R.cells R.slots
def Con (l : Launch) (Z : State) (EL : List (String × Nat)) (wl : List Jvm.Cond) (y : MethodName) (bytes : ByteArray) (maxL : Nat) (ret : Option FieldType) (rm : Room) (B : Addr → Prop) (h : Heap) (as' : Array Value) (Q : Option Value → Heap → (Addr → Prop) → Prop) : Prop :=
  MetFree l y (head1 (Jvm.Cond.code y bytes maxL ret :: wl) rm) (fun a U => a = as' ∧ Z.Warmed39 U.vm ∧ U.heap = h ∧ CHv Z EL U.vm h ∧ ∀ x, Bk Z EL U.vm h x → B x) (fun _ _ _ _ _ => True)
    (fun _ U o U' => ∃ v L B', o = .returned v ∧ Fr Z.heap.size L ∧ CHv Z EL U'.vm U'.heap ∧ (∀ x, Bk Z EL U'.vm U'.heap x → B' x) ∧ (∀ x, B' x → B x ∨ h.size ≤ x) ∧ En Z B' U'.heap ∧ h.size ≤ U'.heap.size ∧ Q v U'.heap B' ∧ ReturnedEndW U o U' L rm.cells rm.slots)
theorem Wk.hx (X : Wk l Z EL y bytes maxL ret R B0 p e s m args below meth c B T h k n) : p.tables.exec = Jvm.exec := X.1.1
theorem Wk.dec (X : Wk l Z EL y bytes maxL ret R B0 p e s m args below meth c B T h k n) {r : Except DecodeError (Instr × Nat)} (hd : decode bytes pc = r) : decode c.code pc = r := X.1.2.1 ▸ hd
theorem Wk.en (X : Wk l Z EL y bytes maxL ret R B0 p e s m args below meth c B T h k n) : En Z B h := X.2.1
theorem Wk.old (X : Wk l Z EL y bytes maxL ret R B0 p e s m args below meth c B T h k n) : Ext Z.heap h := X.2.1.1
theorem Wk.z0 (X : Wk l Z EL y bytes maxL ret R B0 p e s m args below meth c B T h k n) : Z.heap.size ≤ h.size := X.2.1.1.1
theorem Wk.zs (X : Wk l Z EL y bytes maxL ret R B0 p e s m args below meth c B T h k n) : s.heap.size ≤ h.size := X.2.2.1
theorem Wk.nb (X : Wk l Z EL y bytes maxL ret R B0 p e s m args below meth c B T h k n) (q : h.size ≤ a) : ¬ B a := fun r => absurd (X.2.1.2 a r) (Nat.not_lt.mpr q)
theorem Wk.here (X : Wk l Z EL y bytes maxL ret R B0 p e s m args below meth c B T h k n) : At T m c below := by obtain ⟨-, -, -, -, V, locs, q, X1, -⟩ := X; exact X1.here
theorem Wk.mono (X : Wk l Z EL y bytes maxL ret R B0 p e s m args below meth c B T h k n) {k' n' : Nat} (q : k ≤ k') (r : n ≤ n') : Wk l Z EL y bytes maxL ret R B0 p e s m args below meth c B T h k' n' := by
  obtain ⟨i, hE, hz, hB, V, locs, q0, X1, rest⟩ := X; exact ⟨i, hE, hz, hB, V, locs, q0, X1.mono q r, rest⟩
theorem Go.step {T' : State} {st' : List Value} (hst : ∀ t, Steps p.tables e below (T'.setTop (mkF m pc' ls' st')) t → Steps p.tables e below (T.setTop (mkF m pc ls st)) t) (g : Go l Z EL R B0 Q p e s m below T' pc' ls' st') : Go l Z EL R B0 Q p e s m below T pc ls st := by
  obtain ⟨s₂, o, h1, r⟩ := g
  exact ⟨s₂, o, hst _ h1, r⟩
theorem Go.via {T' : State} {st' : List Value} (hst : Steps p.tables e below (T.setTop (mkF m pc ls st)) (T'.setTop (mkF m pc' ls' st'))) (g : Go l Z EL R B0 Q p e s m below T' pc' ls' st') : Go l Z EL R B0 Q p e s m below T pc ls st := Go.step (fun _ r => hst.trans r) g
theorem gh (e1 : Go l Z EL R B0 Q p e s m below T pc ls st) (e2 : st = vs) : Go l Z EL R B0 Q p e s m below T pc ls vs := e2 ▸ e1

theorem W.iload (X : Wk l Z EL y bytes maxL ret R B0 p e s m args below meth c B T h k n) {j : Nat} {v : Int32} (hd : decode bytes pc = .ok (.iload j, 2)) (hl : ls[j]? = some (.val (.int v))) (hp : pc + 2 = pc') (g : Go l Z EL R B0 Q p e s m below T pc' ls (.int v :: st)) : Go l Z EL R B0 Q p e s m below T pc ls st := by
  subst hp; exact Go.step (fun t hr => XS.iload X.here X.hx rfl (X.dec hd) hl hr) g
theorem W.iloadN (X : Wk l Z EL y bytes maxL ret R B0 p e s m args below meth c B T h k n) {j : Fin 4} {v : Int32} (hd : decode bytes pc = .ok (.iload_n j, 1)) (hl : ls[j.val]? = some (.val (.int v))) (hp : pc + 1 = pc') (g : Go l Z EL R B0 Q p e s m below T pc' ls (.int v :: st)) : Go l Z EL R B0 Q p e s m below T pc ls st := by
  subst hp; exact Go.step (fun t hr => XS.iloadN X.here X.hx rfl (X.dec hd) hl hr) g
theorem W.istore (X : Wk l Z EL y bytes maxL ret R B0 p e s m args below meth c B T h k n) {j : Nat} {v : Int32} (hd : decode bytes pc = .ok (.istore j, 2)) (hl : storeLocals ls j (.int v) = some ls') (hp : pc + 2 = pc') (g : Go l Z EL R B0 Q p e s m below T pc' ls' st) : Go l Z EL R B0 Q p e s m below T pc ls (.int v :: st) := by
  subst hp; exact Go.step (fun t hr => XS.istore X.here X.hx rfl (X.dec hd) rfl hl hr) g
theorem W.istoreN (X : Wk l Z EL y bytes maxL ret R B0 p e s m args below meth c B T h k n) {j : Fin 4} {v : Int32} (hd : decode bytes pc = .ok (.istore_n j, 1)) (hl : storeLocals ls j.val (.int v) = some ls') (hp : pc + 1 = pc') (g : Go l Z EL R B0 Q p e s m below T pc' ls' st) : Go l Z EL R B0 Q p e s m below T pc ls (.int v :: st) := by
  subst hp; exact Go.step (fun t hr => XS.istoreN X.here X.hx rfl (X.dec hd) rfl hl hr) g
theorem W.lload (X : Wk l Z EL y bytes maxL ret R B0 p e s m args below meth c B T h k n) {j : Nat} {v : Int64} (hd : decode bytes pc = .ok (.lload j, 2)) (hl : ls[j]? = some (.val (.long v))) (hp : pc + 2 = pc') (g : Go l Z EL R B0 Q p e s m below T pc' ls (.long v :: st)) : Go l Z EL R B0 Q p e s m below T pc ls st := by
  subst hp; exact Go.step (fun t hr => XT.lload X.here X.hx rfl (X.dec hd) hl hr) g
theorem W.lloadN (X : Wk l Z EL y bytes maxL ret R B0 p e s m args below meth c B T h k n) {j : Fin 4} {v : Int64} (hd : decode bytes pc = .ok (.lload_n j, 1)) (hl : ls[j.val]? = some (.val (.long v))) (hp : pc + 1 = pc') (g : Go l Z EL R B0 Q p e s m below T pc' ls (.long v :: st)) : Go l Z EL R B0 Q p e s m below T pc ls st := by
  subst hp; exact Go.step (fun t hr => XT.lloadN X.here X.hx rfl (X.dec hd) hl hr) g
theorem W.lstore (X : Wk l Z EL y bytes maxL ret R B0 p e s m args below meth c B T h k n) {j : Nat} {v : Int64} (hd : decode bytes pc = .ok (.lstore j, 2)) (hl : storeLocals ls j (.long v) = some ls') (hp : pc + 2 = pc') (g : Go l Z EL R B0 Q p e s m below T pc' ls' st) : Go l Z EL R B0 Q p e s m below T pc ls (.long v :: st) := by
  subst hp; exact Go.step (fun t hr => XT.lstore X.here X.hx rfl (X.dec hd) rfl hl hr) g
theorem W.lstoreN (X : Wk l Z EL y bytes maxL ret R B0 p e s m args below meth c B T h k n) {j : Fin 4} {v : Int64} (hd : decode bytes pc = .ok (.lstore_n j, 1)) (hl : storeLocals ls j.val (.long v) = some ls') (hp : pc + 1 = pc') (g : Go l Z EL R B0 Q p e s m below T pc' ls' st) : Go l Z EL R B0 Q p e s m below T pc ls (.long v :: st) := by
  subst hp; exact Go.step (fun t hr => XT.lstoreN X.here X.hx rfl (X.dec hd) rfl hl hr) g
theorem W.aload (X : Wk l Z EL y bytes maxL ret R B0 p e s m args below meth c B T h k n) {j : Nat} {v : Value} (hd : decode bytes pc = .ok (.aload j, 2)) (hl : ls[j]? = some (.val v)) (hv : v.isRef = true) (hp : pc + 2 = pc') (g : Go l Z EL R B0 Q p e s m below T pc' ls (v :: st)) : Go l Z EL R B0 Q p e s m below T pc ls st := by
  subst hp; exact Go.step (fun t hr => XS.aload X.here X.hx rfl (X.dec hd) hl hv hr) g
theorem W.aloadN (X : Wk l Z EL y bytes maxL ret R B0 p e s m args below meth c B T h k n) {j : Fin 4} {v : Value} (hd : decode bytes pc = .ok (.aload_n j, 1)) (hl : ls[j.val]? = some (.val v)) (hv : v.isRef = true) (hp : pc + 1 = pc') (g : Go l Z EL R B0 Q p e s m below T pc' ls (v :: st)) : Go l Z EL R B0 Q p e s m below T pc ls st := by
  subst hp; exact Go.step (fun t hr => XS.aloadN X.here X.hx rfl (X.dec hd) hl hv hr) g
theorem W.astore (X : Wk l Z EL y bytes maxL ret R B0 p e s m args below meth c B T h k n) {j : Nat} {v : Value} (hd : decode bytes pc = .ok (.astore j, 2)) (hv : v.isRef = true) (hl : storeLocals ls j v = some ls') (hp : pc + 2 = pc') (g : Go l Z EL R B0 Q p e s m below T pc' ls' st) : Go l Z EL R B0 Q p e s m below T pc ls (v :: st) := by
  subst hp; exact Go.step (fun t hr => XS.astore X.here X.hx rfl (X.dec hd) rfl hv hl hr) g
theorem W.astoreN (X : Wk l Z EL y bytes maxL ret R B0 p e s m args below meth c B T h k n) {j : Fin 4} {v : Value} (hd : decode bytes pc = .ok (.astore_n j, 1)) (hv : v.isRef = true) (hl : storeLocals ls j.val v = some ls') (hp : pc + 1 = pc') (g : Go l Z EL R B0 Q p e s m below T pc' ls' st) : Go l Z EL R B0 Q p e s m below T pc ls (v :: st) := by
  subst hp; exact Go.step (fun t hr => XS.astoreN X.here X.hx rfl (X.dec hd) rfl hv hl hr) g
theorem W.iconst (X : Wk l Z EL y bytes maxL ret R B0 p e s m args below meth c B T h k n) {i : Int} (v : Int32) (hd : decode bytes pc = .ok (.iconst i, 1)) (hv : Int32.ofInt i = v) (hp : pc + 1 = pc') (g : Go l Z EL R B0 Q p e s m below T pc' ls (.int v :: st)) : Go l Z EL R B0 Q p e s m below T pc ls st := by
  subst hp; exact Go.step (fun t hr => XT.iconstV X.here X.hx rfl v (X.dec hd) hv hr) g
theorem W.bipush (X : Wk l Z EL y bytes maxL ret R B0 p e s m args below meth c B T h k n) {i : Int} (v : Int32) (hd : decode bytes pc = .ok (.bipush i, 2)) (hv : (Int8.ofInt i).toInt32 = v) (hp : pc + 2 = pc') (g : Go l Z EL R B0 Q p e s m below T pc' ls (.int v :: st)) : Go l Z EL R B0 Q p e s m below T pc ls st := by
  subst hp; exact Go.step (fun t hr => XT.bipushV X.here X.hx rfl v (X.dec hd) hv hr) g
theorem W.sipush (X : Wk l Z EL y bytes maxL ret R B0 p e s m args below meth c B T h k n) {i : Int} (v : Int32) (hd : decode bytes pc = .ok (.sipush i, 3)) (hv : (Int16.ofInt i).toInt32 = v) (hp : pc + 3 = pc') (g : Go l Z EL R B0 Q p e s m below T pc' ls (.int v :: st)) : Go l Z EL R B0 Q p e s m below T pc ls st := by
  subst hp; exact Go.step (fun t hr => XT.sipushV X.here X.hx rfl v (X.dec hd) hv hr) g
theorem W.lconst (X : Wk l Z EL y bytes maxL ret R B0 p e s m args below meth c B T h k n) {i : Fin 2} (v : Int64) (hd : decode bytes pc = .ok (.lconst i, 1)) (hv : Int64.ofNat i = v) (hp : pc + 1 = pc') (g : Go l Z EL R B0 Q p e s m below T pc' ls (.long v :: st)) : Go l Z EL R B0 Q p e s m below T pc ls st := by
  subst hp; exact Go.step (fun t hr => XT.lconstV X.here X.hx rfl v (X.dec hd) hv hr) g
theorem W.aconst_null (X : Wk l Z EL y bytes maxL ret R B0 p e s m args below meth c B T h k n)  (hd : decode bytes pc = .ok (.aconst_null, 1))  (hp : pc + 1 = pc') (g : Go l Z EL R B0 Q p e s m below T pc' ls (.null :: st)) : Go l Z EL R B0 Q p e s m below T pc ls st := by
  subst hp; exact Go.step (fun t hr => XS.aconstNull X.here X.hx rfl (X.dec hd) hr) g
theorem W.iadd (X : Wk l Z EL y bytes maxL ret R B0 p e s m args below meth c B T h k n) {x z : Int32} {w : Int32} (hd : decode bytes pc = .ok (.iadd, 1)) (hw : x + z = w) (hp : pc + 1 = pc') (g : Go l Z EL R B0 Q p e s m below T pc' ls (.int w :: st)) : Go l Z EL R B0 Q p e s m below T pc ls (.int z :: .int x :: st) := by
  subst hp; exact Go.step (fun t hr => by subst hw; exact XS.iadd X.here X.hx rfl (X.dec hd) rfl hr) g
theorem W.isub (X : Wk l Z EL y bytes maxL ret R B0 p e s m args below meth c B T h k n) {x z : Int32} {w : Int32} (hd : decode bytes pc = .ok (.isub, 1)) (hw : x - z = w) (hp : pc + 1 = pc') (g : Go l Z EL R B0 Q p e s m below T pc' ls (.int w :: st)) : Go l Z EL R B0 Q p e s m below T pc ls (.int z :: .int x :: st) := by
  subst hp; exact Go.step (fun t hr => by subst hw; exact XS.isub X.here X.hx rfl (X.dec hd) rfl hr) g
theorem W.iand (X : Wk l Z EL y bytes maxL ret R B0 p e s m args below meth c B T h k n) {x z : Int32} {w : Int32} (hd : decode bytes pc = .ok (.iand, 1)) (hw : x &&& z = w) (hp : pc + 1 = pc') (g : Go l Z EL R B0 Q p e s m below T pc' ls (.int w :: st)) : Go l Z EL R B0 Q p e s m below T pc ls (.int z :: .int x :: st) := by
  subst hp; exact Go.step (fun t hr => by subst hw; exact XS.iand X.here X.hx rfl (X.dec hd) rfl hr) g
theorem W.imul (X : Wk l Z EL y bytes maxL ret R B0 p e s m args below meth c B T h k n) {x z : Int32} {w : Int32} (hd : decode bytes pc = .ok (.imul, 1)) (hw : x * z = w) (hp : pc + 1 = pc') (g : Go l Z EL R B0 Q p e s m below T pc' ls (.int w :: st)) : Go l Z EL R B0 Q p e s m below T pc ls (.int z :: .int x :: st) := by
  subst hp; exact Go.step (fun t hr => by subst hw; exact XS.imul X.here X.hx rfl (X.dec hd) rfl hr) g
theorem W.ixor (X : Wk l Z EL y bytes maxL ret R B0 p e s m args below meth c B T h k n) {x z : Int32} {w : Int32} (hd : decode bytes pc = .ok (.ixor, 1)) (hw : x ^^^ z = w) (hp : pc + 1 = pc') (g : Go l Z EL R B0 Q p e s m below T pc' ls (.int w :: st)) : Go l Z EL R B0 Q p e s m below T pc ls (.int z :: .int x :: st) := by
  subst hp; exact Go.step (fun t hr => by subst hw; exact XT.ixor X.here X.hx rfl (X.dec hd) rfl hr) g
theorem W.ior (X : Wk l Z EL y bytes maxL ret R B0 p e s m args below meth c B T h k n) {x z : Int32} {w : Int32} (hd : decode bytes pc = .ok (.ior, 1)) (hw : x ||| z = w) (hp : pc + 1 = pc') (g : Go l Z EL R B0 Q p e s m below T pc' ls (.int w :: st)) : Go l Z EL R B0 Q p e s m below T pc ls (.int z :: .int x :: st) := by
  subst hp; exact Go.step (fun t hr => by subst hw; exact XT.ior X.here X.hx rfl (X.dec hd) rfl hr) g
theorem W.ishl (X : Wk l Z EL y bytes maxL ret R B0 p e s m args below meth c B T h k n) {x z : Int32} {w : Int32} (hd : decode bytes pc = .ok (.ishl, 1)) (hw : x <<< (z &&& 31) = w) (hp : pc + 1 = pc') (g : Go l Z EL R B0 Q p e s m below T pc' ls (.int w :: st)) : Go l Z EL R B0 Q p e s m below T pc ls (.int z :: .int x :: st) := by
  subst hp; exact Go.step (fun t hr => by subst hw; exact XT.ishl X.here X.hx rfl (X.dec hd) rfl hr) g
theorem W.ishr (X : Wk l Z EL y bytes maxL ret R B0 p e s m args below meth c B T h k n) {x z : Int32} {w : Int32} (hd : decode bytes pc = .ok (.ishr, 1)) (hw : x >>> (z &&& 31) = w) (hp : pc + 1 = pc') (g : Go l Z EL R B0 Q p e s m below T pc' ls (.int w :: st)) : Go l Z EL R B0 Q p e s m below T pc ls (.int z :: .int x :: st) := by
  subst hp; exact Go.step (fun t hr => by subst hw; exact XT.ishr X.here X.hx rfl (X.dec hd) rfl hr) g
theorem W.iushr (X : Wk l Z EL y bytes maxL ret R B0 p e s m args below meth c B T h k n) {x z : Int32} {w : Int32} (hd : decode bytes pc = .ok (.iushr, 1)) (hw : XT.ushr x z = w) (hp : pc + 1 = pc') (g : Go l Z EL R B0 Q p e s m below T pc' ls (.int w :: st)) : Go l Z EL R B0 Q p e s m below T pc ls (.int z :: .int x :: st) := by
  subst hp; exact Go.step (fun t hr => by subst hw; exact XT.iushr X.here X.hx rfl (X.dec hd) rfl hr) g
theorem W.idiv (X : Wk l Z EL y bytes maxL ret R B0 p e s m args below meth c B T h k n) {x z : Int32} {w : Int32} (hd : decode bytes pc = .ok (.idiv, 1)) (hz : z ≠ 0) (hw : x / z = w) (hp : pc + 1 = pc') (g : Go l Z EL R B0 Q p e s m below T pc' ls (.int w :: st)) : Go l Z EL R B0 Q p e s m below T pc ls (.int z :: .int x :: st) := by
  subst hp; exact Go.step (fun t hr => by subst hw; exact XS.idiv X.here X.hx rfl (X.dec hd) rfl hz hr) g
theorem W.irem (X : Wk l Z EL y bytes maxL ret R B0 p e s m args below meth c B T h k n) {x z : Int32} {w : Int32} (hd : decode bytes pc = .ok (.irem, 1)) (hz : z ≠ 0) (hw : x % z = w) (hp : pc + 1 = pc') (g : Go l Z EL R B0 Q p e s m below T pc' ls (.int w :: st)) : Go l Z EL R B0 Q p e s m below T pc ls (.int z :: .int x :: st) := by
  subst hp; exact Go.step (fun t hr => by subst hw; exact XS.irem X.here X.hx rfl (X.dec hd) rfl hz (by rw [Jvm.irem_eq_mod]; exact hr)) g
theorem W.ineg (X : Wk l Z EL y bytes maxL ret R B0 p e s m args below meth c B T h k n) {x : Int32} {w : Int32} (hd : decode bytes pc = .ok (.ineg, 1)) (hw : -x = w) (hp : pc + 1 = pc') (g : Go l Z EL R B0 Q p e s m below T pc' ls (.int w :: st)) : Go l Z EL R B0 Q p e s m below T pc ls (.int x :: st) := by
  subst hp; exact Go.step (fun t hr => by subst hw; exact XS.ineg X.here X.hx rfl (X.dec hd) rfl hr) g
theorem W.ladd (X : Wk l Z EL y bytes maxL ret R B0 p e s m args below meth c B T h k n) {x z : Int64} {w : Int64} (hd : decode bytes pc = .ok (.ladd, 1)) (hw : x + z = w) (hp : pc + 1 = pc') (g : Go l Z EL R B0 Q p e s m below T pc' ls (.long w :: st)) : Go l Z EL R B0 Q p e s m below T pc ls (.long z :: .long x :: st) := by
  subst hp; exact Go.step (fun t hr => by subst hw; exact XT.ladd X.here X.hx rfl (X.dec hd) rfl hr) g
theorem W.lsub (X : Wk l Z EL y bytes maxL ret R B0 p e s m args below meth c B T h k n) {x z : Int64} {w : Int64} (hd : decode bytes pc = .ok (.lsub, 1)) (hw : x - z = w) (hp : pc + 1 = pc') (g : Go l Z EL R B0 Q p e s m below T pc' ls (.long w :: st)) : Go l Z EL R B0 Q p e s m below T pc ls (.long z :: .long x :: st) := by
  subst hp; exact Go.step (fun t hr => by subst hw; exact XT.lsub X.here X.hx rfl (X.dec hd) rfl hr) g
theorem W.land (X : Wk l Z EL y bytes maxL ret R B0 p e s m args below meth c B T h k n) {x z : Int64} {w : Int64} (hd : decode bytes pc = .ok (.land, 1)) (hw : x &&& z = w) (hp : pc + 1 = pc') (g : Go l Z EL R B0 Q p e s m below T pc' ls (.long w :: st)) : Go l Z EL R B0 Q p e s m below T pc ls (.long z :: .long x :: st) := by
  subst hp; exact Go.step (fun t hr => by subst hw; exact XT.land X.here X.hx rfl (X.dec hd) rfl hr) g
theorem W.lmul (X : Wk l Z EL y bytes maxL ret R B0 p e s m args below meth c B T h k n) {x z : Int64} {w : Int64} (hd : decode bytes pc = .ok (.lmul, 1)) (hw : x * z = w) (hp : pc + 1 = pc') (g : Go l Z EL R B0 Q p e s m below T pc' ls (.long w :: st)) : Go l Z EL R B0 Q p e s m below T pc ls (.long z :: .long x :: st) := by
  subst hp; exact Go.step (fun t hr => by subst hw; exact XT.lmul X.here X.hx rfl (X.dec hd) rfl hr) g
theorem W.lor (X : Wk l Z EL y bytes maxL ret R B0 p e s m args below meth c B T h k n) {x z : Int64} {w : Int64} (hd : decode bytes pc = .ok (.lor, 1)) (hw : x ||| z = w) (hp : pc + 1 = pc') (g : Go l Z EL R B0 Q p e s m below T pc' ls (.long w :: st)) : Go l Z EL R B0 Q p e s m below T pc ls (.long z :: .long x :: st) := by
  subst hp; exact Go.step (fun t hr => by subst hw; exact XT.lor X.here X.hx rfl (X.dec hd) rfl hr) g
theorem W.ldiv (X : Wk l Z EL y bytes maxL ret R B0 p e s m args below meth c B T h k n) {x z : Int64} {w : Int64} (hd : decode bytes pc = .ok (.ldiv, 1)) (hz : z ≠ 0) (hw : x / z = w) (hp : pc + 1 = pc') (g : Go l Z EL R B0 Q p e s m below T pc' ls (.long w :: st)) : Go l Z EL R B0 Q p e s m below T pc ls (.long z :: .long x :: st) := by
  subst hp; exact Go.step (fun t hr => by subst hw; exact XT.ldiv X.here X.hx rfl (X.dec hd) rfl hz hr) g
theorem W.lrem (X : Wk l Z EL y bytes maxL ret R B0 p e s m args below meth c B T h k n) {x z : Int64} {w : Int64} (hd : decode bytes pc = .ok (.lrem, 1)) (hz : z ≠ 0) (hw : x - (x / z) * z = w) (hp : pc + 1 = pc') (g : Go l Z EL R B0 Q p e s m below T pc' ls (.long w :: st)) : Go l Z EL R B0 Q p e s m below T pc ls (.long z :: .long x :: st) := by
  subst hp; exact Go.step (fun t hr => by subst hw; exact XT.lrem X.here X.hx rfl (X.dec hd) rfl hz hr) g
theorem W.lneg (X : Wk l Z EL y bytes maxL ret R B0 p e s m args below meth c B T h k n) {x : Int64} {w : Int64} (hd : decode bytes pc = .ok (.lneg, 1)) (hw : -x = w) (hp : pc + 1 = pc') (g : Go l Z EL R B0 Q p e s m below T pc' ls (.long w :: st)) : Go l Z EL R B0 Q p e s m below T pc ls (.long x :: st) := by
  subst hp; exact Go.step (fun t hr => by subst hw; exact XT.lneg X.here X.hx rfl (X.dec hd) rfl hr) g
theorem W.lushr (X : Wk l Z EL y bytes maxL ret R B0 p e s m args below meth c B T h k n) {x : Int64} {z : Int32} {w : Int64} (hd : decode bytes pc = .ok (.lushr, 1)) (hw : XT.ushrL x z = w) (hp : pc + 1 = pc') (g : Go l Z EL R B0 Q p e s m below T pc' ls (.long w :: st)) : Go l Z EL R B0 Q p e s m below T pc ls (.int z :: .long x :: st) := by
  subst hp; exact Go.step (fun t hr => by subst hw; exact XT.lushr X.here X.hx rfl (X.dec hd) rfl hr) g
theorem W.lcmp (X : Wk l Z EL y bytes maxL ret R B0 p e s m args below meth c B T h k n) {x z : Int64} {w : Int32} (hd : decode bytes pc = .ok (.lcmp, 1)) (hw : XT.cmpL x z = w) (hp : pc + 1 = pc') (g : Go l Z EL R B0 Q p e s m below T pc' ls (.int w :: st)) : Go l Z EL R B0 Q p e s m below T pc ls (.long z :: .long x :: st) := by
  subst hp; exact Go.step (fun t hr => by subst hw; exact XT.lcmp X.here X.hx rfl (X.dec hd) rfl hr) g
theorem W.i2l (X : Wk l Z EL y bytes maxL ret R B0 p e s m args below meth c B T h k n) {x : Int32} {w : Int64} (hd : decode bytes pc = .ok (.i2l, 1)) (hw : x.toInt64 = w) (hp : pc + 1 = pc') (g : Go l Z EL R B0 Q p e s m below T pc' ls (.long w :: st)) : Go l Z EL R B0 Q p e s m below T pc ls (.int x :: st) := by
  subst hp; exact Go.step (fun t hr => by subst hw; exact XT.i2l X.here X.hx rfl (X.dec hd) rfl hr) g
theorem W.l2i (X : Wk l Z EL y bytes maxL ret R B0 p e s m args below meth c B T h k n) {x : Int64} {w : Int32} (hd : decode bytes pc = .ok (.l2i, 1)) (hw : x.toInt32 = w) (hp : pc + 1 = pc') (g : Go l Z EL R B0 Q p e s m below T pc' ls (.int w :: st)) : Go l Z EL R B0 Q p e s m below T pc ls (.long x :: st) := by
  subst hp; exact Go.step (fun t hr => by subst hw; exact XT.l2i X.here X.hx rfl (X.dec hd) rfl hr) g
theorem W.i2b (X : Wk l Z EL y bytes maxL ret R B0 p e s m args below meth c B T h k n) {x : Int32} {w : Int32} (hd : decode bytes pc = .ok (.i2b, 1)) (hw : x.toInt8.toInt32 = w) (hp : pc + 1 = pc') (g : Go l Z EL R B0 Q p e s m below T pc' ls (.int w :: st)) : Go l Z EL R B0 Q p e s m below T pc ls (.int x :: st) := by
  subst hp; exact Go.step (fun t hr => by subst hw; exact XT.i2b X.here X.hx rfl (X.dec hd) rfl hr) g
theorem W.i2c (X : Wk l Z EL y bytes maxL ret R B0 p e s m args below meth c B T h k n) {x : Int32} {w : Int32} (hd : decode bytes pc = .ok (.i2c, 1)) (hw : x.toUInt32.toUInt16.toUInt32.toInt32 = w) (hp : pc + 1 = pc') (g : Go l Z EL R B0 Q p e s m below T pc' ls (.int w :: st)) : Go l Z EL R B0 Q p e s m below T pc ls (.int x :: st) := by
  subst hp; exact Go.step (fun t hr => by subst hw; exact XT.i2c X.here X.hx rfl (X.dec hd) rfl hr) g
theorem W.iinc (X : Wk l Z EL y bytes maxL ret R B0 p e s m args below meth c B T h k n) {j : Nat} {cst : Int} {x : Int32} (v : Int32) {w : Int32} (hd : decode bytes pc = .ok (.iinc j cst, 3)) (hv : Int32.ofInt cst = v) (hl : ls[j]? = some (.val (.int x))) (hw : x + v = w) (hl' : storeLocals ls j (.int w) = some ls') (hp : pc + 3 = pc') (g : Go l Z EL R B0 Q p e s m below T pc' ls' st) : Go l Z EL R B0 Q p e s m below T pc ls st := by
  subst hp; exact Go.step (fun t hr => by subst hw; exact XT.iincV X.here X.hx rfl v (X.dec hd) hv hl hl' hr) g
theorem W.popV (X : Wk l Z EL y bytes maxL ret R B0 p e s m args below meth c B T h k n) {v : Value} (hd : decode bytes pc = .ok (.pop, 1)) (hc : v.category = 1) (hp : pc + 1 = pc') (g : Go l Z EL R B0 Q p e s m below T pc' ls st) : Go l Z EL R B0 Q p e s m below T pc ls (v :: st) := by
  subst hp; exact Go.step (fun t hr => XT.pop X.here X.hx rfl (X.dec hd) rfl hc hr) g
theorem W.dup (X : Wk l Z EL y bytes maxL ret R B0 p e s m args below meth c B T h k n) {v : Value} (hd : decode bytes pc = .ok (.dup, 1)) (hc : v.category = 1) (hp : pc + 1 = pc') (g : Go l Z EL R B0 Q p e s m below T pc' ls (v :: v :: st)) : Go l Z EL R B0 Q p e s m below T pc ls (v :: st) := by
  subst hp; exact Go.step (fun t hr => XS.dup X.here X.hx rfl (X.dec hd) rfl hc hr) g
theorem W.dup_x1 (X : Wk l Z EL y bytes maxL ret R B0 p e s m args below meth c B T h k n) {v w : Value} (hd : decode bytes pc = .ok (.dup_x1, 1)) (hc : v.category = 1) (hc' : w.category = 1) (hp : pc + 1 = pc') (g : Go l Z EL R B0 Q p e s m below T pc' ls (v :: w :: v :: st)) : Go l Z EL R B0 Q p e s m below T pc ls (v :: w :: st) := by
  subst hp; exact Go.step (fun t hr => XT.dupX1 X.here X.hx rfl (X.dec hd) rfl hc hc' hr) g
theorem W.dup2 (X : Wk l Z EL y bytes maxL ret R B0 p e s m args below meth c B T h k n) {v w : Value} (hd : decode bytes pc = .ok (.dup2, 1)) (hc : v.category = 1) (hc' : w.category = 1) (hp : pc + 1 = pc') (g : Go l Z EL R B0 Q p e s m below T pc' ls (v :: w :: v :: w :: st)) : Go l Z EL R B0 Q p e s m below T pc ls (v :: w :: st) := by
  subst hp; exact Go.step (fun t hr => XT.dup2 X.here X.hx rfl (X.dec hd) rfl hc hc' hr) g
theorem W.dup2L (X : Wk l Z EL y bytes maxL ret R B0 p e s m args below meth c B T h k n) {v : Int64} (hd : decode bytes pc = .ok (.dup2, 1))  (hp : pc + 1 = pc') (g : Go l Z EL R B0 Q p e s m below T pc' ls (.long v :: .long v :: st)) : Go l Z EL R B0 Q p e s m below T pc ls (.long v :: st) := by
  subst hp; exact Go.step (fun t hr => XT.dup2L X.here X.hx rfl (X.dec hd) rfl hr) g
theorem W.goto (X : Wk l Z EL y bytes maxL ret R B0 p e s m args below meth c B T h k n)  {o : Int} (hd : decode bytes pc = .ok (.goto o, 3))  (ho : 0 ≤ (pc : Int) + o) (hp : ((pc : Int) + o).toNat = pc') (g : Go l Z EL R B0 Q p e s m below T pc' ls st) : Go l Z EL R B0 Q p e s m below T pc ls st :=
  Go.step (fun t hr => XS.goto X.here X.hx rfl rfl (X.dec hd) ho hp hr) g
theorem W.ifT (X : Wk l Z EL y bytes maxL ret R B0 p e s m args below meth c B T h k n) {cd : ClassFile.Cond} {x : Int32} {o : Int} (hd : decode bytes pc = .ok (.ifCond cd o, 3)) (hc : ifCond.holds cd x = true) (ho : 0 ≤ (pc : Int) + o) (hp : ((pc : Int) + o).toNat = pc') (g : Go l Z EL R B0 Q p e s m below T pc' ls st) : Go l Z EL R B0 Q p e s m below T pc ls (.int x :: st) :=
  Go.step (fun t hr => XS.ifYes X.here X.hx rfl rfl (X.dec hd) rfl hc ho hp hr) g
theorem W.ifF (X : Wk l Z EL y bytes maxL ret R B0 p e s m args below meth c B T h k n) {cd : ClassFile.Cond} {o : Int} {x : Int32} (hd : decode bytes pc = .ok (.ifCond cd o, 3)) (hc : ifCond.holds cd x = false) (hp : pc + 3 = pc') (g : Go l Z EL R B0 Q p e s m below T pc' ls st) : Go l Z EL R B0 Q p e s m below T pc ls (.int x :: st) := by
  subst hp; exact Go.step (fun t hr => XS.ifNo X.here X.hx rfl (X.dec hd) rfl hc hr) g
theorem W.icT (X : Wk l Z EL y bytes maxL ret R B0 p e s m args below meth c B T h k n) {cd : ClassFile.Cond} {x z : Int32} {o : Int} (hd : decode bytes pc = .ok (.if_icmp cd o, 3)) (hc : if_icmp.holds cd x z = true) (ho : 0 ≤ (pc : Int) + o) (hp : ((pc : Int) + o).toNat = pc') (g : Go l Z EL R B0 Q p e s m below T pc' ls st) : Go l Z EL R B0 Q p e s m below T pc ls (.int z :: .int x :: st) :=
  Go.step (fun t hr => XS.icmpYes X.here X.hx rfl rfl (X.dec hd) rfl hc ho hp hr) g
theorem W.icF (X : Wk l Z EL y bytes maxL ret R B0 p e s m args below meth c B T h k n) {cd : ClassFile.Cond} {o : Int} {x z : Int32} (hd : decode bytes pc = .ok (.if_icmp cd o, 3)) (hc : if_icmp.holds cd x z = false) (hp : pc + 3 = pc') (g : Go l Z EL R B0 Q p e s m below T pc' ls st) : Go l Z EL R B0 Q p e s m below T pc ls (.int z :: .int x :: st) := by
  subst hp; exact Go.step (fun t hr => XS.icmpNo X.here X.hx rfl (X.dec hd) rfl hc hr) g
theorem W.acT (X : Wk l Z EL y bytes maxL ret R B0 p e s m args below meth c B T h k n) {cd : ClassFile.ACond} {x z : Value} {o : Int} (hd : decode bytes pc = .ok (.if_acmp cd o, 3)) (h1 : x.isRef = true) (h2 : z.isRef = true) (hc : XT.acmp cd x z = true) (ho : 0 ≤ (pc : Int) + o) (hp : ((pc : Int) + o).toNat = pc') (g : Go l Z EL R B0 Q p e s m below T pc' ls st) : Go l Z EL R B0 Q p e s m below T pc ls (z :: x :: st) :=
  Go.step (fun t hr => XT.acmpYes X.here X.hx rfl rfl (X.dec hd) rfl h1 h2 hc ho hp hr) g
theorem W.acF (X : Wk l Z EL y bytes maxL ret R B0 p e s m args below meth c B T h k n) {cd : ClassFile.ACond} {o : Int} {x z : Value} (hd : decode bytes pc = .ok (.if_acmp cd o, 3)) (h1 : x.isRef = true) (h2 : z.isRef = true) (hc : XT.acmp cd x z = false) (hp : pc + 3 = pc') (g : Go l Z EL R B0 Q p e s m below T pc' ls st) : Go l Z EL R B0 Q p e s m below T pc ls (z :: x :: st) := by
  subst hp; exact Go.step (fun t hr => XT.acmpNo X.here X.hx rfl (X.dec hd) rfl h1 h2 hc hr) g
theorem W.nullT (X : Wk l Z EL y bytes maxL ret R B0 p e s m args below meth c B T h k n)  {o : Int} (hd : decode bytes pc = .ok (.ifnull o, 3))  (ho : 0 ≤ (pc : Int) + o) (hp : ((pc : Int) + o).toNat = pc') (g : Go l Z EL R B0 Q p e s m below T pc' ls st) : Go l Z EL R B0 Q p e s m below T pc ls (.null :: st) :=
  Go.step (fun t hr => XS.ifnullYes X.here X.hx rfl rfl (X.dec hd) rfl ho hp hr) g
theorem W.nullF (X : Wk l Z EL y bytes maxL ret R B0 p e s m args below meth c B T h k n) {o : Int} {r : Addr} (hd : decode bytes pc = .ok (.ifnull o, 3))  (hp : pc + 3 = pc') (g : Go l Z EL R B0 Q p e s m below T pc' ls st) : Go l Z EL R B0 Q p e s m below T pc ls (.ref r :: st) := by
  subst hp; exact Go.step (fun t hr => XS.ifnullNo X.here X.hx rfl (X.dec hd) rfl hr) g
theorem W.nonnullT (X : Wk l Z EL y bytes maxL ret R B0 p e s m args below meth c B T h k n) {r : Addr} {o : Int} (hd : decode bytes pc = .ok (.ifnonnull o, 3))  (ho : 0 ≤ (pc : Int) + o) (hp : ((pc : Int) + o).toNat = pc') (g : Go l Z EL R B0 Q p e s m below T pc' ls st) : Go l Z EL R B0 Q p e s m below T pc ls (.ref r :: st) :=
  Go.step (fun t hr => XT.ifnonnullYes X.here X.hx rfl rfl (X.dec hd) rfl ho hp hr) g
theorem W.nonnullF (X : Wk l Z EL y bytes maxL ret R B0 p e s m args below meth c B T h k n) {o : Int} (hd : decode bytes pc = .ok (.ifnonnull o, 3))  (hp : pc + 3 = pc') (g : Go l Z EL R B0 Q p e s m below T pc' ls st) : Go l Z EL R B0 Q p e s m below T pc ls (.null :: st) := by
  subst hp; exact Go.step (fun t hr => XT.ifnonnullNo X.here X.hx rfl (X.dec hd) rfl hr) g
theorem W.tsw (X : Wk l Z EL y bytes maxL ret R B0 p e s m args below meth c B T h k n) {dflt low high : Int} {offs : Array Int} {len : Nat} {o : Int} {i : Int32} (hd : decode bytes pc = .ok (.tableswitch dflt low high offs, len)) (hin : ¬ (i.toInt < low ∨ i.toInt > high)) (hoff : offs[(i.toInt - low).toNat]? = some o) (ho : 0 ≤ (pc : Int) + o) (hp : ((pc : Int) + o).toNat = pc') (g : Go l Z EL R B0 Q p e s m below T pc' ls st) : Go l Z EL R B0 Q p e s m below T pc ls (.int i :: st) :=
  Go.step (fun t hr => XS.tswIn X.here X.hx rfl rfl (X.dec hd) rfl hin hoff ho hp hr) g
theorem W.ldcI (X : Wk l Z EL y bytes maxL ret R B0 p e s m args below meth c B T h k n) {index : Nat} {v : Int32} (w : (Jvm.Cond.constant y.cls index v).before a0 Z = true) (hd : decode bytes pc = .ok (.ldc index, 2)) (hp : pc + 2 = pc') (g : Go l Z EL R B0 Q p e s m below T pc' ls (.int v :: st)) : Go l Z EL R B0 Q p e s m below T pc ls st := by
  obtain ⟨i0, hE, hz, hB, V, locs, q0, X1, eT, hZ, hown, hS, hq, hF, hC, hK⟩ := X
  subst hp
  exact Go.step (fun t hr => Jvm.Stand.ldcI (g := mkF m pc ls st) X1 i0.1 hown (mv (s := s.setVm V) hZ w) rfl (i0.2.1 ▸ hd) hr) g
theorem W.ldcJ (X : Wk l Z EL y bytes maxL ret R B0 p e s m args below meth c B T h k n) {index : Nat} {v : Int64} (w : (Jvm.Cond.constantLong y.cls index v).before a0 Z = true) (hd : decode bytes pc = .ok (.ldc2_w index, 3)) (hp : pc + 3 = pc') (g : Go l Z EL R B0 Q p e s m below T pc' ls (.long v :: st)) : Go l Z EL R B0 Q p e s m below T pc ls st := by
  obtain ⟨i0, hE, hz, hB, V, locs, q0, X1, eT, hZ, hown, hS, hq, hF, hC, hK⟩ := X
  subst hp
  exact Go.step (fun t hr => Jvm.Stand.ldc2J (g := mkF m pc ls st) X1 i0.1 hown (mv (s := s.setVm V) hZ w) rfl (i0.2.1 ▸ hd) hr) g
theorem W.getF (X : Wk l Z EL y bytes maxL ret R B0 p e s m args below meth c B T h k n) {index : Nat} {R0 O nm d : String} {v : Value} (w : (Jvm.Cond.fieldLink y.cls index R0 nm d).before a0 Z = true) (via : Via Z R0 O nm d) (F : Fld Z h a O nm d v) (hd : decode bytes pc = .ok (.getfield index, 3)) (hp : pc + 3 = pc') (g : ∀ T', Wk l Z EL y bytes maxL ret R B0 p e s m args below meth c B T' h k n → Go l Z EL R B0 Q p e s m below T' pc' ls (v :: st)) : Go l Z EL R B0 Q p e s m below T pc ls (.ref a :: st) := by
  obtain ⟨i0, hE, hz, hB, V, locs, q0, X1, eT, hZ, hown, hS, hq, hF, hC, hK⟩ := X
  obtain ⟨T', X', e', st'⟩ := RoadKit.getF X1 i0.1 hZ hown (host := "") (Or.inl w) via eT F (g := mkF m pc ls (.ref a :: st)) rfl rfl (i0.2.1 ▸ hd)
  subst hp
  exact Go.step st' (g T' ⟨i0, hE, hz, hB, V, locs, q0, X', e', hZ, hown, hS, hq, hF, hC, hK⟩)
theorem W.getS (X : Wk l Z EL y bytes maxL ret R B0 p e s m args below meth c B T h k n) {index : Nat} {R0 O nm d host : String} {v : Value} (w : (Jvm.Cond.fieldLink y.cls index R0 nm d).before a0 Z = true ∨ (Jvm.Cond.fieldLinkNest y.cls index R0 nm d host).before a0 Z = true) (via : Via Z R0 O nm d) (F : Sta Z Z.heap O nm d v) (hd : decode bytes pc = .ok (.getstatic index, 3)) (hp : pc + 3 = pc') (g : ∀ T', Wk l Z EL y bytes maxL ret R B0 p e s m args below meth c B T' h k n → Go l Z EL R B0 Q p e s m below T' pc' ls (v :: st)) : Go l Z EL R B0 Q p e s m below T pc ls st := by
  obtain ⟨i0, hE, hz, hB, V, locs, q0, X1, eT, hZ, hown, hS, hq, hF, hC, hK⟩ := X
  obtain ⟨T', X', e', st'⟩ := RoadKit.getS2 X1 i0.1 hZ hown w via eT (F.ext hE.1) (g := mkF m pc ls st) rfl (i0.2.1 ▸ hd)
  subst hp
  exact Go.step st' (g T' ⟨i0, hE, hz, hB, V, locs, q0, X', e', hZ, hown, hS, hq, hF, hC, hK⟩)
theorem En.wr {sl : Nat} {v : Value} (E : En Z B h) (W : Wr h h' a sl v) (q : Z.heap.size ≤ a) : En Z B h' := ⟨(Old.wr (n0 := Z.heap.size) ⟨rfl, E.1⟩ W q).2, fun x r => by rw [W.size]; exact E.2 x r⟩
theorem W.putF (X : Wk l Z EL y bytes maxL ret R B0 p e s m args below meth c B T h k n) {index kk : Nat} {R0 O nm d C : String} {v old : Value} {ty : FieldType} (w : (Jvm.Cond.fieldLink y.cls index R0 nm d).before a0 Z = true) (via : Via Z R0 O nm d) (F : Fld Z h a O nm d old) (E : Exa Z h a C) (L : (Jvm.Cond.lays C O nm d).before a0 Z = true ∨ ((Jvm.Cond.laysFinal C O nm d).before a0 Z = true ∧ y.cls = O ∧ y.name = "<init>")) (wi : (Jvm.Cond.instantiable C kk).before a0 Z = true)
    (hty : parseFieldDescriptor d = some ty) (hn : narrow ty v = v) (hf : fits ty v = true) (ha : Z.heap.size ≤ a) (hnb : ¬ B a) (hd : decode bytes pc = .ok (.putfield index, 3)) (hp : pc + 3 = pc') (g : ∀ T' h', Wk l Z EL y bytes maxL ret R B0 p e s m args below meth c B T' h' k n → Wr h h' a (RoadKit.slotOf Z O nm d) v → Go l Z EL R B0 Q p e s m below T' pc' ls st) : Go l Z EL R B0 Q p e s m below T pc ls (v :: .ref a :: st) := by
  obtain ⟨i0, hE, hz, hB, V, locs, q0, X1, eT, hZ, hown, hS, hq, hF, hC, hK⟩ := X
  obtain ⟨T', h', X', e', W, st'⟩ := RoadKit.putF X1 i0.1 hZ hown (host := "") (Or.inl w) via eT F E (L.imp id fun q => ⟨q.1, q.2.1, i0.2.2.2.2.2.1.trans q.2.2⟩) wi hty hn hf (g := mkF m pc ls (v :: .ref a :: st)) rfl rfl (i0.2.1 ▸ hd)
  subst hp
  have S : Safe Z EL V h a := fun r => hnb (hK a r)
  exact Go.step st' (g T' h' ⟨i0, hE.wr W ha, by rw [W.size]; exact hz, hB, V, _, q0, X', e', hZ, hown, hS, by rw [W.size]; exact hq, Fr.snoc X' hF ha, hC.wr W S, fun x r => hK x ((hC.wrStep W S).2 x r)⟩ W)
theorem W.cast (X : Wk l Z EL y bytes maxL ret R B0 p e s m args below meth c B T h k n) {index : Nat} {K : String} (w : (Jvm.Cond.classLink y.cls index K).before a0 Z = true) (F : Ins Z h a K true) (hd : decode bytes pc = .ok (.checkcast index, 3)) (hp : pc + 3 = pc') (g : ∀ T', Wk l Z EL y bytes maxL ret R B0 p e s m args below meth c B T' h k n → Go l Z EL R B0 Q p e s m below T' pc' ls (.ref a :: st)) : Go l Z EL R B0 Q p e s m below T pc ls (.ref a :: st) := by
  obtain ⟨i0, hE, hz, hB, V, locs, q0, X1, eT, hZ, hown, hS, hq, hF, hC, hK⟩ := X
  obtain ⟨T', X', e', st'⟩ := RoadKit.castY X1 i0.1 hZ hown w eT F (g := mkF m pc ls (.ref a :: st)) rfl rfl (i0.2.1 ▸ hd)
  subst hp
  exact Go.step st' (g T' ⟨i0, hE, hz, hB, V, locs, q0, X', e', hZ, hown, hS, hq, hF, hC, hK⟩)
theorem W.instY (X : Wk l Z EL y bytes maxL ret R B0 p e s m args below meth c B T h k n) {index : Nat} {K : String} (w : (Jvm.Cond.classLink y.cls index K).before a0 Z = true) (F : Ins Z h a K true) (hd : decode bytes pc = .ok (.instanceof index, 3)) (hp : pc + 3 = pc') (g : ∀ T', Wk l Z EL y bytes maxL ret R B0 p e s m args below meth c B T' h k n → Go l Z EL R B0 Q p e s m below T' pc' ls (.int 1 :: st)) : Go l Z EL R B0 Q p e s m below T pc ls (.ref a :: st) := by
  obtain ⟨i0, hE, hz, hB, V, locs, q0, X1, eT, hZ, hown, hS, hq, hF, hC, hK⟩ := X
  obtain ⟨T', X', e', st'⟩ := RoadKit.instY X1 i0.1 hZ hown w eT F (g := mkF m pc ls (.ref a :: st)) rfl rfl (i0.2.1 ▸ hd)
  subst hp
  exact Go.step st' (g T' ⟨i0, hE, hz, hB, V, locs, q0, X', e', hZ, hown, hS, hq, hF, hC, hK⟩)
theorem W.instN (X : Wk l Z EL y bytes maxL ret R B0 p e s m args below meth c B T h k n) {index : Nat} {K C : String} (w : (Jvm.Cond.classLink y.cls index K).before a0 Z = true) (E : Exa Z h a C) (F : ∃ c t, Z.vm.findClass C = some c ∧ Z.vm.findClass K = some t ∧ Z.vm.assignable c t = false) (hd : decode bytes pc = .ok (.instanceof index, 3)) (hp : pc + 3 = pc') (g : ∀ T', Wk l Z EL y bytes maxL ret R B0 p e s m args below meth c B T' h k n → Go l Z EL R B0 Q p e s m below T' pc' ls (.int 0 :: st)) : Go l Z EL R B0 Q p e s m below T pc ls (.ref a :: st) := by
  obtain ⟨i0, hE, hz, hB, V, locs, q0, X1, eT, hZ, hown, hS, hq, hF, hC, hK⟩ := X
  obtain ⟨T', X', e', st'⟩ := RoadKit.instNo X1 i0.1 hZ hown w eT E F (g := mkF m pc ls (.ref a :: st)) rfl rfl (i0.2.1 ▸ hd)
  subst hp
  exact Go.step st' (g T' ⟨i0, hE, hz, hB, V, locs, q0, X', e', hZ, hown, hS, hq, hF, hC, hK⟩)
theorem W.instNull (X : Wk l Z EL y bytes maxL ret R B0 p e s m args below meth c B T h k n) {index : Nat} (hd : decode bytes pc = .ok (.instanceof index, 3)) (hp : pc + 3 = pc') (g : Go l Z EL R B0 Q p e s m below T pc' ls (.int 0 :: st)) : Go l Z EL R B0 Q p e s m below T pc ls (.null :: st) := by
  obtain ⟨i0, hE, hz, hB, V, locs, q0, X1, eT, hZ, hown, hS, hq, hF, hC, hK⟩ := X
  subst hp
  exact Go.step (fun t hr => Jvm.Stand.instanceofNull X1 i0.1 (g := mkF m pc ls (.null :: st)) rfl rfl (i0.2.1 ▸ hd) t hr) g
theorem inst_ord {K : String} {n : Nat} (w : (Jvm.Cond.instantiable K n).before a0 Z = true) : ∃ t k, Z.vm.findClass K = some t ∧ Z.vm.classes[t]? = some k ∧ k.kind = .ordinary ∧ k.isInterface = false := by
  simp only [Cond.before, Cond.holds, Cond.value] at w
  cases ht : Z.vm.findClass K with
  | none => simp [ht] at w
  | some t =>
    cases hk : Z.vm.classes[t]? with
    | none => simp [ht, hk] at w
    | some k =>
      simp [ht, hk] at w
      exact ⟨t, k, rfl, hk, w.1.1.1, w.1.1.2.1⟩
theorem nsRoot {O K : String} {n : Nat} (wo : (Jvm.Cond.noSuperclass O).before a0 Z = true) (wk : (Jvm.Cond.instantiable K n).before a0 Z = true) (hn' : O ≠ K) : NS Z O K := by
  obtain ⟨t, kt, g0, g2, g5, g7⟩ := inst_ord wk
  obtain ⟨c, k, h1, h2, h3, -, -⟩ := Cond.noSuperclass_spec wo
  have ne := ids_ne h1 g0 hn'
  refine ⟨c, t, h1, g0, fun fuel => ?_⟩
  cases fuel with
  | zero => rfl
  | succ f => simp [Vm.isSubclassAux, ne, h2, h3]
theorem nsNo {C S K : String} {n : Nat} (w : (Jvm.Cond.superclass C S).before a0 Z = true) (wk : (Jvm.Cond.instantiable K n).before a0 Z = true) (N : NS Z S K) (hn : C ≠ K) : ∃ c t, Z.vm.findClass C = some c ∧ Z.vm.findClass K = some t ∧ Z.vm.assignable c t = false := by
  obtain ⟨t, kt, g0, g2, g5, g7⟩ := inst_ord wk
  obtain ⟨c, t', h0, g0', n3⟩ := NS.step w N hn
  cases g0.symm.trans g0'
  obtain ⟨p, k, kp, h1, h2, h3, h4, h5, -, h7⟩ := Cond.superclass_spec h0 w
  have ne := ids_ne h0 g0 hn
  refine ⟨c, t, h0, g0, ?_⟩
  show Z.vm.assignableAux (255 + 1) c t = false
  simp [Vm.assignableAux, ne, h2, g2, h5, g5, g7, Vm.isSubclass, n3]
theorem En.ext (E : En Z B h) (W : Ext h h') : En Z B h' := ⟨⟨Nat.le_trans E.1.1 W.1, fun x c q => W.2 x c (E.1.2 x c q)⟩, fun x r => Nat.lt_of_lt_of_le (E.2 x r) W.1⟩
theorem keepE (E : Ext h h') : Keep h h' [] := (Keep.refl h []).ext E
theorem W.new (X : Wk l Z EL y bytes maxL ret R B0 p e s m args below meth c B T h k n) {index sz : Nat} {C : String} (w : (Jvm.Cond.classLink y.cls index C).before a0 Z = true) (wi : (Jvm.Cond.instantiable C sz).before a0 Z = true) (wz : (Jvm.Cond.initialized C).before a0 Z = true) (hd : decode bytes pc = .ok (.new index, 3)) (hp : pc + 3 = pc') {k' n' : Nat} (hk : k + 1 ≤ k') (hn : n + sz ≤ n') (hk' : k' ≤ R.cells) (hn' : n' ≤ R.slots)
    (g : ∀ T' h' a, Wk l Z EL y bytes maxL ret R B0 p e s m args below meth c B T' h' k' n' → Keep h h' [] → h.size ≤ a → Z.heap.size ≤ a → ¬ B a → Exa Z h' a C → (∀ {O nm d : String} {ty : FieldType}, Laid Z a0 C O nm d → parseFieldDescriptor d = some ty → Fld Z h' a O nm d (defaultValue ty)) → Go l Z EL R B0 Q p e s m below T' pc' ls (.ref a :: st)) : Go l Z EL R B0 Q p e s m below T pc ls st := by
  have X0 := X
  obtain ⟨i0, hE, hz, hB, V, locs, q0, X1, eT, hZ, hown, hS, hq, hF, hC, hK⟩ := X
  obtain ⟨T', h', X', e', E, A, D, -, st'⟩ := RoadKit.newO X1 i0.1 hZ hown w wi wz eT (g := mkF m pc ls st) rfl (i0.2.1 ▸ hd) (Nat.le_trans hk hk') (Nat.le_trans hn hn')
  subst hp
  exact Go.step st' (g T' h' h.size ⟨i0, hE.ext E, Nat.le_trans hz E.1, hB, V, locs, q0, X'.mono hk hn, e', hZ, hown, hS, Nat.le_trans hq E.1, hF, hC.ext E, fun x r => hK x ((hC.step fun _ _ _ q => E.2 _ _ q).2 x r)⟩ (keepE E) (Nat.le_refl _) X0.z0 (X0.nb (Nat.le_refl _)) A D)
theorem W.newA (X : Wk l Z EL y bytes maxL ret R B0 p e s m args below meth c B T h k n) {aty : ArrayType} {z : Int32} {cap : Nat} (w : (Jvm.Cond.arrayClass (newarray.typeOf aty)).before a0 Z = true) (hd : decode bytes pc = .ok (.newarray aty, 2)) (hz0 : ¬ z < 0) (hcap : z.toNatClampNeg ≤ cap) (hcb : cap * 8 ≤ 536870912) (hp : pc + 2 = pc') {k' n' : Nat} (hk : k + 1 ≤ k') (hn : n + cap ≤ n') (hk' : k' ≤ R.cells) (hn' : n' ≤ R.slots)
    (g : ∀ T' h' a, Wk l Z EL y bytes maxL ret R B0 p e s m args below meth c B T' h' k' n' → Keep h h' [] → h.size ≤ a → Z.heap.size ≤ a → ¬ B a → Ar Z h' a (newarray.typeOf aty) (List.replicate z.toNatClampNeg (defaultValue (newarray.typeOf aty))) → Go l Z EL R B0 Q p e s m below T' pc' ls (.ref a :: st)) : Go l Z EL R B0 Q p e s m below T pc ls (.int z :: st) := by
  have X0 := X
  obtain ⟨i0, hE, hz, hB, V, locs, q0, X1, eT, hZ, hown, hS, hq, hF, hC, hK⟩ := X
  obtain ⟨T', h', cA, X', e', E, A, st'⟩ := RoadKit.newP X1 i0.1 hZ w eT (g := mkF m pc ls (.int z :: st)) rfl (i0.2.1 ▸ hd) rfl hz0 hcap hcb (Nat.le_trans hk hk') (Nat.le_trans hn hn')
  subst hp
  exact Go.step st' (g T' h' h.size ⟨i0, hE.ext E, Nat.le_trans hz E.1, hB, V, locs, q0, X'.mono hk hn, e', hZ, hown, hS, Nat.le_trans hq E.1, hF, hC.ext E, fun x r => hK x ((hC.step fun _ _ _ q => E.2 _ _ q).2 x r)⟩ (keepE E) (Nat.le_refl _) X0.z0 (X0.nb (Nat.le_refl _)) (Ar.new A hz0))
theorem W.newR (X : Wk l Z EL y bytes maxL ret R B0 p e s m args below meth c B T h k n) {index : Nat} {C : String} {z : Int32} {cap : Nat} (w1 : (Jvm.Cond.classLink y.cls index C).before a0 Z = true) (w2 : (Jvm.Cond.arrayOver (.object C)).before a0 Z = true) (hd : decode bytes pc = .ok (.anewarray index, 3)) (hz0 : ¬ z < 0) (hcap : z.toNatClampNeg ≤ cap) (hcb : cap * 8 ≤ 536870912) (hp : pc + 3 = pc') {k' n' : Nat} (hk : k + 1 ≤ k') (hn : n + cap ≤ n') (hk' : k' ≤ R.cells) (hn' : n' ≤ R.slots)
    (g : ∀ T' h' a, Wk l Z EL y bytes maxL ret R B0 p e s m args below meth c B T' h' k' n' → Keep h h' [] → h.size ≤ a → Z.heap.size ≤ a → ¬ B a → Ar Z h' a (.object C) (List.replicate z.toNatClampNeg .null) → Tk Z h' a C → Go l Z EL R B0 Q p e s m below T' pc' ls (.ref a :: st)) : Go l Z EL R B0 Q p e s m below T pc ls (.int z :: st) := by
  have X0 := X
  obtain ⟨i0, hE, hz, hB, V, locs, q0, X1, eT, hZ, hown, hS, hq, hF, hC, hK⟩ := X
  obtain ⟨T', h', cA, X', e', E, A, O, st'⟩ := RoadKit.newR X1 i0.1 hZ hown w1 w2 eT (g := mkF m pc ls (.int z :: st)) rfl (i0.2.1 ▸ hd) rfl hz0 hcap hcb (Nat.le_trans hk hk') (Nat.le_trans hn hn')
  subst hp
  exact Go.step st' (g T' h' h.size ⟨i0, hE.ext E, Nat.le_trans hz E.1, hB, V, locs, q0, X'.mono hk hn, e', hZ, hown, hS, Nat.le_trans hq E.1, hF, hC.ext E, fun x r => hK x ((hC.step fun _ _ _ q => E.2 _ _ q).2 x r)⟩ (keepE E) (Nat.le_refl _) X0.z0 (X0.nb (Nat.le_refl _)) (Ar.new A hz0) ⟨_, _, A, O⟩)
theorem W.alen (X : Wk l Z EL y bytes maxL ret R B0 p e s m args below meth c B T h k n) {z : Int32} (A : Ar Z h a ty vs) (hv : vs.length.toInt32 = z) (hd : decode bytes pc = .ok (.arraylength, 1)) (hp : pc + 1 = pc') (g : Go l Z EL R B0 Q p e s m below T pc' ls (.int z :: st)) : Go l Z EL R B0 Q p e s m below T pc ls (.ref a :: st) := by
  obtain ⟨i0, hE, hz, hB, V, locs, q0, X1, eT, hZ, hown, hS, hq, hF, hC, hK⟩ := X
  obtain ⟨cl, A, e1, -, -⟩ := A
  have e2 : cl.slots.size = vs.length := by rw [← e1]; simp
  subst hp hv
  rw [← e2] at g
  exact Go.step (fun t hr => X1.arraylength i0.1 (by rw [eT]; exact A.1) (State.isArrayOf_alike hZ.alike A.2.1) (g := mkF m pc ls (.ref a :: st)) rfl rfl (i0.2.1 ▸ hd) t hr) g
theorem W.caload (X : Wk l Z EL y bytes maxL ret R B0 p e s m args below meth c B T h k n) {j : Int32} {v : Value} (A : Ar Z h a .char vs) (hj : ¬ j < 0) (hv : vs[j.toNatClampNeg]? = some v) (hd : decode bytes pc = .ok (.caload, 1)) (hp : pc + 1 = pc') (g : Go l Z EL R B0 Q p e s m below T pc' ls (v :: st)) : Go l Z EL R B0 Q p e s m below T pc ls (.int j :: .ref a :: st) := by
  obtain ⟨i0, hE, hz, hB, V, locs, q0, X1, eT, hZ, hown, hS, hq, hF, hC, hK⟩ := X
  obtain ⟨cl, A, e1, -, -⟩ := A
  have e2 : cl.slots.size = vs.length := by rw [← e1]; simp
  have hlt : j.toNatClampNeg < vs.length := (List.getElem?_eq_some_iff.mp hv).1
  subst hp
  exact Go.step (fun t hr => X1.caload i0.1 (by rw [eT]; exact A.1) (State.isArrayOf_alike hZ.alike A.2.1) A.2.2 (fun r => r.elim hj fun z => by omega) (by rw [← Array.getElem?_toList, e1]; exact hv) (g := mkF m pc ls (.int j :: .ref a :: st)) rfl rfl (i0.2.1 ▸ hd) t hr) g
theorem W.baload (X : Wk l Z EL y bytes maxL ret R B0 p e s m args below meth c B T h k n) {j : Int32} {v : Value} (A : Ar Z h a .byte vs) (hj : ¬ j < 0) (hv : vs[j.toNatClampNeg]? = some v) (hd : decode bytes pc = .ok (.baload, 1)) (hp : pc + 1 = pc') (g : Go l Z EL R B0 Q p e s m below T pc' ls (v :: st)) : Go l Z EL R B0 Q p e s m below T pc ls (.int j :: .ref a :: st) := by
  obtain ⟨i0, hE, hz, hB, V, locs, q0, X1, eT, hZ, hown, hS, hq, hF, hC, hK⟩ := X
  obtain ⟨cl, A, e1, -, -⟩ := A
  have e2 : cl.slots.size = vs.length := by rw [← e1]; simp
  have hlt : j.toNatClampNeg < vs.length := (List.getElem?_eq_some_iff.mp hv).1
  subst hp
  exact Go.step (fun t hr => X1.baloadBytes i0.1 (by rw [eT]; exact A.1) (State.isArrayOf_alike hZ.alike A.2.1) A.2.2 (fun r => r.elim hj fun z => by omega) (by rw [← Array.getElem?_toList, e1]; exact hv) (g := mkF m pc ls (.int j :: .ref a :: st)) rfl rfl (i0.2.1 ▸ hd) t hr) g
theorem W.iaload (X : Wk l Z EL y bytes maxL ret R B0 p e s m args below meth c B T h k n) {j : Int32} {v : Value} (A : Ar Z h a .int vs) (hj : ¬ j < 0) (hv : vs[j.toNatClampNeg]? = some v) (hd : decode bytes pc = .ok (.iaload, 1)) (hp : pc + 1 = pc') (g : Go l Z EL R B0 Q p e s m below T pc' ls (v :: st)) : Go l Z EL R B0 Q p e s m below T pc ls (.int j :: .ref a :: st) := by
  obtain ⟨i0, hE, hz, hB, V, locs, q0, X1, eT, hZ, hown, hS, hq, hF, hC, hK⟩ := X
  obtain ⟨cl, A, e1, -, -⟩ := A
  have e2 : cl.slots.size = vs.length := by rw [← e1]; simp
  have hlt : j.toNatClampNeg < vs.length := (List.getElem?_eq_some_iff.mp hv).1
  subst hp
  exact Go.step (fun t hr => X1.iaload i0.1 (by rw [eT]; exact A.1) (State.isArrayOf_alike hZ.alike A.2.1) A.2.2 (fun r => r.elim hj fun z => by omega) (by rw [← Array.getElem?_toList, e1]; exact hv) (g := mkF m pc ls (.int j :: .ref a :: st)) rfl rfl (i0.2.1 ▸ hd) t hr) g
theorem W.laload (X : Wk l Z EL y bytes maxL ret R B0 p e s m args below meth c B T h k n) {j : Int32} {v : Value} (A : Ar Z h a .long vs) (hj : ¬ j < 0) (hv : vs[j.toNatClampNeg]? = some v) (hd : decode bytes pc = .ok (.laload, 1)) (hp : pc + 1 = pc') (g : Go l Z EL R B0 Q p e s m below T pc' ls (v :: st)) : Go l Z EL R B0 Q p e s m below T pc ls (.int j :: .ref a :: st) := by
  obtain ⟨i0, hE, hz, hB, V, locs, q0, X1, eT, hZ, hown, hS, hq, hF, hC, hK⟩ := X
  obtain ⟨cl, A, e1, -, -⟩ := A
  have e2 : cl.slots.size = vs.length := by rw [← e1]; simp
  have hlt : j.toNatClampNeg < vs.length := (List.getElem?_eq_some_iff.mp hv).1
  subst hp
  exact Go.step (fun t hr => X1.laload i0.1 (by rw [eT]; exact A.1) (State.isArrayOf_alike hZ.alike A.2.1) A.2.2 (fun r => r.elim hj fun z => by omega) (by rw [← Array.getElem?_toList, e1]; exact hv) (g := mkF m pc ls (.int j :: .ref a :: st)) rfl rfl (i0.2.1 ▸ hd) t hr) g
theorem W.zaload (X : Wk l Z EL y bytes maxL ret R B0 p e s m args below meth c B T h k n) {j : Int32} {v : Value} (A : Ar Z h a .boolean vs) (hj : ¬ j < 0) (hv : vs[j.toNatClampNeg]? = some v) (hd : decode bytes pc = .ok (.baload, 1)) (hp : pc + 1 = pc') (g : Go l Z EL R B0 Q p e s m below T pc' ls (v :: st)) : Go l Z EL R B0 Q p e s m below T pc ls (.int j :: .ref a :: st) := by
  obtain ⟨i0, hE, hz, hB, V, locs, q0, X1, eT, hZ, hown, hS, hq, hF, hC, hK⟩ := X
  obtain ⟨cl, A, e1, -, -⟩ := A
  have e2 : cl.slots.size = vs.length := by rw [← e1]; simp
  have hlt : j.toNatClampNeg < vs.length := (List.getElem?_eq_some_iff.mp hv).1
  subst hp
  exact Go.step (fun t hr => X1.baloadBooleans i0.1 (by rw [eT]; exact A.1) (State.isArrayOf_alike hZ.alike A.2.1) A.2.2 (fun r => r.elim hj fun z => by omega) (by rw [← Array.getElem?_toList, e1]; exact hv) (g := mkF m pc ls (.int j :: .ref a :: st)) rfl rfl (i0.2.1 ▸ hd) t hr) g
theorem W.aaload (X : Wk l Z EL y bytes maxL ret R B0 p e s m args below meth c B T h k n) {j : Int32} {v : Value} (A : Ar Z h a ty vs) (hty : ty.isReference = true) (hj : ¬ j < 0) (hv : vs[j.toNatClampNeg]? = some v) (hd : decode bytes pc = .ok (.aaload, 1)) (hp : pc + 1 = pc') (g : Go l Z EL R B0 Q p e s m below T pc' ls (v :: st)) : Go l Z EL R B0 Q p e s m below T pc ls (.int j :: .ref a :: st) := by
  obtain ⟨i0, hE, hz, hB, V, locs, q0, X1, eT, hZ, hown, hS, hq, hF, hC, hK⟩ := X
  obtain ⟨cl, A, e1, -, -⟩ := A
  have e2 : cl.slots.size = vs.length := by rw [← e1]; simp
  have hlt : j.toNatClampNeg < vs.length := (List.getElem?_eq_some_iff.mp hv).1
  subst hp
  exact Go.step (fun t hr => X1.aaload i0.1 (by rw [eT]; exact A.1) (State.isArrayOf_alike hZ.alike A.2.1) hty A.2.2 (fun r => r.elim hj fun z => by omega) (by rw [← Array.getElem?_toList, e1]; exact hv) (g := mkF m pc ls (.int j :: .ref a :: st)) rfl rfl (i0.2.1 ▸ hd) t hr) g
theorem Ar.set {cl : Cell} {i : Nat} {v : Value} (A : Arr Z h a cl ty) (e1 : cl.slots.toList = vs) (hl : vs.length < 2 ^ 31) (hf : ∀ v ∈ vs, fits ty v = true) (hv : fits ty v = true) (W : Wr h h' a i v) : Ar Z h' a ty (vs.set i v) :=
  ⟨_, A.same W, by simp [Cell.setSlot, ← e1], by simpa using hl, fun w hw => (List.mem_or_eq_of_mem_set hw).elim (hf w) fun q => q ▸ hv⟩
theorem W.castore (X : Wk l Z EL y bytes maxL ret R B0 p e s m args below meth c B T h k n) {j : Int32} {x x' : Int32} {i : Nat} (A : Ar Z h a .char vs) (hj : ¬ j < 0) (hi : j.toNatClampNeg = i) (hl : i < vs.length) (hx : nar .char x = x') (ha : Z.heap.size ≤ a) (hnb : ¬ B a) (hd : decode bytes pc = .ok (.castore, 1)) (hp : pc + 1 = pc') (g : ∀ T' h', Wk l Z EL y bytes maxL ret R B0 p e s m args below meth c B T' h' k n → Keep h h' [a] → Ar Z h' a .char (vs.set i (.int x')) → Go l Z EL R B0 Q p e s m below T' pc' ls st) : Go l Z EL R B0 Q p e s m below T pc ls (.int x :: .int j :: .ref a :: st) := by
  obtain ⟨i0, hE, hz, hB, V, locs, q0, X1, eT, hZ, hown, hS, hq, hF, hC, hK⟩ := X
  obtain ⟨cl, A, e1, hl31, hfit⟩ := A
  have e2 : cl.slots.size = vs.length := by rw [← e1]; simp
  subst hi hx
  obtain ⟨T', h', X', e', W, st'⟩ := RoadKit.stC X1 i0.1 hZ eT A (fun r => r.elim hj fun z => by omega) (g := mkF m pc ls (.int x :: .int j :: .ref a :: st)) rfl rfl (i0.2.1 ▸ hd)
  subst hp
  have S : Safe Z EL V h a := fun r => hnb (hK a r)
  exact Go.step st' (g T' h' ⟨i0, hE.wr W ha, by rw [W.size]; exact hz, hB, V, _, q0, X', e', hZ, hown, hS, by rw [W.size]; exact hq, Fr.snoc X' hF ha, hC.wr W S, fun x r => hK x ((hC.wrStep W S).2 x r)⟩ (Keep.of_wr W) (Ar.set A e1 hl31 hfit (fits_nar_char x) W))
theorem W.bastore (X : Wk l Z EL y bytes maxL ret R B0 p e s m args below meth c B T h k n) {j : Int32} {x x' : Int32} {i : Nat} (A : Ar Z h a .byte vs) (hj : ¬ j < 0) (hi : j.toNatClampNeg = i) (hl : i < vs.length) (hx : nar .byte x = x') (ha : Z.heap.size ≤ a) (hnb : ¬ B a) (hd : decode bytes pc = .ok (.bastore, 1)) (hp : pc + 1 = pc') (g : ∀ T' h', Wk l Z EL y bytes maxL ret R B0 p e s m args below meth c B T' h' k n → Keep h h' [a] → Ar Z h' a .byte (vs.set i (.int x')) → Go l Z EL R B0 Q p e s m below T' pc' ls st) : Go l Z EL R B0 Q p e s m below T pc ls (.int x :: .int j :: .ref a :: st) := by
  obtain ⟨i0, hE, hz, hB, V, locs, q0, X1, eT, hZ, hown, hS, hq, hF, hC, hK⟩ := X
  obtain ⟨cl, A, e1, hl31, hfit⟩ := A
  have e2 : cl.slots.size = vs.length := by rw [← e1]; simp
  subst hi hx
  obtain ⟨T', h', X', e', W, st'⟩ := RoadKit.stB X1 i0.1 hZ eT A (fun r => r.elim hj fun z => by omega) (g := mkF m pc ls (.int x :: .int j :: .ref a :: st)) rfl rfl (i0.2.1 ▸ hd)
  subst hp
  have S : Safe Z EL V h a := fun r => hnb (hK a r)
  exact Go.step st' (g T' h' ⟨i0, hE.wr W ha, by rw [W.size]; exact hz, hB, V, _, q0, X', e', hZ, hown, hS, by rw [W.size]; exact hq, Fr.snoc X' hF ha, hC.wr W S, fun x r => hK x ((hC.wrStep W S).2 x r)⟩ (Keep.of_wr W) (Ar.set A e1 hl31 hfit (fits_nar_byte x) W))
theorem W.iastore (X : Wk l Z EL y bytes maxL ret R B0 p e s m args below meth c B T h k n) {j : Int32} {x x' : Int32} {i : Nat} (A : Ar Z h a .int vs) (hj : ¬ j < 0) (hi : j.toNatClampNeg = i) (hl : i < vs.length) (hx : x = x') (ha : Z.heap.size ≤ a) (hnb : ¬ B a) (hd : decode bytes pc = .ok (.iastore, 1)) (hp : pc + 1 = pc') (g : ∀ T' h', Wk l Z EL y bytes maxL ret R B0 p e s m args below meth c B T' h' k n → Keep h h' [a] → Ar Z h' a .int (vs.set i (.int x')) → Go l Z EL R B0 Q p e s m below T' pc' ls st) : Go l Z EL R B0 Q p e s m below T pc ls (.int x :: .int j :: .ref a :: st) := by
  obtain ⟨i0, hE, hz, hB, V, locs, q0, X1, eT, hZ, hown, hS, hq, hF, hC, hK⟩ := X
  obtain ⟨cl, A, e1, hl31, hfit⟩ := A
  have e2 : cl.slots.size = vs.length := by rw [← e1]; simp
  subst hi hx
  obtain ⟨T', h', X', e', W, st'⟩ := RoadKit.stI X1 i0.1 hZ eT A (fun r => r.elim hj fun z => by omega) (g := mkF m pc ls (.int x :: .int j :: .ref a :: st)) rfl rfl (i0.2.1 ▸ hd)
  subst hp
  have S : Safe Z EL V h a := fun r => hnb (hK a r)
  exact Go.step st' (g T' h' ⟨i0, hE.wr W ha, by rw [W.size]; exact hz, hB, V, _, q0, X', e', hZ, hown, hS, by rw [W.size]; exact hq, Fr.snoc X' hF ha, hC.wr W S, fun x r => hK x ((hC.wrStep W S).2 x r)⟩ (Keep.of_wr W) (Ar.set A e1 hl31 hfit (rfl) W))
theorem W.lastore (X : Wk l Z EL y bytes maxL ret R B0 p e s m args below meth c B T h k n) {j : Int32} {x x' : Int64} {i : Nat} (A : Ar Z h a .long vs) (hj : ¬ j < 0) (hi : j.toNatClampNeg = i) (hl : i < vs.length) (hx : x = x') (ha : Z.heap.size ≤ a) (hnb : ¬ B a) (hd : decode bytes pc = .ok (.lastore, 1)) (hp : pc + 1 = pc') (g : ∀ T' h', Wk l Z EL y bytes maxL ret R B0 p e s m args below meth c B T' h' k n → Keep h h' [a] → Ar Z h' a .long (vs.set i (.long x')) → Go l Z EL R B0 Q p e s m below T' pc' ls st) : Go l Z EL R B0 Q p e s m below T pc ls (.long x :: .int j :: .ref a :: st) := by
  obtain ⟨i0, hE, hz, hB, V, locs, q0, X1, eT, hZ, hown, hS, hq, hF, hC, hK⟩ := X
  obtain ⟨cl, A, e1, hl31, hfit⟩ := A
  have e2 : cl.slots.size = vs.length := by rw [← e1]; simp
  subst hi hx
  obtain ⟨T', h', X', e', W, st'⟩ := RoadKit.stJ X1 i0.1 hZ eT A (fun r => r.elim hj fun z => by omega) (g := mkF m pc ls (.long x :: .int j :: .ref a :: st)) rfl rfl (i0.2.1 ▸ hd)
  subst hp
  have S : Safe Z EL V h a := fun r => hnb (hK a r)
  exact Go.step st' (g T' h' ⟨i0, hE.wr W ha, by rw [W.size]; exact hz, hB, V, _, q0, X', e', hZ, hown, hS, by rw [W.size]; exact hq, Fr.snoc X' hF ha, hC.wr W S, fun x r => hK x ((hC.wrStep W S).2 x r)⟩ (Keep.of_wr W) (Ar.set A e1 hl31 hfit (rfl) W))
theorem W.aastore (X : Wk l Z EL y bytes maxL ret R B0 p e s m args below meth c B T h k n) {j : Int32} {v : Value} {i : Nat} (A : Ar Z h a ty vs) (hj : ¬ j < 0) (hi : j.toNatClampNeg = i) (hl : i < vs.length) (hty : ty.isReference = true) (F : Sto Z h a v) (hvf : fits ty v = true) (ha : Z.heap.size ≤ a) (hnb : ¬ B a) (hd : decode bytes pc = .ok (.aastore, 1)) (hp : pc + 1 = pc') (g : ∀ T' h', Wk l Z EL y bytes maxL ret R B0 p e s m args below meth c B T' h' k n → Keep h h' [a] → Ar Z h' a ty (vs.set i v) → Go l Z EL R B0 Q p e s m below T' pc' ls st) : Go l Z EL R B0 Q p e s m below T pc ls (v :: .int j :: .ref a :: st) := by
  obtain ⟨i0, hE, hz, hB, V, locs, q0, X1, eT, hZ, hown, hS, hq, hF, hC, hK⟩ := X
  obtain ⟨cl, A, e1, hl31, hfit⟩ := A
  have e2 : cl.slots.size = vs.length := by rw [← e1]; simp
  subst hi
  obtain ⟨T', h', X', e', W, st'⟩ := RoadKit.stR X1 i0.1 hZ eT A (fun r => r.elim hj fun z => by omega) hty F (g := mkF m pc ls (v :: .int j :: .ref a :: st)) rfl rfl (i0.2.1 ▸ hd)
  subst hp
  have S : Safe Z EL V h a := fun r => hnb (hK a r)
  exact Go.step st' (g T' h' ⟨i0, hE.wr W ha, by rw [W.size]; exact hz, hB, V, _, q0, X', e', hZ, hown, hS, by rw [W.size]; exact hq, Fr.snoc X' hF ha, hC.wr W S, fun x r => hK x ((hC.wrStep W S).2 x r)⟩ (Keep.of_wr W) (Ar.set A e1 hl31 hfit hvf W))
theorem Sto.tk {C : String} (F : Tk Z h a C) (I : Ins Z h b C true) : Sto Z h a (.ref b) := by obtain ⟨c, ty, A, O⟩ := F; exact Sto.of A O I
/-! Object.<init> -/
theorem W.initO (X : Wk l Z EL y bytes maxL ret R B0 p e s m args below meth c B T h k n) {idx W : Nat} (w1 : (Jvm.Cond.methodLink y.cls idx Lib.objectInit).before a0 Z = true) (w2 : (Jvm.Cond.instanceMethod Lib.objectInit).before a0 Z = true) (w3 : (Jvm.Cond.code Lib.objectInit ⟨#[0xb1]⟩ 1 none).before a0 Z = true) (hd : decode bytes pc = .ok (.invokespecial idx, 3)) (hsize : ls.size = maxL) (hf : 1 ≤ R.frames) (hW : (st.map fun v => v.category).sum ≤ W) (hl : W + 12 ≤ R.locals) (hp : pc + 3 = pc') (g : ∀ T', Wk l Z EL y bytes maxL ret R B0 p e s m args below meth c B T' h k n → Go l Z EL R B0 Q p e s m below T' pc' ls st) : Go l Z EL R B0 Q p e s m below T pc ls (.ref a :: st) := by
  obtain ⟨i0, hE, hz, hB, V, locs, q0, X1, eT, hZ, hown, hS, hq, hF, hC, hK⟩ := X
  obtain ⟨T', X', e', st'⟩ := RoadKit.initO X1 i0.1 hZ hown w1 w2 w3 eT (g := mkF m pc ls (.ref a :: st)) rfl (hsize.trans i0.2.2.1.symm) rfl (i0.2.1 ▸ hd) hf (W := W) (by show 2 * 0 + _ ≤ _; omega) hl
  subst hp
  exact Go.step st' (g T' ⟨i0, hE, hz, hB, V, locs, q0, X', e', hZ, hown, hS, hq, hF, hC, hK⟩)
theorem sameM {C : String} {z z' : MethodName} (hc : z.cls = z'.cls) (hy : z.cls ≠ "java/lang/invoke/MethodHandle" ∧ z.cls ≠ "java/lang/invoke/VarHandle") (wi : (Jvm.Cond.instanceMethod z).before a0 Z = true) (ws : (Jvm.Cond.selects C z' z').before a0 Z = true) : (Jvm.Cond.sameMethod z.cls z.cls z.name z.desc).before a0 Z = true := by
  obtain ⟨mk, methM, hnamed, -, -, -⟩ := Cond.instanceMethod_spec wi
  obtain ⟨c2, r2, m2, q1, q2, q3, q4, kP, hkP, hkPi⟩ := Cond.selects_spec ws
  have f1 := findClass_of_methodNamed hnamed
  have f2 := findClass_of_methodNamed q3
  rw [← hc, f1] at f2
  have e : mk.cls = m2.cls := Option.some.inj f2
  have hf : Z.methodFound? z.cls z.name z.desc = some mk := State.methodFound?_of_named hnamed hy
  have hn' : Z.methodNamed? ⟨z.cls, z.name, z.desc⟩ = some mk := hnamed
  simp [Cond.before, Cond.holds, Cond.value, f1, hf, hn', e, hkP, hkPi]
theorem nfM {C : String} {z z' : MethodName} (hc : z.cls = z'.cls) (ws : (Jvm.Cond.selects C z' z').before a0 Z = true) : NotFace Z z := fun r0 h0 => by
  obtain ⟨c2, r2, m2, q1, q2, q3, q4, kP, hkP, hkPi⟩ := Cond.selects_spec ws
  have f1 := findClass_of_methodNamed h0
  have f2 := findClass_of_methodNamed q3
  rw [← hc, f1] at f2
  have e : r0.cls = m2.cls := Option.some.inj f2
  exact ⟨kP, by rw [e]; exact hkP, hkPi⟩
/-! calls -/
theorem BackS.con {z : MethodName} {zb : ByteArray} {zl len W : Nat} {zr : Option FieldType} {rm : Room} {as' : Array Value} {Qc : Option Value → Heap → (Addr → Prop) → Prop} {V : Vm} (K : Con l Z EL [] z zb zl zr rm B h as' Qc) (hZ : Z.Warmed39 V) (wc : (Jvm.Cond.code z zb zl zr).before a0 Z = true) (wz : (Jvm.Cond.initialized z.cls).before a0 Z = true) (hf : rm.frames + 1 ≤ R.frames) (hl : W + (zl + 11) + rm.locals ≤ R.locals) {a1 : Array Value} (hEL : EW Z a1 EL) (H : CHv Z EL V h) (hK : ∀ x, Bk Z EL V h x → B x) :
    BackS l R p e below (s.setVm V) args z len W (fun A a => a = as' ∧ A.U.heap = h ∧ A.cells + rm.cells ≤ R.cells ∧ A.slots + rm.slots ≤ R.slots)
      (fun A _ v B1 => ∃ L B', B1.locs = A.locs ++ L ∧ B1.cells = A.cells + rm.cells ∧ B1.slots = A.slots + rm.slots ∧ Fr Z.heap.size L ∧ CHv Z EL B1.U.vm B1.U.heap ∧ (∀ x, Bk Z EL B1.U.vm B1.U.heap x → B' x) ∧ (∀ x, B' x → B x ∨ h.size ≤ x) ∧ En Z B' B1.U.heap ∧ h.size ≤ B1.U.heap.size ∧ Qc v B1.U.heap B') :=
  BackS.of_freeW (bytes := zb) (maxL := zl) (ret := zr) (E := fun _ first o t L k n => k = rm.cells ∧ n = rm.slots ∧ ∃ v B', o = .returned v ∧ Fr Z.heap.size L ∧ CHv Z EL t.vm t.heap ∧ (∀ x, Bk Z EL t.vm t.heap x → B' x) ∧ (∀ x, B' x → B x ∨ h.size ≤ x) ∧ En Z B' t.heap ∧ h.size ≤ t.heap.size ∧ Qc v t.heap B') K hf hl
    (fun m meth c A a Y hp => have hU : Z.Warmed39 A.U.vm := wtrans (s := s.setVm V) hZ Y.warmed
      ⟨by show (Jvm.Cond.and _ .tt).before a A.U = true; rw [Cond.before_and, mv hU wc]; rfl, mv hU wc, mv hU wz, hp.2.2.1, hp.2.2.2⟩)
    (fun m meth c A a g mk Y hp => ⟨hp.1, wtrans (s := s.setVm V) hZ Y.warmed, hp.2.1, (CHv.at Y hZ hEL H).1, fun x r => by
      rcases (CHv.at Y hZ hEL H).2.2 x r with q | q
      · exact hK x q
      · obtain ⟨cell, q2⟩ := r.there
        exact absurd (Array.getElem?_eq_some_iff.mp q2).1 (Nat.not_lt.mpr q)⟩) (fun _ _ _ _ _ _ _ _ _ => trivial)
    (fun _ _ _ _ ⟨v, L, B', h1, h2, h3, h4, h5, h6, h7, h8, h9⟩ => ⟨L, _, _, h9, rfl, rfl, v, B', h1, h2, h3, h4, h5, h6, h7, h8⟩)
    (fun m meth c A a g mk v t L k n Y hp _ _ ⟨e1, e2, v', B', e3, e4, e5, e6, e7, e8, e9, e10⟩ => by
      cases e3; subst e1 e2
      exact ⟨L, B', rfl, rfl, rfl, e4, e5, e6, e7, e8, e9, e10⟩)
/-- behind a call -/
theorem Wk.after {V : Vm} {q0 : Nat} {locs : List Loc} {U : State} {L : List Loc} {B' : Addr → Prop} {k1 n1 : Nat} (i0 : p.tables.exec = Jvm.exec ∧ c.code = bytes ∧ c.maxLocals = maxL ∧ meth.sig.returnType = ret ∧ meth.locks = false ∧ meth.name = y.name ∧ ∃ a1, EW Z a1 EL) (hz : s.heap.size ≤ h.size) (hB : ∀ x, B x → B0 x ∨ s.heap.size ≤ x) (hZ : Z.Warmed39 V) (hown : V.findClass y.cls = some m.cls) (hS : s.Since V q0) (hq : q0 ≤ h.size) (hF : Fr Z.heap.size locs)
    (X2 : Stand p l e R ((s.setVm V).setVm U.vm) m args below meth c U (locs ++ L) k1 n1) (hS2 : (s.setVm V).Since U.vm U.heap.size) (r1 : Fr Z.heap.size L) (r2 : CHv Z EL U.vm U.heap) (r3 : ∀ x, Bk Z EL U.vm U.heap x → B' x) (r4 : ∀ x, B' x → B x ∨ h.size ≤ x) (r5 : En Z B' U.heap) (r6 : h.size ≤ U.heap.size) : Wk l Z EL y bytes maxL ret R B0 p e s m args below meth c B' U U.heap k1 n1 :=
  ⟨i0, r5, Nat.le_trans hz r6, fun x r => (r4 x r).elim (hB x) fun q => Or.inr (Nat.le_trans hz q), U.vm, locs ++ L, U.heap.size, X2, rfl, State.Warmed39.trans (t := s.setVm V) hZ hS2.1, (hS2.1.alike.findClass _ _).trans hown, hS.trans hS2 (Nat.le_trans hq r6), Nat.le_refl _, hF.app r1, r2, r3⟩
theorem W.callS (X : Wk l Z EL y bytes maxL ret R B0 p e s m args below meth c B T h k n) {index : Nat} {z : MethodName} {zb : ByteArray} {zl W : Nat} {zr : Option FieldType} {rm : Room} {as' : Array Value} {Qc : Option Value → Heap → (Addr → Prop) → Prop} {argsL stk : List Value} (K : Con l Z EL [] z zb zl zr rm B h as' Qc) (w1 : (Jvm.Cond.methodLink y.cls index z).before a0 Z = true) (w2 : (Jvm.Cond.static z).before a0 Z = true) (wc : (Jvm.Cond.code z zb zl zr).before a0 Z = true) (wz : (Jvm.Cond.initialized z.cls).before a0 Z = true) (hy : z.cls ≠ "java/lang/invoke/MethodHandle" ∧ z.cls ≠ "java/lang/invoke/VarHandle") (hf : rm.frames + 1 ≤ R.frames) (hl : W + (zl + 11) + rm.locals ≤ R.locals) (hsize : ls.size = maxL)
    (hlen : ∀ sig, parseMethodDescriptor z.desc = some sig → argsL.length = sig.parameters.length) (has : argsL.toArray = as') (hstk : stk = argsL.reverse ++ st) (hW : (st.map fun v => v.category).sum ≤ W) (hd : decode bytes pc = .ok (.invokestatic index, 3)) (hp : pc + 3 = pc') {k' n' : Nat} (hk1 : k + rm.cells ≤ k') (hn1 : n + rm.slots ≤ n') (hk2 : k' ≤ R.cells) (hn2 : n' ≤ R.slots)
    (g : ∀ T' h' B' v, Wk l Z EL y bytes maxL ret R B0 p e s m args below meth c B' T' h' k' n' → h.size ≤ h'.size → (∀ x, B' x → B x ∨ h.size ≤ x) → Qc v h' B' → Go l Z EL R B0 Q p e s m below T' pc' ls (v.toList ++ st)) : Go l Z EL R B0 Q p e s m below T pc ls stk := by
  obtain ⟨i0, hE, hz, hB, V, locs, q0, X1, eT, hZ, hown, hS, hq, hF, hC, hK⟩ := X
  obtain ⟨a1, hEL⟩ := i0.2.2.2.2.2.2
  obtain ⟨v, vm₁, ⟨U, Lu, ku, nu⟩, hWv, X2, hS2, hgr, ⟨L, B', e1, e2, e3, r1, r2, r3, r4, r5, r6, r7⟩, st'⟩ := Jvm.RoadKit.callSS X1 i0.1 (y := z) hown (mv (s := s.setVm V) hZ w1) (mv (s := s.setVm V) hZ w2) (mv (s := s.setVm V) hZ wz) (mv (s := s.setVm V) hZ wc) hy (BackS.con K hZ wc wz hf hl hEL hC hK) (g := mkF m pc ls stk) rfl (hsize.trans i0.2.2.1.symm) (argsL := argsL) (rest := st) hlen hstk (by show 2 * 0 + _ ≤ _; omega) (i0.2.1 ▸ hd) (fun _ _ => ⟨has, eT, by show k + _ ≤ _; omega, by show n + _ ≤ _; omega⟩)
  dsimp only [Pt.U, Pt.locs, Pt.cells, Pt.slots] at X2 hS2 hgr e1 e2 e3 r2 r3 r5 r6 r7 st'
  subst e1 e2 e3 hp
  exact Go.via st' (g U U.heap B' v ((Wk.after i0 hz hB hZ hown hS hq hF X2 hS2 r1 r2 r3 r4 r5 r6).mono hk1 hn1) r6 r4 r7)
theorem W.callV (X : Wk l Z EL y bytes maxL ret R B0 p e s m args below meth c B T h k n) {index : Nat} {z : MethodName} {zi : MethodName} {C : String} {zb : ByteArray} {zl W : Nat} {zr : Option FieldType} {rm : Room} {as' : Array Value} {Qc : Option Value → Heap → (Addr → Prop) → Prop} {argsL stk : List Value} (K : Con l Z EL [] z zb zl zr rm B h as' Qc) (w1 : (Jvm.Cond.methodLink y.cls index zi).before a0 Z = true) (w2 : (Jvm.Cond.declares zi).before a0 Z = true) (w3 : NotFace Z zi) (w4 : (Jvm.Cond.selects C zi z).before a0 Z = true) (w5 : (Jvm.Cond.instanceMethod z).before a0 Z = true) (E : Exa Z h a C) (wc : (Jvm.Cond.code z zb zl zr).before a0 Z = true) (wz : (Jvm.Cond.initialized z.cls).before a0 Z = true) (hy : zi.cls ≠ "java/lang/invoke/MethodHandle" ∧ zi.cls ≠ "java/lang/invoke/VarHandle") (hf : rm.frames + 1 ≤ R.frames) (hl : W + (zl + 11) + rm.locals ≤ R.locals) (hsize : ls.size = maxL)
    (hlen : ∀ sig, parseMethodDescriptor zi.desc = some sig → argsL.length = sig.parameters.length) (has : (.ref a :: argsL).toArray = as') (hstk : stk = argsL.reverse ++ .ref a :: st) (hW : (st.map fun v => v.category).sum ≤ W) (hd : decode bytes pc = .ok (.invokevirtual index, 3)) (hp : pc + 3 = pc') {k' n' : Nat} (hk1 : k + rm.cells ≤ k') (hn1 : n + rm.slots ≤ n') (hk2 : k' ≤ R.cells) (hn2 : n' ≤ R.slots)
    (g : ∀ T' h' B' v, Wk l Z EL y bytes maxL ret R B0 p e s m args below meth c B' T' h' k' n' → h.size ≤ h'.size → (∀ x, B' x → B x ∨ h.size ≤ x) → Qc v h' B' → Go l Z EL R B0 Q p e s m below T' pc' ls (v.toList ++ st)) : Go l Z EL R B0 Q p e s m below T pc ls stk := by
  obtain ⟨i0, hE, hz, hB, V, locs, q0, X1, eT, hZ, hown, hS, hq, hF, hC, hK⟩ := X
  obtain ⟨a1, hEL⟩ := i0.2.2.2.2.2.2
  obtain ⟨cB, kB, j1, j2, j3⟩ := isOf (s := s.setVm V) hZ eT E
  have w3' : NotFace (s.setVm V) zi := fun r0 h0 => by
    have h0' : (Z.setVm V).methodNamed? zi = some r0 := h0
    rw [State.methodNamed?_setVm hZ.alike] at h0'
    obtain ⟨kr, q1, q2⟩ := w3 r0 h0'
    obtain ⟨k2, q3, q4⟩ := hZ.alike.2.2 _ _ q1
    exact ⟨k2, q3, by rw [q4]; exact q2⟩
  obtain ⟨v, vm₁, ⟨U, Lu, ku, nu⟩, hWv, X2, hS2, hgr, ⟨L, B', e1, e2, e3, r1, r2, r3, r4, r5, r6, r7⟩, st'⟩ := X1.virtualBackS i0.1 (y := zi) (z := z) hown (mv (s := s.setVm V) hZ w1) (mv (s := s.setVm V) hZ w2) w3' (mv (s := s.setVm V) hZ w4) (mv (s := s.setVm V) hZ w5) hy (BackS.con K hZ wc wz hf hl hEL hC hK) j1 j3 (g := mkF m pc ls stk) rfl (hsize.trans i0.2.2.1.symm) (Steps.refl _) (argsL := argsL) (rest := st) hlen hstk (by show 2 * 0 + _ ≤ _; omega) (i0.2.1 ▸ hd) (fun _ _ => ⟨has, eT, by show k + _ ≤ _; omega, by show n + _ ≤ _; omega⟩)
  dsimp only [Pt.U, Pt.locs, Pt.cells, Pt.slots] at X2 hS2 hgr e1 e2 e3 r2 r3 r5 r6 r7 st'
  subst e1 e2 e3 hp
  exact Go.via st' (g U U.heap B' v ((Wk.after i0 hz hB hZ hown hS hq hF X2 hS2 r1 r2 r3 r4 r5 r6).mono hk1 hn1) r6 r4 r7)
theorem W.callI (X : Wk l Z EL y bytes maxL ret R B0 p e s m args below meth c B T h k n) {index : Nat} {count : Nat} {z : MethodName} {zi : MethodName} {C : String} {zb : ByteArray} {zl W : Nat} {zr : Option FieldType} {rm : Room} {as' : Array Value} {Qc : Option Value → Heap → (Addr → Prop) → Prop} {argsL stk : List Value} (K : Con l Z EL [] z zb zl zr rm B h as' Qc) (w1 : (Jvm.Cond.methodLink y.cls index zi).before a0 Z = true) (w2 : (Jvm.Cond.declares zi).before a0 Z = true) (w3 : (Jvm.Cond.interfaceMethod zi.cls zi.cls zi.name zi.desc).before a0 Z = true) (w4 : (Jvm.Cond.selects C zi z).before a0 Z = true) (w5 : (Jvm.Cond.instanceMethod z).before a0 Z = true) (w6 : (Jvm.Cond.publicMethod z).before a0 Z = true) (w7 : (Jvm.Cond.unhidden C zi.name zi.desc).before a0 Z = true) (w8 : (Jvm.Cond.castable C zi.cls).before a0 Z = true) (E : Exa Z h a C) (wc : (Jvm.Cond.code z zb zl zr).before a0 Z = true) (wz : (Jvm.Cond.initialized z.cls).before a0 Z = true) (hy : zi.cls ≠ "java/lang/invoke/MethodHandle" ∧ zi.cls ≠ "java/lang/invoke/VarHandle") (hf : rm.frames + 1 ≤ R.frames) (hl : W + (zl + 11) + rm.locals ≤ R.locals) (hsize : ls.size = maxL)
    (hlen : ∀ sig, parseMethodDescriptor zi.desc = some sig → argsL.length = sig.parameters.length) (has : (.ref a :: argsL).toArray = as') (hstk : stk = argsL.reverse ++ .ref a :: st) (hW : (st.map fun v => v.category).sum ≤ W) (hd : decode bytes pc = .ok (.invokeinterface index count, 5)) (hp : pc + 5 = pc') {k' n' : Nat} (hk1 : k + rm.cells ≤ k') (hn1 : n + rm.slots ≤ n') (hk2 : k' ≤ R.cells) (hn2 : n' ≤ R.slots)
    (g : ∀ T' h' B' v, Wk l Z EL y bytes maxL ret R B0 p e s m args below meth c B' T' h' k' n' → h.size ≤ h'.size → (∀ x, B' x → B x ∨ h.size ≤ x) → Qc v h' B' → Go l Z EL R B0 Q p e s m below T' pc' ls (v.toList ++ st)) : Go l Z EL R B0 Q p e s m below T pc ls stk := by
  obtain ⟨i0, hE, hz, hB, V, locs, q0, X1, eT, hZ, hown, hS, hq, hF, hC, hK⟩ := X
  obtain ⟨a1, hEL⟩ := i0.2.2.2.2.2.2
  obtain ⟨cB, kB, j1, j2, j3⟩ := isOf (s := s.setVm V) hZ eT E
  obtain ⟨v, vm₁, ⟨U, Lu, ku, nu⟩, hWv, X2, hS2, hgr, ⟨L, B', e1, e2, e3, r1, r2, r3, r4, r5, r6, r7⟩, st'⟩ := X1.interfaceBackS i0.1 (xi := zi) (y := z) hown (mv (s := s.setVm V) hZ w1) (mv (s := s.setVm V) hZ w2) (mv (s := s.setVm V) hZ w3 (by simp [Cond.onTables, Cond.keepsFace, Cond.keeps, Cond.steady, Cond.faceAtom, hy.1, hy.2])) (mv (s := s.setVm V) hZ w4) (mv (s := s.setVm V) hZ w5) (mv (s := s.setVm V) hZ w6) (mv (s := s.setVm V) hZ w7) (mv (s := s.setVm V) hZ w8) hy (BackS.con K hZ wc wz hf hl hEL hC hK) j1 j2 j3 (g := mkF m pc ls stk) rfl (hsize.trans i0.2.2.1.symm) (Steps.refl _) (argsL := argsL) (rest := st) hlen hstk (by show 2 * 0 + _ ≤ _; omega) (i0.2.1 ▸ hd) (fun _ _ => ⟨has, eT, by show k + _ ≤ _; omega, by show n + _ ≤ _; omega⟩)
  dsimp only [Pt.U, Pt.locs, Pt.cells, Pt.slots] at X2 hS2 hgr e1 e2 e3 r2 r3 r5 r6 r7 st'
  subst e1 e2 e3 hp
  exact Go.via st' (g U U.heap B' v ((Wk.after i0 hz hB hZ hown hS hq hF X2 hS2 r1 r2 r3 r4 r5 r6).mono hk1 hn1) r6 r4 r7)
theorem W.callN (X : Wk l Z EL y bytes maxL ret R B0 p e s m args below meth c B T h k n) {index : Nat} {z : MethodName} {zb : ByteArray} {zl W : Nat} {rm : Room} {as' : Array Value} {Qc : Option Value → Heap → (Addr → Prop) → Prop} {argsL stk : List Value} (K : Con l Z EL [] z zb zl none rm B h as' Qc) (hn : z.name = "<init>") (w1 : (Jvm.Cond.methodLink y.cls index z).before a0 Z = true) (w2 : (Jvm.Cond.instanceMethod z).before a0 Z = true) (wc : (Jvm.Cond.code z zb zl none).before a0 Z = true) (wz : (Jvm.Cond.initialized z.cls).before a0 Z = true) (hy : z.cls ≠ "java/lang/invoke/MethodHandle" ∧ z.cls ≠ "java/lang/invoke/VarHandle") (hf : rm.frames + 1 ≤ R.frames) (hl : W + (zl + 11) + rm.locals ≤ R.locals) (hsize : ls.size = maxL)
    (hlen : ∀ sig, parseMethodDescriptor z.desc = some sig → argsL.length = sig.parameters.length) (has : (.ref a :: argsL).toArray = as') (hstk : stk = argsL.reverse ++ .ref a :: st) (hW : (st.map fun v => v.category).sum ≤ W) (hd : decode bytes pc = .ok (.invokespecial index, 3)) (hp : pc + 3 = pc') {k' n' : Nat} (hk1 : k + rm.cells ≤ k') (hn1 : n + rm.slots ≤ n') (hk2 : k' ≤ R.cells) (hn2 : n' ≤ R.slots)
    (g : ∀ T' h' B' v, Wk l Z EL y bytes maxL ret R B0 p e s m args below meth c B' T' h' k' n' → h.size ≤ h'.size → (∀ x, B' x → B x ∨ h.size ≤ x) → Qc v h' B' → Go l Z EL R B0 Q p e s m below T' pc' ls (v.toList ++ st)) : Go l Z EL R B0 Q p e s m below T pc ls stk := by
  obtain ⟨i0, hE, hz, hB, V, locs, q0, X1, eT, hZ, hown, hS, hq, hF, hC, hK⟩ := X
  obtain ⟨a1, hEL⟩ := i0.2.2.2.2.2.2
  obtain ⟨v, vm₁, ⟨U, Lu, ku, nu⟩, hWv, X2, hS2, hgr, ⟨L, B', e1, e2, e3, r1, r2, r3, r4, r5, r6, r7⟩, st'⟩ := X1.specialBackS i0.1 (y := z) hn hown (mv (s := s.setVm V) hZ w1) (mv (s := s.setVm V) hZ w2) (mv (s := s.setVm V) hZ wc) hy (BackS.con K hZ wc wz hf hl hEL hC hK) (g := mkF m pc ls stk) rfl (hsize.trans i0.2.2.1.symm) (Steps.refl _) (a := a) (argsL := argsL) (rest := st) hlen hstk (by show 2 * 0 + _ ≤ _; omega) (i0.2.1 ▸ hd) (fun _ _ => ⟨has, eT, by show k + _ ≤ _; omega, by show n + _ ≤ _; omega⟩)
  dsimp only [Pt.U, Pt.locs, Pt.cells, Pt.slots] at X2 hS2 hgr e1 e2 e3 r2 r3 r5 r6 r7 st'
  subst e1 e2 e3 hp
  exact Go.via st' (g U U.heap B' v ((Wk.after i0 hz hB hZ hown hS hq hF X2 hS2 r1 r2 r3 r4 r5 r6).mono hk1 hn1) r6 r4 r7)
theorem W.callU (X : Wk l Z EL y bytes maxL ret R B0 p e s m args below meth c B T h k n) {index : Nat} {z : MethodName} {zi : MethodName} {C : String} {owner : String} {zb : ByteArray} {zl W : Nat} {zr : Option FieldType} {rm : Room} {as' : Array Value} {Qc : Option Value → Heap → (Addr → Prop) → Prop} {argsL stk : List Value} (K : Con l Z EL [] z zb zl zr rm B h as' Qc) (w1 : (Jvm.Cond.methodLink y.cls index zi).before a0 Z = true) (w2 : (Jvm.Cond.sameMethod zi.cls owner zi.name zi.desc).before a0 Z = true) (w3 : (Jvm.Cond.declares ⟨owner, zi.name, zi.desc⟩).before a0 Z = true) (ho : owner ≠ "java/lang/invoke/MethodHandle" ∧ owner ≠ "java/lang/invoke/VarHandle") (w4 : (Jvm.Cond.selects C zi z).before a0 Z = true) (w5 : (Jvm.Cond.instanceMethod z).before a0 Z = true) (E : Exa Z h a C) (wc : (Jvm.Cond.code z zb zl zr).before a0 Z = true) (wz : (Jvm.Cond.initialized z.cls).before a0 Z = true)  (hf : rm.frames + 1 ≤ R.frames) (hl : W + (zl + 11) + rm.locals ≤ R.locals) (hsize : ls.size = maxL)
    (hlen : ∀ sig, parseMethodDescriptor zi.desc = some sig → argsL.length = sig.parameters.length) (has : (.ref a :: argsL).toArray = as') (hstk : stk = argsL.reverse ++ .ref a :: st) (hW : (st.map fun v => v.category).sum ≤ W) (hd : decode bytes pc = .ok (.invokevirtual index, 3)) (hp : pc + 3 = pc') {k' n' : Nat} (hk1 : k + rm.cells ≤ k') (hn1 : n + rm.slots ≤ n') (hk2 : k' ≤ R.cells) (hn2 : n' ≤ R.slots)
    (g : ∀ T' h' B' v, Wk l Z EL y bytes maxL ret R B0 p e s m args below meth c B' T' h' k' n' → h.size ≤ h'.size → (∀ x, B' x → B x ∨ h.size ≤ x) → Qc v h' B' → Go l Z EL R B0 Q p e s m below T' pc' ls (v.toList ++ st)) : Go l Z EL R B0 Q p e s m below T pc ls stk := by
  obtain ⟨i0, hE, hz, hB, V, locs, q0, X1, eT, hZ, hown, hS, hq, hF, hC, hK⟩ := X
  obtain ⟨a1, hEL⟩ := i0.2.2.2.2.2.2
  obtain ⟨cB, kB, j1, j2, j3⟩ := isOf (s := s.setVm V) hZ eT E
  obtain ⟨v, vm₁, ⟨U, Lu, ku, nu⟩, hWv, X2, hS2, hgr, ⟨L, B', e1, e2, e3, r1, r2, r3, r4, r5, r6, r7⟩, st'⟩ := X1.virtualBackUpS i0.1 (x := zi) (y := z) (owner := owner) hown (mv (s := s.setVm V) hZ w1) (mv (s := s.setVm V) hZ w2) (mv (s := s.setVm V) hZ w3) ho (mv (s := s.setVm V) hZ w4) (mv (s := s.setVm V) hZ w5) (BackS.con K hZ wc wz hf hl hEL hC hK) j1 j3 (g := mkF m pc ls stk) rfl (hsize.trans i0.2.2.1.symm) (Steps.refl _) (argsL := argsL) (rest := st) hlen hstk (by show 2 * 0 + _ ≤ _; omega) (i0.2.1 ▸ hd) (fun _ _ => ⟨has, eT, by show k + _ ≤ _; omega, by show n + _ ≤ _; omega⟩)
  dsimp only [Pt.U, Pt.locs, Pt.cells, Pt.slots] at X2 hS2 hgr e1 e2 e3 r2 r3 r5 r6 r7 st'
  subst e1 e2 e3 hp
  exact Go.via st' (g U U.heap B' v ((Wk.after i0 hz hB hZ hown hS hq hF X2 hS2 r1 r2 r3 r4 r5 r6).mono hk1 hn1) r6 r4 r7)
theorem privAt {s : State} {z : MethodName} (hZ : Z.Warmed39 s.vm) (w : (Jvm.Cond.privateMethod z).before a0 Z = true) : s.PrivateAt z := Cond.privateMethod_at (mvP (args := #[]) hZ w)
theorem W.callP (X : Wk l Z EL y bytes maxL ret R B0 p e s m args below meth c B T h k n) {index : Nat} {z : MethodName} {C : String} {zb : ByteArray} {zl W : Nat} {zr : Option FieldType} {rm : Room} {as' : Array Value} {Qc : Option Value → Heap → (Addr → Prop) → Prop} {argsL stk : List Value} (K : Con l Z EL [] z zb zl zr rm B h as' Qc) (w1 : (Jvm.Cond.methodLink y.cls index z).before a0 Z = true) (w2 : (Jvm.Cond.instanceMethod z).before a0 Z = true) (w3 : NotFace Z z) (w4 : (Jvm.Cond.privateMethod z).before a0 Z = true) (E : Exa Z h a C) (wc : (Jvm.Cond.code z zb zl zr).before a0 Z = true) (wz : (Jvm.Cond.initialized z.cls).before a0 Z = true) (hy : z.cls ≠ "java/lang/invoke/MethodHandle" ∧ z.cls ≠ "java/lang/invoke/VarHandle") (hf : rm.frames + 1 ≤ R.frames) (hl : W + (zl + 11) + rm.locals ≤ R.locals) (hsize : ls.size = maxL)
    (hlen : ∀ sig, parseMethodDescriptor z.desc = some sig → argsL.length = sig.parameters.length) (has : (.ref a :: argsL).toArray = as') (hstk : stk = argsL.reverse ++ .ref a :: st) (hW : (st.map fun v => v.category).sum ≤ W) (hd : decode bytes pc = .ok (.invokevirtual index, 3)) (hp : pc + 3 = pc') {k' n' : Nat} (hk1 : k + rm.cells ≤ k') (hn1 : n + rm.slots ≤ n') (hk2 : k' ≤ R.cells) (hn2 : n' ≤ R.slots)
    (g : ∀ T' h' B' v, Wk l Z EL y bytes maxL ret R B0 p e s m args below meth c B' T' h' k' n' → h.size ≤ h'.size → (∀ x, B' x → B x ∨ h.size ≤ x) → Qc v h' B' → Go l Z EL R B0 Q p e s m below T' pc' ls (v.toList ++ st)) : Go l Z EL R B0 Q p e s m below T pc ls stk := by
  obtain ⟨i0, hE, hz, hB, V, locs, q0, X1, eT, hZ, hown, hS, hq, hF, hC, hK⟩ := X
  obtain ⟨a1, hEL⟩ := i0.2.2.2.2.2.2
  have w3' : NotFace (s.setVm V) z := fun r0 h0 => by
    have h0' : (Z.setVm V).methodNamed? z = some r0 := h0
    rw [State.methodNamed?_setVm hZ.alike] at h0'
    obtain ⟨kr, q1, q2⟩ := w3 r0 h0'
    obtain ⟨k2, q3, q4⟩ := hZ.alike.2.2 _ _ q1
    exact ⟨k2, q3, by rw [q4]; exact q2⟩
  obtain ⟨cellP, hcP, hobj⟩ := Exa.cell E
  have hcell : T.heap[a]? = some cellP := by rw [eT]; exact hcP
  obtain ⟨mkP, methP, hnP, -⟩ := Cond.instanceMethod_spec (mv (args := args) (s := s.setVm V) hZ w2)
  obtain ⟨kP, hkP, hkPi⟩ := w3' mkP hnP
  have hsel : (Jvm.Cond.selects z.cls z z).before args (s.setVm V) = true := Jvm.Stand.selects_self_of_private (findClass_of_methodNamed hnP) hkP hkPi (privAt (s := s.setVm V) hZ w4) (mv (s := s.setVm V) hZ w2) hy
  obtain ⟨v, vm₁, ⟨U, Lu, ku, nu⟩, hWv, X2, hS2, hgr, ⟨L, B', e1, e2, e3, r1, r2, r3, r4, r5, r6, r7⟩, st'⟩ := X1.privateBackS i0.1 (y := z) hown (mv (s := s.setVm V) hZ w1) (mv (s := s.setVm V) hZ w2) hsel (privAt (s := s.setVm V) hZ w4) (mv (s := s.setVm V) hZ wc) hy (BackS.con K hZ wc wz hf hl hEL hC hK) (g := mkF m pc ls stk) rfl (hsize.trans i0.2.2.1.symm) (Steps.refl _) hcell hobj (argsL := argsL) (rest := st) hlen hstk (by show 2 * 0 + _ ≤ _; omega) (i0.2.1 ▸ hd) (fun _ _ => ⟨has, eT, by show k + _ ≤ _; omega, by show n + _ ≤ _; omega⟩)
  dsimp only [Pt.U, Pt.locs, Pt.cells, Pt.slots] at X2 hS2 hgr e1 e2 e3 r2 r3 r5 r6 r7 st'
  subst e1 e2 e3 hp
  exact Go.via st' (g U U.heap B' v ((Wk.after i0 hz hB hZ hown hS hq hF X2 hS2 r1 r2 r3 r4 r5 r6).mono hk1 hn1) r6 r4 r7)
theorem W.callX (X : Wk l Z EL y bytes maxL ret R B0 p e s m args below meth c B T h k n) {index : Nat} {z : MethodName} {C : String} {zb : ByteArray} {zl W : Nat} {zr : Option FieldType} {rm : Room} {as' : Array Value} {Qc : Option Value → Heap → (Addr → Prop) → Prop} {argsL stk : List Value} (K : Con l Z EL [] z zb zl zr rm B h as' Qc) (w1 : (Jvm.Cond.methodLink y.cls index z).before a0 Z = true) (w2 : (Jvm.Cond.sameMethod z.cls z.cls z.name z.desc).before a0 Z = true) (w3 : (Jvm.Cond.instanceMethod z).before a0 Z = true) (w4 : (Jvm.Cond.superclass y.cls z.cls).before a0 Z = true) (hn : z.name ≠ "<init>") (E : Exa Z h a C) (wc : (Jvm.Cond.code z zb zl zr).before a0 Z = true) (wz : (Jvm.Cond.initialized z.cls).before a0 Z = true)  (hf : rm.frames + 1 ≤ R.frames) (hl : W + (zl + 11) + rm.locals ≤ R.locals) (hsize : ls.size = maxL)
    (hlen : ∀ sig, parseMethodDescriptor z.desc = some sig → argsL.length = sig.parameters.length) (has : (.ref a :: argsL).toArray = as') (hstk : stk = argsL.reverse ++ .ref a :: st) (hW : (st.map fun v => v.category).sum ≤ W) (hd : decode bytes pc = .ok (.invokespecial index, 3)) (hp : pc + 3 = pc') {k' n' : Nat} (hk1 : k + rm.cells ≤ k') (hn1 : n + rm.slots ≤ n') (hk2 : k' ≤ R.cells) (hn2 : n' ≤ R.slots)
    (g : ∀ T' h' B' v, Wk l Z EL y bytes maxL ret R B0 p e s m args below meth c B' T' h' k' n' → h.size ≤ h'.size → (∀ x, B' x → B x ∨ h.size ≤ x) → Qc v h' B' → Go l Z EL R B0 Q p e s m below T' pc' ls (v.toList ++ st)) : Go l Z EL R B0 Q p e s m below T pc ls stk := by
  obtain ⟨i0, hE, hz, hB, V, locs, q0, X1, eT, hZ, hown, hS, hq, hF, hC, hK⟩ := X
  obtain ⟨a1, hEL⟩ := i0.2.2.2.2.2.2
  obtain ⟨v, vm₁, ⟨U, Lu, ku, nu⟩, hWv, X2, hS2, hgr, ⟨L, B', e1, e2, e3, r1, r2, r3, r4, r5, r6, r7⟩, st'⟩ := Jvm.RoadKit.superBackS X1 i0.1 hZ hown w1 w2 w3 w4 hn (BackS.con K hZ wc wz hf hl hEL hC hK) eT (Ins.self E) (g := mkF m pc ls stk) rfl (hsize.trans i0.2.2.1.symm) wc (argsL := argsL) (rest := st) hlen hstk (by show 2 * 0 + _ ≤ _; omega) (i0.2.1 ▸ hd) (fun _ _ => ⟨has, eT, by show k + _ ≤ _; omega, by show n + _ ≤ _; omega⟩)
  dsimp only [Pt.U, Pt.locs, Pt.cells, Pt.slots] at X2 hS2 hgr e1 e2 e3 r2 r3 r5 r6 r7 st'
  subst e1 e2 e3 hp
  exact Go.via st' (g U U.heap B' v ((Wk.after i0 hz hB hZ hown hS hq hF X2 hS2 r1 r2 r3 r4 r5 r6).mono hk1 hn1) r6 r4 r7)
theorem kp {xv : Value} (g : ∀ T', Wk l Z EL y bytes maxL ret R B0 p e s m args below meth c B T' h k n → Go l Z EL R B0 Q p e s m below T' pc' ls (xv :: st)) : ∀ T' h' B' v, Wk l Z EL y bytes maxL ret R B0 p e s m args below meth c B' T' h' k n → h.size ≤ h'.size → (∀ x, B' x → B x ∨ h.size ≤ x) → (v = some xv ∧ h' = h ∧ B' = B) → Go l Z EL R B0 Q p e s m below T' pc' ls (v.toList ++ st) := by
  rintro T' h' B' v X - - ⟨rfl, rfl, rfl⟩; exact g T' X
theorem kpv (g : ∀ T', Wk l Z EL y bytes maxL ret R B0 p e s m args below meth c B T' h k n → Go l Z EL R B0 Q p e s m below T' pc' ls st) : ∀ T' h' B' v, Wk l Z EL y bytes maxL ret R B0 p e s m args below meth c B' T' h' k n → h.size ≤ h'.size → (∀ x, B' x → B x ∨ h.size ≤ x) → (v = none ∧ h' = h ∧ B' = B) → Go l Z EL R B0 Q p e s m below T' pc' ls (v.toList ++ st) := by
  rintro T' h' B' v X - - ⟨rfl, rfl, rfl⟩; exact g T' X
theorem kr {Qc : Value → Heap → Prop} (g : ∀ T' h' x, Wk l Z EL y bytes maxL ret R B0 p e s m args below meth c B T' h' k n → h.size ≤ h'.size → Qc x h' → Go l Z EL R B0 Q p e s m below T' pc' ls (x :: st)) : ∀ T' h' B' v, Wk l Z EL y bytes maxL ret R B0 p e s m args below meth c B' T' h' k n → h.size ≤ h'.size → (∀ x, B' x → B x ∨ h.size ≤ x) → (∃ x, v = some x ∧ B' = B ∧ Qc x h') → Go l Z EL R B0 Q p e s m below T' pc' ls (v.toList ++ st) := by
  rintro T' h' B' v X z - ⟨x, rfl, rfl, q⟩; exact g T' h' x X z q
theorem kv {Qc : Heap → Prop} (g : ∀ T' h', Wk l Z EL y bytes maxL ret R B0 p e s m args below meth c B T' h' k n → h.size ≤ h'.size → Qc h' → Go l Z EL R B0 Q p e s m below T' pc' ls st) : ∀ T' h' B' v, Wk l Z EL y bytes maxL ret R B0 p e s m args below meth c B' T' h' k n → h.size ≤ h'.size → (∀ x, B' x → B x ∨ h.size ≤ x) → (v = none ∧ B' = B ∧ Qc h') → Go l Z EL R B0 Q p e s m below T' pc' ls (v.toList ++ st) := by
  rintro T' h' B' v X z - ⟨rfl, rfl, q⟩; exact g T' h' X z q
theorem kri {Qc : Value → Heap → (Addr → Prop) → Prop} (g : ∀ T' h' B' x, Wk l Z EL y bytes maxL ret R B0 p e s m args below meth c B' T' h' k n → h.size ≤ h'.size → (∀ x, B' x → B x ∨ h.size ≤ x) → Qc x h' B' → Go l Z EL R B0 Q p e s m below T' pc' ls (x :: st)) : ∀ T' h' B' v, Wk l Z EL y bytes maxL ret R B0 p e s m args below meth c B' T' h' k n → h.size ≤ h'.size → (∀ x, B' x → B x ∨ h.size ≤ x) → (∃ x, v = some x ∧ Qc x h' B') → Go l Z EL R B0 Q p e s m below T' pc' ls (v.toList ++ st) := by
  rintro T' h' B' v X z zb ⟨x, rfl, q⟩; exact g T' h' B' x X z zb q
theorem kvi {Qc : Heap → (Addr → Prop) → Prop} (g : ∀ T' h' B', Wk l Z EL y bytes maxL ret R B0 p e s m args below meth c B' T' h' k n → h.size ≤ h'.size → (∀ x, B' x → B x ∨ h.size ≤ x) → Qc h' B' → Go l Z EL R B0 Q p e s m below T' pc' ls st) : ∀ T' h' B' v, Wk l Z EL y bytes maxL ret R B0 p e s m args below meth c B' T' h' k n → h.size ≤ h'.size → (∀ x, B' x → B x ∨ h.size ≤ x) → (v = none ∧ Qc h' B') → Go l Z EL R B0 Q p e s m below T' pc' ls (v.toList ++ st) := by
  rintro T' h' B' v X z zb ⟨rfl, q⟩; exact g T' h' B' X z zb q
/-! System.arraycopy -/
theorem range_getD {vs : List Value} {i len : Nat} (d : Value) (hl : i + len ≤ vs.length) : (List.range len).map (fun q => vs.getD (i + q) d) = (vs.drop i).take len := by
  apply List.ext_getElem?
  intro j
  by_cases hj : j < len
  · rw [List.getElem?_map, List.getElem?_range hj, List.getElem?_take_of_lt hj, List.getElem?_drop]
    simp only [Option.map_some, List.getD_eq_getElem?_getD]
    rw [List.getElem?_eq_getElem (by omega : i + j < vs.length)]; rfl
  · rw [List.getElem?_eq_none (by simpa using hj), List.getElem?_eq_none (by simp; omega)]
theorem W.acopy (X : Wk l Z EL y bytes maxL ret R B0 p e s m args below meth c B T h k n) {index W : Nat} {sp dp nn : Int32} {i j len : Nat} {us : List Value} (A : Ar Z h a ty vs) (D : Ar Z h b ty us) (w1 : (Jvm.Cond.methodLink y.cls index Jvm.Stand.acN).before a0 Z = true) (w2 : (Jvm.Cond.native Jvm.Stand.acN).before a0 Z = true) (w3 : (Jvm.Cond.static Jvm.Stand.acN).before a0 Z = true) (w4 : (Jvm.Cond.initialized "java/lang/System").before a0 Z = true) (hty : refKind ty = false)
    (h1 : i.toInt32 = sp) (h2 : j.toInt32 = dp) (h3 : len.toInt32 = nn) (h4 : i + len ≤ vs.length) (h5 : j + len ≤ us.length) (ha : Z.heap.size ≤ b) (hnb : ¬ B b) (hsize : ls.size = maxL) (hf : 1 ≤ R.frames) (hW : (st.map fun v => v.category).sum ≤ W) (hlo : W + (nativeFrameWords "java/lang/System" "arraycopy" 5 + 11) ≤ R.locals) (hd : decode bytes pc = .ok (.invokestatic index, 3)) (hp : pc + 3 = pc')
    (g : ∀ T' h', Wk l Z EL y bytes maxL ret R B0 p e s m args below meth c B T' h' k n → Keep h h' [b] → Ar Z h' b ty (us.take j ++ (vs.drop i).take len ++ us.drop (j + len)) → Go l Z EL R B0 Q p e s m below T' pc' ls st) : Go l Z EL R B0 Q p e s m below T pc ls (.int nn :: .int dp :: .ref b :: .int sp :: .ref a :: st) := by
  obtain ⟨i0, hE, hz, hB, V, locs, q0, X1, eT, hZ, hown, hS, hq, hF, hC, hK⟩ := X
  have hv := A.len_lt
  have hu := D.len_lt
  subst h1 h2 h3 hp
  obtain ⟨n1, e1, -⟩ := len32 (show i < 2 ^ 31 by omega)
  obtain ⟨n2, e2, -⟩ := len32 (show j < 2 ^ 31 by omega)
  obtain ⟨n3, e3, -⟩ := len32 (show len < 2 ^ 31 by omega)
  obtain ⟨n4, e4, -⟩ := len32 hv
  obtain ⟨n5, e5, -⟩ := len32 hu
  obtain ⟨ka, A'⟩ := A.toArv rfl (.int 0)
  obtain ⟨kb, D'⟩ := D.toArv rfl (.int 0)
  obtain ⟨T', h', L, X', e', N', K', R', st'⟩ := RoadKit.cpA X1 i0.1 hZ hown w1 w2 w3 w4 eT A' D' (us := (List.range len).map fun q => vs.getD (i + q) (.int 0)) (Or.inl ⟨rfl, hty⟩) n1 n2 n3 (by rw [e1, e3, e4]; exact h4) (by rw [e2, e3, e5]; exact h5) (by rw [e1, e3]) (by rw [e2, e3]; exact h5) hF ha (g := mkF m pc ls (.int len.toInt32 :: .int j.toInt32 :: .ref b :: .int i.toInt32 :: .ref a :: st)) rfl (hsize.trans i0.2.2.1.symm) rfl (i0.2.1 ▸ hd) hf (W := W) (by show 2 * 0 + _ ≤ _; omega) hlo
  rw [range_getD _ h4, e2, e3] at R'
  have S : ∀ x ∈ [b], Safe Z EL V h x := fun x hx => by cases List.mem_singleton.mp hx; exact fun r => hnb (hK b r)
  have hO := (Old.keep (n0 := Z.heap.size) ⟨rfl, hE.1⟩ K' (allS ha all0)).2
  exact Go.step st' (g T' h' ⟨i0, ⟨hO, fun x r => Nat.lt_of_lt_of_le (hE.2 x r) K'.1⟩, Nat.le_trans hz K'.1, hB, V, L, q0, X', e', hZ, hown, hS, Nat.le_trans hq K'.1, N', hC.keep K' S, fun x r => hK x ((hC.keepStep K' S).2 x r)⟩ K' (Ar.ofArv R' (by rw [e5]; simp; omega)))
/-! the end -/
theorem W.fin (X : Wk l Z EL y bytes maxL ret R B0 p e s m args below meth c B T h k n) {v : Option Value} (hv : ret = none → v = none) (hk : k ≤ R.cells) (hn : n ≤ R.slots) (q : Q v h B) (run : ∀ fs, (∀ (f : JFrame) (acts : List Action), f.method = m → f.locked = none → f.entered = [] → (doReturn e (T.setTop f) acts v).1 = T.setFrames fs) → Steps p.tables e below (T.setTop (mkF m pc ls st)) (T.setFrames fs)) : Go l Z EL R B0 Q p e s m below T pc ls st := by
  obtain ⟨i0, hE, hz, hB, V, locs, q0, X1, eT, hZ, hown, hS, hq, hF, hC, hK⟩ := X
  obtain ⟨a1, hEL⟩ := i0.2.2.2.2.2.2
  obtain ⟨fs, hr, hrun, hend, hW⟩ := X1.leaveW hS (by rw [eT]; exact hq) (v := v) (fun z => hv (i0.2.2.2.1.symm.trans z)) i0.2.2.2.2.1
  have eh : (T.setFrames fs).heap = h := eT
  have q1 := CHv.at X1 hZ hEL hC
  refine ⟨T.setFrames fs, _, run fs hr, hrun, hend, v, locs, B, rfl, hF, by rw [eh]; exact q1.1, fun x r => ?_, hB, by rw [eh]; exact hE, by rw [eh]; exact hz, by rw [eh]; exact q, hW.1, hW.2.1, hW.2.2.1, hW.2.2.2.mono hk hn⟩
  rw [eh] at r
  rcases q1.2.2 x r with z | z
  · exact hK x z
  · obtain ⟨cell, q2⟩ := r.there
    exact absurd (Array.getElem?_eq_some_iff.mp q2).1 (Nat.not_lt.mpr z)
theorem W.ireturn (X : Wk l Z EL y bytes maxL ret R B0 p e s m args below meth c B T h k n) {t : FieldType} {x : Int32} (hd : decode bytes pc = .ok (.ireturn, 1)) (hret : ret = some t) (ht : t = .int ∨ t = .boolean ∨ t = .byte ∨ t = .char ∨ t = .short) (hnw : narrow t (.int x) = .int x) (hk : k ≤ R.cells) (hn : n ≤ R.slots) (q : Q (some (.int x)) h B) : Go l Z EL R B0 Q p e s m below T pc ls (.int x :: st) := by
  have X0 := X
  obtain ⟨i0, hE, hz, hB, V, locs, q0, X1, eT, hZ, hown, hS, hq, hF, hC, hK⟩ := X
  exact W.fin X0 (fun z => by rw [hret] at z; cases z) hk hn q fun fs hl => RoadKit.retOut (i := .ireturn) X1 i0.1 (i0.2.2.2.1.trans hret) hnw (Or.inl ⟨rfl, ht, x, rfl⟩) (i0.2.1 ▸ hd) hl
theorem W.lreturn (X : Wk l Z EL y bytes maxL ret R B0 p e s m args below meth c B T h k n) {x : Int64} (hd : decode bytes pc = .ok (.lreturn, 1)) (hret : ret = some .long) (hk : k ≤ R.cells) (hn : n ≤ R.slots) (q : Q (some (.long x)) h B) : Go l Z EL R B0 Q p e s m below T pc ls (.long x :: st) := by
  have X0 := X
  obtain ⟨i0, hE, hz, hB, V, locs, q0, X1, eT, hZ, hown, hS, hq, hF, hC, hK⟩ := X
  exact W.fin X0 (fun z => by rw [hret] at z; cases z) hk hn q fun fs hl => RoadKit.retOut (i := .lreturn) X1 i0.1 (i0.2.2.2.1.trans hret) rfl (Or.inr (Or.inl ⟨rfl, rfl, x, rfl⟩)) (i0.2.1 ▸ hd) hl
theorem W.areturn (X : Wk l Z EL y bytes maxL ret R B0 p e s m args below meth c B T h k n) {t : FieldType} {v : Value} (hd : decode bytes pc = .ok (.areturn, 1)) (hret : ret = some t) (ht : t.isReference = true) (hv : v.isRef = true) (hnw : narrow t v = v) (hk : k ≤ R.cells) (hn : n ≤ R.slots) (q : Q (some v) h B) : Go l Z EL R B0 Q p e s m below T pc ls (v :: st) := by
  have X0 := X
  obtain ⟨i0, hE, hz, hB, V, locs, q0, X1, eT, hZ, hown, hS, hq, hF, hC, hK⟩ := X
  exact W.fin X0 (fun z => by rw [hret] at z; cases z) hk hn q fun fs hl => RoadKit.retOut (i := .areturn) X1 i0.1 (i0.2.2.2.1.trans hret) hnw (Or.inr (Or.inr (Or.inr (Or.inr ⟨rfl, ht, hv⟩)))) (i0.2.1 ▸ hd) hl
theorem W.vreturn (X : Wk l Z EL y bytes maxL ret R B0 p e s m args below meth c B T h k n) (hd : decode bytes pc = .ok (.return_, 1)) (hret : ret = none) (hk : k ≤ R.cells) (hn : n ≤ R.slots) (q : Q none h B) : Go l Z EL R B0 Q p e s m below T pc ls [] := by
  have X0 := X
  obtain ⟨i0, hE, hz, hB, V, locs, q0, X1, eT, hZ, hown, hS, hq, hF, hC, hK⟩ := X
  exact W.fin X0 (fun _ => rfl) hk hn q fun fs hl => X1.returnOut i0.1 (i0.2.2.2.1.trans hret) (i0.2.1 ▸ hd) hl
/-! the entry -/
theorem Con.intro {wl : List Jvm.Cond} {rm : Room} {as' : Array Value} (hpl : plainFor y = true) (hEW : EW Z a0 EL) (hE : En Z B h) (hef : ∀ m, entryFrame m as' maxL = mkF m 0 ls [])
    (body : ∀ p e s m below meth c T, s.heap = h → Wk l Z EL y bytes maxL ret rm B p e s m as' below meth c B T h 0 0 → Go l Z EL rm B Q p e s m below T 0 ls []) : Con l Z EL wl y bytes maxL ret rm B h as' Q := by
  refine MetFree.of_bodySF hpl hisR ?_
  intro p e s m args below meth c s₁ Bd hml0 hP hK
  obtain ⟨rfl, hZ, hh, hC, hBk⟩ := hP
  have X0 : Stand p l e rm s m args below meth c s₁ [] 0 0 := Stand.of_body Bd
  have e0 : s₁.heap = h := by rw [← hh, Bd.state]; rfl
  have hg : Go l Z EL rm B Q p e s m below s₁ 0 ls [] := body p e s m below meth c s₁ hh ⟨⟨Bd.exec, Bd.bytes, hml0, Bd.returns, Bd.notSynchronized, (name_of_methodNamed Bd.named Bd.method).1, a0, hEW⟩, hE, by rw [hh]; exact Nat.le_refl _, fun x r => Or.inl r, s.vm, [], s.heap.size, X0, e0, hZ, findClass_of_methodNamed Bd.named, (State.WarmedH.refl s).since _, by rw [hh]; exact Nat.le_refl _, Fr.nil _, hC, hBk⟩
  obtain ⟨s₂, o, h1, h2, h3, v, L, B', g1, g2, g3, g4, g5, g6, g7, g8, g9⟩ := hg
  rw [hh] at g5 g7
  exact ⟨s₂, o, castTop (hef m) h1, h2, h3, v, L, B', g1, g2, g3, g4, g5, g6, g7, g8, g9⟩
/-! String constants -/
theorem W.ldcO (X : Wk l Z EL y bytes maxL ret R B0 p e s m args below meth c B T h k n) {index cap : Nat} {text : String} (hEW : EW Z a0 EL) (w : (Jvm.Cond.stringLink y.cls index text).before a0 Z = true) (wS : ∀ a ∈ Bundle.stringAtoms, a.before a0 Z = true) (hd : decode bytes pc = .ok (.ldc index, 2)) (hcap : 4 * text.toList.length ≤ cap) (hbig : cap ≤ 536870912) (hp : pc + 2 = pc') {k' n' : Nat} (hk : k + 2 ≤ k') (hn : n + (cap + 4) ≤ n') (hk' : k' ≤ R.cells) (hn' : n' ≤ R.slots)
    (g : ∀ T' h' B' a, Wk l Z EL y bytes maxL ret R B0 p e s m args below meth c B' T' h' k' n' → Keep h h' [] → (∀ x, B' x → B x ∨ h.size ≤ x) → Go l Z EL R B0 Q p e s m below T' pc' ls (.ref a :: st)) : Go l Z EL R B0 Q p e s m below T pc ls st := by
  obtain ⟨i0, hE, hz, hB, V, locs, q0, X1, eT, hZ, hown, hS, hq, hF, hC, hK⟩ := X
  obtain ⟨a1, hEL⟩ := i0.2.2.2.2.2.2
  obtain ⟨a, T', h', k1, X', e', E, hS', hk1, hZ', hown', hr, -, st'⟩ := ldcOH X1 i0.1 hZ hown w wS eT hS hq hEW hC (g := mkF m pc ls st) rfl (i0.2.1 ▸ hd) hcap hbig (Nat.le_trans hk hk') (Nat.le_trans hn hn')
  subst hp
  let B' : Addr → Prop := fun x => B x ∨ (h.size ≤ x ∧ x < h'.size)
  have hB' : ∀ x, Bk Z EL T'.vm h' x → B' x := fun x r => (hr.2.2 x r).elim (fun z => Or.inl (hK x z)) fun z => by
    obtain ⟨cell, q⟩ := r.there
    exact Or.inr ⟨z, (Array.getElem?_eq_some_iff.mp q).1⟩
  refine Go.step st' (g T' h' B' a ⟨i0, ⟨(hE.ext E).1, fun x r => r.elim (fun z => Nat.lt_of_lt_of_le (hE.2 x z) E.1) fun z => z.2⟩, Nat.le_trans hz E.1, fun x r => r.elim (hB x) fun z => Or.inr (Nat.le_trans hz z.1), T'.vm, locs, k1, X'.mono hk hn, e', hZ', hown', hS', hk1, hF, hr.1, hB'⟩ (keepE E) (fun x r => r.imp id fun z => z.1))
theorem W.ldcR (X : Wk l Z EL y bytes maxL ret R B0 p e s m args below meth c B T h k n) {index cap : Nat} {text : String} {cs : List Int32} (hmem : (y.cls, index) ∈ EL) (w : (Jvm.Cond.stringLink y.cls index text).before a0 Z = true) (wS : ∀ a ∈ Bundle.stringAtoms, a.before a0 Z = true) (hEW : EW Z a0 EL) (ht : (∀ c ∈ text.toList, c.toNat < 256) ∧ text.toList.map (fun c => Value.int (Jvm.Lit.byteI c.toNat.toUInt16)) = by8 cs) (hlat : Lat cs) (hlen : cs.length < 2 ^ 31) (hd : decode bytes pc = .ok (.ldc index, 2)) (hcap : 4 * text.toList.length ≤ cap) (hbig : cap ≤ 536870912) (hp : pc + 2 = pc') {k' n' : Nat} (hk : k + 2 ≤ k') (hn : n + (cap + 4) ≤ n') (hk' : k' ≤ R.cells) (hn' : n' ≤ R.slots)
    (g : ∀ T' h' B' a b, Wk l Z EL y bytes maxL ret R B0 p e s m args below meth c B' T' h' k' n' → Keep h h' [] → (∀ x, B' x → B x ∨ h.size ≤ x) → Str Z h' a b cs → (∀ x, ¬ B' x → x ≠ a ∧ x ≠ b) → Go l Z EL R B0 Q p e s m below T' pc' ls (.ref a :: st)) : Go l Z EL R B0 Q p e s m below T pc ls st := by
  obtain ⟨i0, hE, hz, hB, V, locs, q0, X1, eT, hZ, hown, hS, hq, hF, hC, hK⟩ := X
  obtain ⟨q1, q2, q3⟩ := len32 hlen
  obtain ⟨a, T', h', k1, b, kb, X', e', E, hS', hk1, hZ', hown', f1, f2, f3, f4, la, lb, hr, -, hne, st'⟩ := ldcCH X1 i0.1 hZ hown w wS eT hS hq hEW hmem hC ht q1 (by rw [q2]; simp) (g := mkF m pc ls st) rfl (i0.2.1 ▸ hd) hcap hbig (Nat.le_trans hk hk') (Nat.le_trans hn hn')
  subst hp
  let B' : Addr → Prop := fun x => B x ∨ (h.size ≤ x ∧ x < h'.size)
  have hB' : ∀ x, Bk Z EL T'.vm h' x → B' x := fun x r => (hr.2.2 x r).elim (fun z => Or.inl (hK x z)) fun z => by
    obtain ⟨cell, q⟩ := r.there
    exact Or.inr ⟨z, (Array.getElem?_eq_some_iff.mp q).1⟩
  refine Go.step st' (g T' h' B' a b ⟨i0, ⟨(hE.ext E).1, fun x r => r.elim (fun z => Nat.lt_of_lt_of_le (hE.2 x z) E.1) fun z => z.2⟩, Nat.le_trans hz E.1, fun x r => r.elim (hB x) fun z => Or.inr (Nat.le_trans hz z.1), T'.vm, locs, k1, X'.mono hk hn, e', hZ', hown', hS', hk1, hF, hr.1, hB'⟩ (keepE E) (fun x r => r.imp id fun z => z.1) ⟨f1, f2, f3, Ar.ofArv f4 (by rw [q2]; simp), hlat⟩ fun x r => hne x fun z => r (hB' x z))

end Own
section Ldcw
open Jvm.Free.SB Jvm.Free.SBG
variable {l : Launch} {Z : State} {EL : List (String × Nat)} {y : MethodName} {bytes : ByteArray} {maxL : Nat} {ret : Option FieldType} {R : Room} {B0 : Addr → Prop} {Q : Option Value → Heap → (Addr → Prop) → Prop} {p : Program} {e : Env} {s : State} {m : MethodId} {args : Array Value} {below : List Frame} {meth : Method} {c : Code} {B : Addr → Prop} {T : State} {h h' : Heap} {k n : Nat} {a0 : Array Value} {pc pc' : Nat} {ls ls' : Array Slot} {st : List Value} {a b : Addr} {ws : List Addr} {ty : FieldType} {vs : List Value}
theorem str_of_sl {vm : Vm} {q : SQ} {us : Array UInt16} {cs : List Int32} (hal : Z.vm.Alike vm) (F : SlB (Wst Z vm h) q us) (hlat : us.all (· < 256) = true) (hcs : us.toList.map (fun u => Value.int (Jvm.Lit.byteI u)) = by8 cs) (L : Lat cs) (hl : cs.length < 2 ^ 31) : Str Z h q.sa q.sd cs := by
  obtain ⟨cS, ⟨S, hf, hc⟩, ⟨kS, hk, hord, hsz⟩, hB, hby⟩ := F
  obtain ⟨cv, kv, iv, ev, av⟩ := found_asg (U' := Z) hal.symm S.ffV
  obtain ⟨cc, kc, ic, ec, ac⟩ := found_asg (U' := Z) hal.symm S.ffC
  have hf' : vm.findClass ST = some cS := hf
  have hfZ : Z.vm.findClass ST = some q.sC.cls := by rw [← hal.findClass, hc]; exact hf'
  obtain ⟨kz, hkz, -⟩ := Vm.findClass_spec hfZ
  obtain ⟨k1, hk1, e1⟩ := hal.2.2 _ _ hkz
  have hk' : vm.classes[q.sC.cls]? = some kS := by rw [hc]; exact hk
  have e2 : k1 = kS := Option.some.inj (hk1.symm.trans hk')
  obtain ⟨s0, s1, s2, s3, s4, sV, sC, sv, sc, sd, sA, su, -⟩ := S
  have lst : q.SA.slots.toList = by8 cs := by rw [hby, SBG.stringBytes_lat hlat, ← hcs, Array.toList_map]; rfl
  refine ⟨⟨q.sC, kz, s0, hfZ, hkz, s2, fun _ => by rw [hsz, ← e2, e1]⟩, ⟨q.sC, cc, kc, ic, q.fSC, s0, ec, sC, s1, s2, ac, sc⟩, ⟨q.sC, cv, kv, iv, q.fSV, s0, ev, sV, s1, s2, av, sv⟩, ⟨q.SA, ⟨sd, State.isArrayOf_alike (s := Wst Z vm h) (T := Z) hal.symm sA, su⟩, lst, by simpa using hl, fun v hv => ?_⟩, L⟩
  obtain ⟨x, -, rfl⟩ := List.mem_map.mp hv
  exact fits_nar_byte x
/-- ldc_w of a String constant: it is there, it is interned, or it is made -/
theorem ldcw_go (X : Stand p l e R s m args below meth c T locs k n) (hx : p.tables.exec = Jvm.exec) {own text : String} {index cap : Nat} (hown : s.vm.findClass own = some m.cls) (hlk : (Jvm.Cond.stringLink own index text).before args s = true) (hS : ∀ a ∈ Bundle.stringAtoms, a.before args s = true)
    {f : JFrame} (hf : f.method = m) (hd : decode c.code f.pc = .ok (.ldc_w index, 3)) (hcap : 4 * text.toList.length ≤ cap) (hbig : cap ≤ 536870912) (hk : k + 2 ≤ R.cells) (hn : n + (cap + 4) ≤ R.slots) :
    ∃ (a : Addr) (U : State) (kU : Class), Stand p l e R (s.setVm U.vm) m args below meth c U locs (k + 2) (n + (cap + 4)) ∧ s.Since U.vm U.heap.size ∧ U.vm.classes[m.cls]? = some kU ∧ kU.resolved[index]? = some (some (.string a)) ∧ Ext T.heap U.heap ∧ T.Warmed39 U.vm ∧
      (U.vm.interned = T.vm.interned ∨ ∃ us : Array UInt16, U.vm.interned = T.vm.interned.push (us, a) ∧ T.vm.interned.find? (fun x => x.1 == us) = none ∧ (us.all (· < 256) = true → SlIn 0 T.heap.size U a us)) ∧
      ∀ t, Steps p.tables e below (U.setTop { f with pc := f.pc + 3, stack := .ref a :: f.stack }) t → Steps p.tables e below (T.setTop f) t := by
  subst hf
  obtain ⟨k0, cf, i, us, hk0, hcf, hpool, hutf, hname, htext, hres⟩ := Cond.stringLink_spec hown hlk
  obtain ⟨kT, hkT, eT⟩ := X.warmed.alike.2.2 _ _ hk0
  have hcfT : kT.cf = some cf := by rw [eT]; exact hcf
  have N : ∀ q : Class, q.cf = some cf → q.cf.bind (namesOf? ·.constantPool index) = some (.string text) ∧ q.cf.bind (·.constantPool[index]?) = some (.string i) ∧ q.cf.bind (·.constantPool.utf8? i) = some us := fun q hq => by
    rw [hq]; exact ⟨hname, hpool, by simp [ConstantPool.utf8?, hutf]⟩
  obtain ⟨n1, n2, n3⟩ := N k0 hcf
  obtain ⟨t1, t2, t3⟩ := N kT hcfT
  have here : Ext T.heap T.heap := ⟨Nat.le_refl _, fun _ _ q => q⟩
  by_cases hr : ∃ a, kT.resolved[index]? = some (some (.string a))
  · obtain ⟨a, ha⟩ := hr
    refine ⟨a, T, kT, (X.mono (by omega) (by omega)).retabled X.warmed.wide, X.warmed.since _, hkT, ha, here, State.Warmed39.refl T, Or.inl rfl, fun t ht => ?_⟩
    jvm_step X.here [hx, hd, ldc_w.wp_string (e := e) (s := T) (f := f) X.here.top hkT hcfT hpool ha]
    exact ht
  -- the entry is open, here and at the start
  have ho : kT.resolved[index]? = some none ∧ k0.resolved[index]? = some none := by
    rcases X.warmed.wide.entry hk0 hkT index with q | ⟨-, r, q, w | ⟨a, t, rfl, -⟩⟩
    · rcases hres with z | ⟨a, z⟩
      · exact ⟨q.trans z, z⟩
      · exact absurd ⟨a, q.trans z⟩ hr
    · cases r <;> simp [State.rightAt, hk0, hcf, hname] at w
    · exact absurd ⟨a, q⟩ hr
  by_cases hi : ∃ a, T.vm.interned.find? (fun x => x.1 == us) = some (us, a)
  · obtain ⟨a, ha⟩ := hi
    have W := X.warmed.wide.notedString hk0 (Or.inl ho.2) n1 n2 n3 ha
    refine ⟨a, T.setVm (T.vm.noted f.method.cls index (.string a)), _, (X.mono (by omega) (by omega)).retabled W, ⟨W, State.Booked.step (T₂ := T.setVm (T.vm.noted f.method.cls index (.string a))) (X.warmed.no_new_pair _) X.same.2.1 ⟨Nat.le_refl _, Or.inl rfl⟩⟩, Vm.classes_note_self index (.string a) hkT, Class.resolved_note_self (.string a) ho.1, here, (State.Warmed39.refl T).notedString hkT (Or.inl ho.1) t1 t2 t3 ha, Or.inl rfl, fun t ht => ?_⟩
    jvm_step X.here [hx, hd, ldc_w.wp_string_found (e := e) (s := T) (f := f) X.here.top hkT hcfT hpool hutf ho.1 ha]
    exact ht
  have hi0 : T.vm.interned.find? (fun x => x.1 == us) = none := by
    cases q : T.vm.interned.find? (fun x => x.1 == us) with
    | none => rfl
    | some x =>
      have e1 : x.1 = us := by simpa using Array.find?_some q
      exact absurd ⟨x.2, by rw [q, ← e1]⟩ hi
  -- it is made: two cells, and a pair in the table of texts
  have hbytes : (stringBytes us).size ≤ cap := Nat.le_trans (text_bytes_le htext) hcap
  obtain ⟨Y, LY, h4, fitV, fitC⟩ := StringT.of_atoms (args := args) hS
  obtain ⟨kS, kB, LT, hty⟩ := LY.warmer X.warmed.alike
  have vmI : ∃ v : Vm, v = { T.vm with interned := T.vm.interned.push (us, T.heap.size + 1) } := ⟨_, rfl⟩
  obtain ⟨v, ev⟩ := vmI
  have hp : v.interned.find? (fun x => x.1 == us) = some (us, T.heap.size + 1) := by
    rw [ev]; show (T.vm.interned.push (us, T.heap.size + 1)).find? _ = _
    rw [Array.find?_push, hi0]; simp
  have W : s.Warmed39 (v.noted f.method.cls index (.string (T.heap.size + 1))) := by
    have q := X.warmed.wide.interns us (T.heap.size + 1)
    rw [← ev] at q
    exact q.notedString hk0 (Or.inl ho.2) n1 n2 n3 hp
  have WT : T.Warmed39 (v.noted f.method.cls index (.string (T.heap.size + 1))) := by
    have q := (State.Warmed39.refl T).interns us (T.heap.size + 1)
    rw [← ev] at q
    exact q.notedString hkT (Or.inl ho.1) t1 t2 t3 hp
  have hh : (withString T Y.cB Y.cS kS Y.fv Y.fc us).heap = (T.heap.push (bytesOf Y.cB us)).push (stringAt Y.cS kS Y.fv Y.fc us T.heap.size) := by rw [withString_eq]; rfl
  have E : Ext T.heap (withString T Y.cB Y.cS kS Y.fv Y.fc us).heap := by
    rw [hh]
    refine ⟨by simp; omega, fun x cl q => ?_⟩
    have hlt := (Array.getElem?_eq_some_iff.mp q).1
    rw [Array.getElem?_push, if_neg (by rw [Array.size_push]; omega), Array.getElem?_push, if_neg (by omega)]; exact q
  have XX := (X.pushed (bytesOf Y.cB us)).pushed (stringAt Y.cS kS Y.fv Y.fc us T.heap.size)
  rw [← withString_eq] at XX
  have z1 : (bytesOf Y.cB us).slots.size = (stringBytes us).size := by rw [(Cell.writeAll_facts _ _).2.2]; simp [bytes0]
  have z2 : (stringAt Y.cS kS Y.fv Y.fc us T.heap.size).slots.size = 4 := by simp [string0, Cell.setSlot, hty, h4]
  have hsz : (withString T Y.cB Y.cS kS Y.fv Y.fc us).heap.size = T.heap.size + 2 := by rw [hh]; simp
  have vint : (v.noted f.method.cls index (.string (T.heap.size + 1))).interned = T.vm.interned.push (us, T.heap.size + 1) := by rw [ev]; rfl
  have vcls : v.classes[f.method.cls]? = some kT := by rw [ev]; exact hkT
  have one : T.Interned1 ((withString T Y.cB Y.cS kS Y.fv Y.fc us).setVm (v.noted f.method.cls index (.string (T.heap.size + 1)))) := ⟨E.1, Or.inr ⟨us, T.heap.size + 1, vint, Nat.le_succ _, by show T.heap.size + 1 < (withString T Y.cB Y.cS kS Y.fv Y.fc us).heap.size; omega⟩⟩
  have m1 : (withString T Y.cB Y.cS kS Y.fv Y.fc us).heap[T.heap.size]? = some (bytesOf Y.cB us) := by rw [hh]; simp [Array.getElem?_push]
  have m2 : (withString T Y.cB Y.cS kS Y.fv Y.fc us).heap[T.heap.size + 1]? = some (stringAt Y.cS kS Y.fv Y.fc us T.heap.size) := by rw [hh, Array.getElem?_push, if_pos (by rw [Array.size_push])]
  refine ⟨T.heap.size + 1, (withString T Y.cB Y.cS kS Y.fv Y.fc us).setVm (v.noted f.method.cls index (.string (T.heap.size + 1))), _, (XX.mono (by omega) (by omega)).retabled W, ⟨W, State.Booked.step (X.warmed.no_new_pair _) X.same.2.1 one⟩, Vm.classes_note_self index (.string (T.heap.size + 1)) vcls, Class.resolved_note_self (.string (T.heap.size + 1)) ho.1, E, WT, Or.inr ⟨us, vint, hi0, fun hl => made_sl (W := (withString T Y.cB Y.cS kS Y.fv Y.fc us).setVm (v.noted f.method.cls index (.string (T.heap.size + 1)))) hS LY h4 hty W.alike m1 m2 hl (by omega) 0⟩, fun t ht => ?_⟩
  have fit : T.fitsSlot = s.fitsSlot := (show T.fitsSlot = (s.setVm T.vm).fitsSlot from rfl).trans (State.fitsSlot_setVm X.warmed.alike)
  have rS := X.slotsAbove hn
  refine Steps.instr (c := _) (by simpa using X.here) ?_
  simp [jvm, wpRun, exec, X.here.top, hx, hd]
  refine ldc_w.wp_string_new (e := e) (s := T) (f := f) X.here.top hkT hcfT hpool hutf ho.1 hi0 LT.found LT.cls LT.initialized LT.ordinary LT.foundB LT.clsB LT.kindB LT.value LT.coder (by rw [Launch.admits_arrayLengthLimit X.admits]; omega) (by rw [Launch.admits_maxHeapBytes X.admits]; simp only [componentBytes]; omega) (X.cellsAbove hk) (by rw [hty, h4]; omega) (stringBytes_fit LT.clsB LT.kindB us) LT.valueSlot LT.coderSlot (by rw [fit]; exact fitV _) (by rw [fit]; exact fitC _) fun d' acts' => ?_
  rw [← ev]
  have top1 : (withString T Y.cB Y.cS kS Y.fv Y.fc us).topJava?.isSome := by simpa [withString] using X.here.top
  have top2 : ((withString T Y.cB Y.cS kS Y.fv Y.fc us).setVm (v.noted f.method.cls index (.string (T.heap.size + 1)))).topJava?.isSome := by simpa using top1
  intro acts''
  simp [jvm, afterInstr, top1, top2]
  rw [State.modifyTopJava_setTop]
  exact ht
/-- **ldc_w of a String constant of EL, read** -/
theorem W.ldcwR (X : Wk l Z EL y bytes maxL ret R B0 p e s m args below meth c B T h k n) {index cap : Nat} {text : String} {cs : List Int32} (hmem : (y.cls, index) ∈ EL) (w : (Jvm.Cond.stringLink y.cls index text).before a0 Z = true) (wS : ∀ a ∈ Bundle.stringAtoms, a.before a0 Z = true) (hEW : EW Z a0 EL) (ht : (∀ c ∈ text.toList, c.toNat < 256) ∧ text.toList.map (fun c => Value.int (Jvm.Lit.byteI c.toNat.toUInt16)) = by8 cs) (hlat : Lat cs) (hlen : cs.length < 2 ^ 31) (hd : decode bytes pc = .ok (.ldc_w index, 3)) (hcap : 4 * text.toList.length ≤ cap) (hbig : cap ≤ 536870912) (hp : pc + 3 = pc') {k' n' : Nat} (hk : k + 2 ≤ k') (hn : n + (cap + 4) ≤ n') (hk' : k' ≤ R.cells) (hn' : n' ≤ R.slots)
    (g : ∀ T' h' B' a b, Wk l Z EL y bytes maxL ret R B0 p e s m args below meth c B' T' h' k' n' → Keep h h' [] → (∀ x, B' x → B x ∨ h.size ≤ x) → Str Z h' a b cs → (∀ x, ¬ B' x → x ≠ a ∧ x ≠ b) → Go l Z EL R B0 Q p e s m below T' pc' ls (.ref a :: st)) : Go l Z EL R B0 Q p e s m below T pc ls st := by
  obtain ⟨i0, hE, hz, hB, V, locs, q0, X1, eT, hZ, hown, hS, hq, hF, hC, hK⟩ := X
  subst hp eT
  have wV : ∀ a ∈ Bundle.stringAtoms, a.before args (s.setVm V) = true := fun d hd' => by
    have q := wS d hd'
    simp only [Bundle.stringAtoms, List.mem_cons, List.not_mem_nil, or_false] at hd'
    rcases hd' with rfl | rfl | rfl | rfl | rfl | rfl | rfl
    · exact mv (s := s.setVm V) hZ q
    · exact mv (s := s.setVm V) hZ q
    · exact mvA (s := s.setVm V) hZ q
    · exact mv (s := s.setVm V) hZ q
    · exact mv (s := s.setVm V) hZ q
    · exact mv (s := s.setVm V) hZ q
    · exact mv (s := s.setVm V) hZ q
  obtain ⟨a, U, kU, XU, sU, hkU, hrU, E, WU, hint, st'⟩ := ldcw_go X1 i0.1 hown (mvS hZ w) wV (f := mkF m pc ls st) rfl (i0.2.1 ▸ hd) hcap hbig (Nat.le_trans hk hk') (Nat.le_trans hn hn')
  have hW : Z.Warmed39 U.vm := State.Warmed39.trans (t := s.setVm V) hZ sU.1
  have hfU : U.vm.findClass y.cls = some m.cls := by rw [sU.1.alike.findClass]; exact hown
  have A := CHv.at X1 hZ hEW hC
  have C := CHv.later (vm := T.vm) (vm1 := U.vm) (wtrans (s := s.setVm V) hZ X1.warmed) (show (Wst Z T.vm T.heap).Warmed39 U.vm from WU) hEW E (hint.imp id fun ⟨us, e1, e2, e3⟩ => ⟨us, a, e1, e2, fun hl => by
    obtain ⟨q, cS, r0, r1, r2, r3, r4, r5⟩ := e3 hl
    have F : SlB U q us := ⟨cS, r1, r2, r3, r4⟩
    exact ⟨q, r0, F.carry (V := Wst Z U.vm U.heap) (Vm.Alike.refl _) F.ha F.hd, r5.elim (fun z => absurd z.1 (Nat.not_lt_zero _)) id⟩⟩) A.1
  obtain ⟨k1, cf, i, us, hk1, hcf, hp1, hu1, -, htext, -⟩ := Cond.stringLink_spec (s := Wst Z U.vm U.heap) hfU (mvS (s := { Z with heap := U.heap }) (args := args) hW w)
  have ek : k1 = kU := Option.some.inj (hk1.symm.trans hkU)
  have hbk : Booksv U.vm y.cls index us a := ⟨m.cls, k1, cf, i, hfU, hk1, hcf, hp1, hu1, Or.inl (by rw [ek]; exact hrU)⟩
  obtain ⟨q, hqa, F⟩ := SlB.of (C.1 _ hmem us a hbk)
  have S := str_of_sl hW.alike F (Jvm.ClassFile.lat_of_text htext ht.1) (by rw [Jvm.ClassFile.units_of_text htext ht.1, List.map_map]; exact ht.2) hlat hlen
  subst hqa
  let B' : Addr → Prop := fun x => B x ∨ (T.heap.size ≤ x ∧ x < U.heap.size)
  have hB' : ∀ x, Bk Z EL U.vm U.heap x → B' x := fun x r => by
    obtain ⟨cell, z⟩ := r.there
    have hlt := (Array.getElem?_eq_some_iff.mp z).1
    rcases C.2 x r with r | r
    · rcases A.2.2 x r with r | r
      · exact Or.inl (hK x r)
      · exact Or.inr ⟨r, hlt⟩
    · exact Or.inr ⟨r, hlt⟩
  have mine : ∀ x, x = q.sa ∨ x = q.sd → B' x := fun x r => hB' x ⟨_, hmem, us, q.sa, hbk, q, rfl, F, r⟩
  exact Go.step st' (g U U.heap B' q.sa q.sd ⟨i0, ⟨(hE.ext E).1, fun x r => r.elim (fun z => Nat.lt_of_lt_of_le (hE.2 x z) E.1) fun z => z.2⟩, Nat.le_trans hz E.1, fun x r => r.elim (hB x) fun z => Or.inr (Nat.le_trans hz z.1), U.vm, locs, U.heap.size, XU.mono hk hn, rfl, hW, hfU, hS.trans sU (Nat.le_trans hq E.1), Nat.le_refl _, hF, C.1, hB'⟩ (keepE E) (fun x r => r.imp id fun z => z.1) S fun x r => ⟨fun z => r (mine x (Or.inl z)), fun z => r (mine x (Or.inr z))⟩)

end Ldcw
end Own
end Jvm.Pilot.@@N@@

namespace Jvm.Pilot.@@N@@
open Jvm Jvm.ClassFile Sem Op Lib Jvm.Free Jvm.Stand Jvm.LawKit Jvm.RoadKit Bundle Jvm.Pilot.@@N@@.Jvm.D Own Jvm.Free.XT

def Gl (Z : State) (a0 : Array Value) (zC : Int32) (fS : Value) : Prop := (∀ d ∈ tables_1, d.before a0 Z = true) ∧ EW Z a0 consts_1 ∧ Sta Z Z.heap "java/lang/String" "COMPACT_STRINGS" "Z" (.int zC) ∧ ¬ zC = 0 ∧ Sta Z Z.heap "jdk/internal/util/Preconditions" "SIOOBE_FORMATTER" "Ljava/util/function/BiFunction;" fS ∧ fS.isRef = true ∧ Sta Z Z.heap "java/lang/StringUTF16" "$assertionsDisabled" "Z" (.int (1 : Int32)) ∧ Sta Z Z.heap "java/lang/StringUTF16" "HI_BYTE_SHIFT" "I" (.int (0 : Int32)) ∧ Sta Z Z.heap "java/lang/StringUTF16" "LO_BYTE_SHIFT" "I" (.int (8 : Int32)) ∧ True
theorem w0 {Z : State} {a0 : Array Value} {zC : Int32} {fS : Value} (G : Gl Z a0 zC fS) : (Jvm.Cond.constant "com/example/compendio/compendio/io/TermFileIsDecimalPinLaw" (7 : Nat) (2147483647 : Int32)).before a0 Z = true := G.1 _ (List.mem_of_getElem? (i := 0) rfl)
theorem w1 {Z : State} {a0 : Array Value} {zC : Int32} {fS : Value} (G : Gl Z a0 zC fS) : (Jvm.Cond.arrayClass Jvm.ClassFile.FieldType.char).before a0 Z = true := G.1 _ (List.mem_of_getElem? (i := 1) rfl)
theorem w2 {Z : State} {a0 : Array Value} {zC : Int32} {fS : Value} (G : Gl Z a0 zC fS) : (Jvm.Cond.constant "com/example/compendio/compendio/io/TermFileIsDecimalPinLaw" (8 : Nat) (65535 : Int32)).before a0 Z = true := G.1 _ (List.mem_of_getElem? (i := 2) rfl)
theorem w3 {Z : State} {a0 : Array Value} {zC : Int32} {fS : Value} (G : Gl Z a0 zC fS) : (Jvm.Cond.classLink "com/example/compendio/compendio/io/TermFileIsDecimalPinLaw" (9 : Nat) "java/lang/String").before a0 Z = true := G.1 _ (List.mem_of_getElem? (i := 3) rfl)
theorem w4 {Z : State} {a0 : Array Value} {zC : Int32} {fS : Value} (G : Gl Z a0 zC fS) : (Jvm.Cond.instantiable "java/lang/String" (4 : Nat)).before a0 Z = true := G.1 _ (List.mem_of_getElem? (i := 4) rfl)
theorem w5 {Z : State} {a0 : Array Value} {zC : Int32} {fS : Value} (G : Gl Z a0 zC fS) : (Jvm.Cond.initialized "java/lang/String").before a0 Z = true := G.1 _ (List.mem_of_getElem? (i := 5) rfl)
theorem w6 {Z : State} {a0 : Array Value} {zC : Int32} {fS : Value} (G : Gl Z a0 zC fS) : (Jvm.Cond.methodLink "com/example/compendio/compendio/io/TermFileIsDecimalPinLaw" (11 : Nat) ({ cls := "java/lang/String", name := "<init>", desc := "([C)V" } : Jvm.MethodName)).before a0 Z = true := G.1 _ (List.mem_of_getElem? (i := 6) rfl)
theorem w7 {Z : State} {a0 : Array Value} {zC : Int32} {fS : Value} (G : Gl Z a0 zC fS) : (Jvm.Cond.instanceMethod ({ cls := "java/lang/String", name := "<init>", desc := "([C)V" } : Jvm.MethodName)).before a0 Z = true := G.1 _ (List.mem_of_getElem? (i := 7) rfl)
theorem w8 {Z : State} {a0 : Array Value} {zC : Int32} {fS : Value} (G : Gl Z a0 zC fS) : (Jvm.Cond.code ({ cls := "java/lang/String", name := "<init>", desc := "([C)V" } : Jvm.MethodName) jdk_42_method_3_code (2 : Nat) (Option.none : Option Jvm.ClassFile.FieldType)).before a0 Z = true := G.1 _ (List.mem_of_getElem? (i := 8) rfl)
theorem w9 {Z : State} {a0 : Array Value} {zC : Int32} {fS : Value} (G : Gl Z a0 zC fS) : (Jvm.Cond.methodLink "java/lang/String" (27 : Nat) ({ cls := "java/lang/String", name := "<init>", desc := "([CIILjava/lang/Void;)V" } : Jvm.MethodName)).before a0 Z = true := G.1 _ (List.mem_of_getElem? (i := 9) rfl)
theorem w10 {Z : State} {a0 : Array Value} {zC : Int32} {fS : Value} (G : Gl Z a0 zC fS) : (Jvm.Cond.instanceMethod ({ cls := "java/lang/String", name := "<init>", desc := "([CIILjava/lang/Void;)V" } : Jvm.MethodName)).before a0 Z = true := G.1 _ (List.mem_of_getElem? (i := 10) rfl)
theorem w12 {Z : State} {a0 : Array Value} {zC : Int32} {fS : Value} (G : Gl Z a0 zC fS) : (Jvm.Cond.code ({ cls := "java/lang/String", name := "<init>", desc := "([CIILjava/lang/Void;)V" } : Jvm.MethodName) jdk_42_method_149_code (6 : Nat) (Option.none : Option Jvm.ClassFile.FieldType)).before a0 Z = true := G.1 _ (List.mem_of_getElem? (i := 12) rfl)
theorem w13 {Z : State} {a0 : Array Value} {zC : Int32} {fS : Value} (G : Gl Z a0 zC fS) : (Jvm.Cond.methodLink "java/lang/String" (1 : Nat) ({ cls := "java/lang/Object", name := "<init>", desc := "()V" } : Jvm.MethodName)).before a0 Z = true := G.1 _ (List.mem_of_getElem? (i := 13) rfl)
theorem w14 {Z : State} {a0 : Array Value} {zC : Int32} {fS : Value} (G : Gl Z a0 zC fS) : (Jvm.Cond.instanceMethod ({ cls := "java/lang/Object", name := "<init>", desc := "()V" } : Jvm.MethodName)).before a0 Z = true := G.1 _ (List.mem_of_getElem? (i := 14) rfl)
theorem w15 {Z : State} {a0 : Array Value} {zC : Int32} {fS : Value} (G : Gl Z a0 zC fS) : (Jvm.Cond.code ({ cls := "java/lang/Object", name := "<init>", desc := "()V" } : Jvm.MethodName) object_method_1_code (1 : Nat) (Option.none : Option Jvm.ClassFile.FieldType)).before a0 Z = true := G.1 _ (List.mem_of_getElem? (i := 15) rfl)
theorem w16 {Z : State} {a0 : Array Value} {zC : Int32} {fS : Value} (G : Gl Z a0 zC fS) : (Jvm.Cond.stringLink "java/lang/String" (7 : Nat) "").before a0 Z = true := G.1 _ (List.mem_of_getElem? (i := 16) rfl)
theorem w17 {Z : State} {a0 : Array Value} {zC : Int32} {fS : Value} (G : Gl Z a0 zC fS) : (Jvm.Cond.arrayClass Jvm.ClassFile.FieldType.byte).before a0 Z = true := G.1 _ (List.mem_of_getElem? (i := 17) rfl)
theorem w18 {Z : State} {a0 : Array Value} {zC : Int32} {fS : Value} (G : Gl Z a0 zC fS) : (Jvm.Cond.laysFinal "java/lang/String" "java/lang/String" "value" "[B").before a0 Z = true := G.1 _ (List.mem_of_getElem? (i := 18) rfl)
theorem w19 {Z : State} {a0 : Array Value} {zC : Int32} {fS : Value} (G : Gl Z a0 zC fS) : (Jvm.Cond.laysFinal "java/lang/String" "java/lang/String" "coder" "B").before a0 Z = true := G.1 _ (List.mem_of_getElem? (i := 19) rfl)
theorem w20 {Z : State} {a0 : Array Value} {zC : Int32} {fS : Value} (G : Gl Z a0 zC fS) : (Jvm.Cond.soleField "java/lang/String" "value").before a0 Z = true := G.1 _ (List.mem_of_getElem? (i := 20) rfl)
theorem w21 {Z : State} {a0 : Array Value} {zC : Int32} {fS : Value} (G : Gl Z a0 zC fS) : (Jvm.Cond.soleField "java/lang/String" "coder").before a0 Z = true := G.1 _ (List.mem_of_getElem? (i := 21) rfl)
theorem w22 {Z : State} {a0 : Array Value} {zC : Int32} {fS : Value} (G : Gl Z a0 zC fS) : (Jvm.Cond.fieldLink "java/lang/String" (9 : Nat) "java/lang/String" "value" "[B").before a0 Z = true := G.1 _ (List.mem_of_getElem? (i := 22) rfl)
theorem w23 {Z : State} {a0 : Array Value} {zC : Int32} {fS : Value} (G : Gl Z a0 zC fS) : (Jvm.Cond.fieldLink "java/lang/String" (15 : Nat) "java/lang/String" "coder" "B").before a0 Z = true := G.1 _ (List.mem_of_getElem? (i := 23) rfl)
theorem w24 {Z : State} {a0 : Array Value} {zC : Int32} {fS : Value} (G : Gl Z a0 zC fS) : (Jvm.Cond.methodLink "com/example/compendio/compendio/io/TermFileIsDecimalPinLaw" (14 : Nat) ({ cls := "com/example/compendio/compendio/io/TermFile", name := "isDecimal", desc := "(Ljava/lang/String;)Z" } : Jvm.MethodName)).before a0 Z = true := G.1 _ (List.mem_of_getElem? (i := 24) rfl)
theorem w25 {Z : State} {a0 : Array Value} {zC : Int32} {fS : Value} (G : Gl Z a0 zC fS) : (Jvm.Cond.static ({ cls := "com/example/compendio/compendio/io/TermFile", name := "isDecimal", desc := "(Ljava/lang/String;)Z" } : Jvm.MethodName)).before a0 Z = true := G.1 _ (List.mem_of_getElem? (i := 25) rfl)
theorem w26 {Z : State} {a0 : Array Value} {zC : Int32} {fS : Value} (G : Gl Z a0 zC fS) : (Jvm.Cond.initialized "com/example/compendio/compendio/io/TermFile").before a0 Z = true := G.1 _ (List.mem_of_getElem? (i := 26) rfl)
theorem w27 {Z : State} {a0 : Array Value} {zC : Int32} {fS : Value} (G : Gl Z a0 zC fS) : (Jvm.Cond.code ({ cls := "com/example/compendio/compendio/io/TermFile", name := "isDecimal", desc := "(Ljava/lang/String;)Z" } : Jvm.MethodName) prog_55_method_34_code (5 : Nat) (Option.some Jvm.ClassFile.FieldType.boolean)).before a0 Z = true := G.1 _ (List.mem_of_getElem? (i := 27) rfl)
theorem w28 {Z : State} {a0 : Array Value} {zC : Int32} {fS : Value} (G : Gl Z a0 zC fS) : (Jvm.Cond.stringLink "com/example/compendio/compendio/io/TermFile" (376 : Nat) "-").before a0 Z = true := G.1 _ (List.mem_of_getElem? (i := 28) rfl)
theorem w29 {Z : State} {a0 : Array Value} {zC : Int32} {fS : Value} (G : Gl Z a0 zC fS) : (Jvm.Cond.methodLink "com/example/compendio/compendio/io/TermFile" (378 : Nat) ({ cls := "java/lang/String", name := "startsWith", desc := "(Ljava/lang/String;)Z" } : Jvm.MethodName)).before a0 Z = true := G.1 _ (List.mem_of_getElem? (i := 29) rfl)
theorem w30 {Z : State} {a0 : Array Value} {zC : Int32} {fS : Value} (G : Gl Z a0 zC fS) : (Jvm.Cond.declares ({ cls := "java/lang/String", name := "startsWith", desc := "(Ljava/lang/String;)Z" } : Jvm.MethodName)).before a0 Z = true := G.1 _ (List.mem_of_getElem? (i := 30) rfl)
theorem w31 {Z : State} {a0 : Array Value} {zC : Int32} {fS : Value} (G : Gl Z a0 zC fS) : (Jvm.Cond.instanceMethod ({ cls := "java/lang/String", name := "startsWith", desc := "(Ljava/lang/String;)Z" } : Jvm.MethodName)).before a0 Z = true := G.1 _ (List.mem_of_getElem? (i := 31) rfl)
theorem w32 {Z : State} {a0 : Array Value} {zC : Int32} {fS : Value} (G : Gl Z a0 zC fS) : (Jvm.Cond.selects "java/lang/String" ({ cls := "java/lang/String", name := "startsWith", desc := "(Ljava/lang/String;)Z" } : Jvm.MethodName) ({ cls := "java/lang/String", name := "startsWith", desc := "(Ljava/lang/String;)Z" } : Jvm.MethodName)).before a0 Z = true := G.1 _ (List.mem_of_getElem? (i := 32) rfl)
theorem w33 {Z : State} {a0 : Array Value} {zC : Int32} {fS : Value} (G : Gl Z a0 zC fS) : (Jvm.Cond.code ({ cls := "java/lang/String", name := "startsWith", desc := "(Ljava/lang/String;)Z" } : Jvm.MethodName) jdk_42_method_76_code (2 : Nat) (Option.some Jvm.ClassFile.FieldType.boolean)).before a0 Z = true := G.1 _ (List.mem_of_getElem? (i := 33) rfl)
theorem w34 {Z : State} {a0 : Array Value} {zC : Int32} {fS : Value} (G : Gl Z a0 zC fS) : (Jvm.Cond.methodLink "java/lang/String" (624 : Nat) ({ cls := "java/lang/String", name := "startsWith", desc := "(Ljava/lang/String;I)Z" } : Jvm.MethodName)).before a0 Z = true := G.1 _ (List.mem_of_getElem? (i := 34) rfl)
theorem w35 {Z : State} {a0 : Array Value} {zC : Int32} {fS : Value} (G : Gl Z a0 zC fS) : (Jvm.Cond.declares ({ cls := "java/lang/String", name := "startsWith", desc := "(Ljava/lang/String;I)Z" } : Jvm.MethodName)).before a0 Z = true := G.1 _ (List.mem_of_getElem? (i := 35) rfl)
theorem w36 {Z : State} {a0 : Array Value} {zC : Int32} {fS : Value} (G : Gl Z a0 zC fS) : (Jvm.Cond.instanceMethod ({ cls := "java/lang/String", name := "startsWith", desc := "(Ljava/lang/String;I)Z" } : Jvm.MethodName)).before a0 Z = true := G.1 _ (List.mem_of_getElem? (i := 36) rfl)
theorem w37 {Z : State} {a0 : Array Value} {zC : Int32} {fS : Value} (G : Gl Z a0 zC fS) : (Jvm.Cond.selects "java/lang/String" ({ cls := "java/lang/String", name := "startsWith", desc := "(Ljava/lang/String;I)Z" } : Jvm.MethodName) ({ cls := "java/lang/String", name := "startsWith", desc := "(Ljava/lang/String;I)Z" } : Jvm.MethodName)).before a0 Z = true := G.1 _ (List.mem_of_getElem? (i := 37) rfl)
theorem w38 {Z : State} {a0 : Array Value} {zC : Int32} {fS : Value} (G : Gl Z a0 zC fS) : (Jvm.Cond.code ({ cls := "java/lang/String", name := "startsWith", desc := "(Ljava/lang/String;I)Z" } : Jvm.MethodName) jdk_42_method_75_code (8 : Nat) (Option.some Jvm.ClassFile.FieldType.boolean)).before a0 Z = true := G.1 _ (List.mem_of_getElem? (i := 38) rfl)
theorem w39 {Z : State} {a0 : Array Value} {zC : Int32} {fS : Value} (G : Gl Z a0 zC fS) : (Jvm.Cond.methodLink "java/lang/String" (505 : Nat) ({ cls := "java/lang/String", name := "length", desc := "()I" } : Jvm.MethodName)).before a0 Z = true := G.1 _ (List.mem_of_getElem? (i := 39) rfl)
theorem w40 {Z : State} {a0 : Array Value} {zC : Int32} {fS : Value} (G : Gl Z a0 zC fS) : (Jvm.Cond.declares ({ cls := "java/lang/String", name := "length", desc := "()I" } : Jvm.MethodName)).before a0 Z = true := G.1 _ (List.mem_of_getElem? (i := 40) rfl)
theorem w41 {Z : State} {a0 : Array Value} {zC : Int32} {fS : Value} (G : Gl Z a0 zC fS) : (Jvm.Cond.instanceMethod ({ cls := "java/lang/String", name := "length", desc := "()I" } : Jvm.MethodName)).before a0 Z = true := G.1 _ (List.mem_of_getElem? (i := 41) rfl)
theorem w42 {Z : State} {a0 : Array Value} {zC : Int32} {fS : Value} (G : Gl Z a0 zC fS) : (Jvm.Cond.selects "java/lang/String" ({ cls := "java/lang/String", name := "length", desc := "()I" } : Jvm.MethodName) ({ cls := "java/lang/String", name := "length", desc := "()I" } : Jvm.MethodName)).before a0 Z = true := G.1 _ (List.mem_of_getElem? (i := 42) rfl)
theorem w43 {Z : State} {a0 : Array Value} {zC : Int32} {fS : Value} (G : Gl Z a0 zC fS) : (Jvm.Cond.code ({ cls := "java/lang/String", name := "length", desc := "()I" } : Jvm.MethodName) jdk_42_method_54_code (1 : Nat) (Option.some Jvm.ClassFile.FieldType.int)).before a0 Z = true := G.1 _ (List.mem_of_getElem? (i := 43) rfl)
theorem w44 {Z : State} {a0 : Array Value} {zC : Int32} {fS : Value} (G : Gl Z a0 zC fS) : (Jvm.Cond.methodLink "java/lang/String" (335 : Nat) ({ cls := "java/lang/String", name := "coder", desc := "()B" } : Jvm.MethodName)).before a0 Z = true := G.1 _ (List.mem_of_getElem? (i := 44) rfl)
theorem w45 {Z : State} {a0 : Array Value} {zC : Int32} {fS : Value} (G : Gl Z a0 zC fS) : (Jvm.Cond.declares ({ cls := "java/lang/String", name := "coder", desc := "()B" } : Jvm.MethodName)).before a0 Z = true := G.1 _ (List.mem_of_getElem? (i := 45) rfl)
theorem w46 {Z : State} {a0 : Array Value} {zC : Int32} {fS : Value} (G : Gl Z a0 zC fS) : (Jvm.Cond.instanceMethod ({ cls := "java/lang/String", name := "coder", desc := "()B" } : Jvm.MethodName)).before a0 Z = true := G.1 _ (List.mem_of_getElem? (i := 46) rfl)
theorem w47 {Z : State} {a0 : Array Value} {zC : Int32} {fS : Value} (G : Gl Z a0 zC fS) : (Jvm.Cond.selects "java/lang/String" ({ cls := "java/lang/String", name := "coder", desc := "()B" } : Jvm.MethodName) ({ cls := "java/lang/String", name := "coder", desc := "()B" } : Jvm.MethodName)).before a0 Z = true := G.1 _ (List.mem_of_getElem? (i := 47) rfl)
theorem w48 {Z : State} {a0 : Array Value} {zC : Int32} {fS : Value} (G : Gl Z a0 zC fS) : (Jvm.Cond.code ({ cls := "java/lang/String", name := "coder", desc := "()B" } : Jvm.MethodName) jdk_42_method_152_code (1 : Nat) (Option.some Jvm.ClassFile.FieldType.byte)).before a0 Z = true := G.1 _ (List.mem_of_getElem? (i := 48) rfl)
theorem w49 {Z : State} {a0 : Array Value} {zC : Int32} {fS : Value} (G : Gl Z a0 zC fS) : (Jvm.Cond.fieldLink "java/lang/String" (38 : Nat) "java/lang/String" "COMPACT_STRINGS" "Z").before a0 Z = true := G.1 _ (List.mem_of_getElem? (i := 49) rfl)
theorem w50 {Z : State} {a0 : Array Value} {zC : Int32} {fS : Value} (G : Gl Z a0 zC fS) : (Jvm.Cond.methodLink "com/example/compendio/compendio/io/TermFile" (397 : Nat) ({ cls := "java/lang/String", name := "length", desc := "()I" } : Jvm.MethodName)).before a0 Z = true := G.1 _ (List.mem_of_getElem? (i := 50) rfl)
theorem w51 {Z : State} {a0 : Array Value} {zC : Int32} {fS : Value} (G : Gl Z a0 zC fS) : (Jvm.Cond.methodLink "com/example/compendio/compendio/io/TermFileIsDecimalPinLaw" (20 : Nat) ({ cls := "com/example/compendio/compendio/io/TermFileIsDecimalPinLaw", name := "expected", desc := "([CI)Z" } : Jvm.MethodName)).before a0 Z = true := G.1 _ (List.mem_of_getElem? (i := 51) rfl)
theorem w52 {Z : State} {a0 : Array Value} {zC : Int32} {fS : Value} (G : Gl Z a0 zC fS) : (Jvm.Cond.static ({ cls := "com/example/compendio/compendio/io/TermFileIsDecimalPinLaw", name := "expected", desc := "([CI)Z" } : Jvm.MethodName)).before a0 Z = true := G.1 _ (List.mem_of_getElem? (i := 52) rfl)
theorem w53 {Z : State} {a0 : Array Value} {zC : Int32} {fS : Value} (G : Gl Z a0 zC fS) : (Jvm.Cond.initialized "com/example/compendio/compendio/io/TermFileIsDecimalPinLaw").before a0 Z = true := G.1 _ (List.mem_of_getElem? (i := 53) rfl)
theorem w54 {Z : State} {a0 : Array Value} {zC : Int32} {fS : Value} (G : Gl Z a0 zC fS) : (Jvm.Cond.code ({ cls := "com/example/compendio/compendio/io/TermFileIsDecimalPinLaw", name := "expected", desc := "([CI)Z" } : Jvm.MethodName) method_6_code (5 : Nat) (Option.some Jvm.ClassFile.FieldType.boolean)).before a0 Z = true := G.1 _ (List.mem_of_getElem? (i := 54) rfl)
theorem w55 {Z : State} {a0 : Array Value} {zC : Int32} {fS : Value} (G : Gl Z a0 zC fS) : (Jvm.Cond.methodLink "java/lang/String" (177 : Nat) ({ cls := "java/lang/StringUTF16", name := "compress", desc := "([CII)[B" } : Jvm.MethodName)).before a0 Z = true := G.1 _ (List.mem_of_getElem? (i := 55) rfl)
theorem w56 {Z : State} {a0 : Array Value} {zC : Int32} {fS : Value} (G : Gl Z a0 zC fS) : (Jvm.Cond.static ({ cls := "java/lang/StringUTF16", name := "compress", desc := "([CII)[B" } : Jvm.MethodName)).before a0 Z = true := G.1 _ (List.mem_of_getElem? (i := 56) rfl)
theorem w57 {Z : State} {a0 : Array Value} {zC : Int32} {fS : Value} (G : Gl Z a0 zC fS) : (Jvm.Cond.initialized "java/lang/StringUTF16").before a0 Z = true := G.1 _ (List.mem_of_getElem? (i := 57) rfl)
theorem w58 {Z : State} {a0 : Array Value} {zC : Int32} {fS : Value} (G : Gl Z a0 zC fS) : (Jvm.Cond.code ({ cls := "java/lang/StringUTF16", name := "compress", desc := "([CII)[B" } : Jvm.MethodName) jdk_52_method_16_code (6 : Nat) (Option.some (Jvm.ClassFile.FieldType.array Jvm.ClassFile.FieldType.byte))).before a0 Z = true := G.1 _ (List.mem_of_getElem? (i := 58) rfl)
theorem w59 {Z : State} {a0 : Array Value} {zC : Int32} {fS : Value} (G : Gl Z a0 zC fS) : (Jvm.Cond.methodLink "java/lang/StringUTF16" (115 : Nat) ({ cls := "java/lang/StringUTF16", name := "compress", desc := "([CI[BII)I" } : Jvm.MethodName)).before a0 Z = true := G.1 _ (List.mem_of_getElem? (i := 59) rfl)
theorem w60 {Z : State} {a0 : Array Value} {zC : Int32} {fS : Value} (G : Gl Z a0 zC fS) : (Jvm.Cond.static ({ cls := "java/lang/StringUTF16", name := "compress", desc := "([CI[BII)I" } : Jvm.MethodName)).before a0 Z = true := G.1 _ (List.mem_of_getElem? (i := 60) rfl)
theorem w61 {Z : State} {a0 : Array Value} {zC : Int32} {fS : Value} (G : Gl Z a0 zC fS) : (Jvm.Cond.code ({ cls := "java/lang/StringUTF16", name := "compress", desc := "([CI[BII)I" } : Jvm.MethodName) jdk_52_method_21_code (7 : Nat) (Option.some Jvm.ClassFile.FieldType.int)).before a0 Z = true := G.1 _ (List.mem_of_getElem? (i := 61) rfl)
theorem w62 {Z : State} {a0 : Array Value} {zC : Int32} {fS : Value} (G : Gl Z a0 zC fS) : (Jvm.Cond.methodLink "java/lang/String" (47 : Nat) ({ cls := "java/lang/StringUTF16", name := "coderFromArrayLen", desc := "([BI)B" } : Jvm.MethodName)).before a0 Z = true := G.1 _ (List.mem_of_getElem? (i := 62) rfl)
theorem w63 {Z : State} {a0 : Array Value} {zC : Int32} {fS : Value} (G : Gl Z a0 zC fS) : (Jvm.Cond.static ({ cls := "java/lang/StringUTF16", name := "coderFromArrayLen", desc := "([BI)B" } : Jvm.MethodName)).before a0 Z = true := G.1 _ (List.mem_of_getElem? (i := 63) rfl)
theorem w64 {Z : State} {a0 : Array Value} {zC : Int32} {fS : Value} (G : Gl Z a0 zC fS) : (Jvm.Cond.code ({ cls := "java/lang/StringUTF16", name := "coderFromArrayLen", desc := "([BI)B" } : Jvm.MethodName) jdk_52_method_15_code (2 : Nat) (Option.some Jvm.ClassFile.FieldType.byte)).before a0 Z = true := G.1 _ (List.mem_of_getElem? (i := 64) rfl)
theorem w65 {Z : State} {a0 : Array Value} {zC : Int32} {fS : Value} (G : Gl Z a0 zC fS) : (Jvm.Cond.methodLink "java/lang/String" (607 : Nat) ({ cls := "jdk/internal/util/ArraysSupport", name := "mismatch", desc := "([BI[BII)I" } : Jvm.MethodName)).before a0 Z = true := G.1 _ (List.mem_of_getElem? (i := 65) rfl)
theorem w66 {Z : State} {a0 : Array Value} {zC : Int32} {fS : Value} (G : Gl Z a0 zC fS) : (Jvm.Cond.static ({ cls := "jdk/internal/util/ArraysSupport", name := "mismatch", desc := "([BI[BII)I" } : Jvm.MethodName)).before a0 Z = true := G.1 _ (List.mem_of_getElem? (i := 66) rfl)
theorem w67 {Z : State} {a0 : Array Value} {zC : Int32} {fS : Value} (G : Gl Z a0 zC fS) : (Jvm.Cond.initialized "jdk/internal/util/ArraysSupport").before a0 Z = true := G.1 _ (List.mem_of_getElem? (i := 67) rfl)
theorem w68 {Z : State} {a0 : Array Value} {zC : Int32} {fS : Value} (G : Gl Z a0 zC fS) : (Jvm.Cond.code ({ cls := "jdk/internal/util/ArraysSupport", name := "mismatch", desc := "([BI[BII)I" } : Jvm.MethodName) jdk_48_method_14_code (8 : Nat) (Option.some Jvm.ClassFile.FieldType.int)).before a0 Z = true := G.1 _ (List.mem_of_getElem? (i := 68) rfl)
theorem w69 {Z : State} {a0 : Array Value} {zC : Int32} {fS : Value} (G : Gl Z a0 zC fS) : (Jvm.Cond.methodLink "com/example/compendio/compendio/io/TermFile" (600 : Nat) ({ cls := "java/lang/String", name := "charAt", desc := "(I)C" } : Jvm.MethodName)).before a0 Z = true := G.1 _ (List.mem_of_getElem? (i := 69) rfl)
theorem w70 {Z : State} {a0 : Array Value} {zC : Int32} {fS : Value} (G : Gl Z a0 zC fS) : (Jvm.Cond.declares ({ cls := "java/lang/String", name := "charAt", desc := "(I)C" } : Jvm.MethodName)).before a0 Z = true := G.1 _ (List.mem_of_getElem? (i := 70) rfl)
theorem w71 {Z : State} {a0 : Array Value} {zC : Int32} {fS : Value} (G : Gl Z a0 zC fS) : (Jvm.Cond.instanceMethod ({ cls := "java/lang/String", name := "charAt", desc := "(I)C" } : Jvm.MethodName)).before a0 Z = true := G.1 _ (List.mem_of_getElem? (i := 71) rfl)
theorem w72 {Z : State} {a0 : Array Value} {zC : Int32} {fS : Value} (G : Gl Z a0 zC fS) : (Jvm.Cond.selects "java/lang/String" ({ cls := "java/lang/String", name := "charAt", desc := "(I)C" } : Jvm.MethodName) ({ cls := "java/lang/String", name := "charAt", desc := "(I)C" } : Jvm.MethodName)).before a0 Z = true := G.1 _ (List.mem_of_getElem? (i := 72) rfl)
theorem w73 {Z : State} {a0 : Array Value} {zC : Int32} {fS : Value} (G : Gl Z a0 zC fS) : (Jvm.Cond.code ({ cls := "java/lang/String", name := "charAt", desc := "(I)C" } : Jvm.MethodName) jdk_42_method_56_code (2 : Nat) (Option.some Jvm.ClassFile.FieldType.char)).before a0 Z = true := G.1 _ (List.mem_of_getElem? (i := 73) rfl)
theorem w74 {Z : State} {a0 : Array Value} {zC : Int32} {fS : Value} (G : Gl Z a0 zC fS) : (Jvm.Cond.methodLink "java/lang/String" (492 : Nat) ({ cls := "java/lang/String", name := "isLatin1", desc := "()Z" } : Jvm.MethodName)).before a0 Z = true := G.1 _ (List.mem_of_getElem? (i := 74) rfl)
theorem w75 {Z : State} {a0 : Array Value} {zC : Int32} {fS : Value} (G : Gl Z a0 zC fS) : (Jvm.Cond.declares ({ cls := "java/lang/String", name := "isLatin1", desc := "()Z" } : Jvm.MethodName)).before a0 Z = true := G.1 _ (List.mem_of_getElem? (i := 75) rfl)
theorem w76 {Z : State} {a0 : Array Value} {zC : Int32} {fS : Value} (G : Gl Z a0 zC fS) : (Jvm.Cond.instanceMethod ({ cls := "java/lang/String", name := "isLatin1", desc := "()Z" } : Jvm.MethodName)).before a0 Z = true := G.1 _ (List.mem_of_getElem? (i := 76) rfl)
theorem w77 {Z : State} {a0 : Array Value} {zC : Int32} {fS : Value} (G : Gl Z a0 zC fS) : (Jvm.Cond.selects "java/lang/String" ({ cls := "java/lang/String", name := "isLatin1", desc := "()Z" } : Jvm.MethodName) ({ cls := "java/lang/String", name := "isLatin1", desc := "()Z" } : Jvm.MethodName)).before a0 Z = true := G.1 _ (List.mem_of_getElem? (i := 77) rfl)
theorem w78 {Z : State} {a0 : Array Value} {zC : Int32} {fS : Value} (G : Gl Z a0 zC fS) : (Jvm.Cond.code ({ cls := "java/lang/String", name := "isLatin1", desc := "()Z" } : Jvm.MethodName) jdk_42_method_154_code (1 : Nat) (Option.some Jvm.ClassFile.FieldType.boolean)).before a0 Z = true := G.1 _ (List.mem_of_getElem? (i := 78) rfl)
theorem w79 {Z : State} {a0 : Array Value} {zC : Int32} {fS : Value} (G : Gl Z a0 zC fS) : (Jvm.Cond.methodLink "java/lang/String" (495 : Nat) ({ cls := "java/lang/StringLatin1", name := "charAt", desc := "([BI)C" } : Jvm.MethodName)).before a0 Z = true := G.1 _ (List.mem_of_getElem? (i := 79) rfl)
theorem w80 {Z : State} {a0 : Array Value} {zC : Int32} {fS : Value} (G : Gl Z a0 zC fS) : (Jvm.Cond.static ({ cls := "java/lang/StringLatin1", name := "charAt", desc := "([BI)C" } : Jvm.MethodName)).before a0 Z = true := G.1 _ (List.mem_of_getElem? (i := 80) rfl)
theorem w81 {Z : State} {a0 : Array Value} {zC : Int32} {fS : Value} (G : Gl Z a0 zC fS) : (Jvm.Cond.initialized "java/lang/StringLatin1").before a0 Z = true := G.1 _ (List.mem_of_getElem? (i := 81) rfl)
theorem w82 {Z : State} {a0 : Array Value} {zC : Int32} {fS : Value} (G : Gl Z a0 zC fS) : (Jvm.Cond.code ({ cls := "java/lang/StringLatin1", name := "charAt", desc := "([BI)C" } : Jvm.MethodName) jdk_43_method_2_code (2 : Nat) (Option.some Jvm.ClassFile.FieldType.char)).before a0 Z = true := G.1 _ (List.mem_of_getElem? (i := 82) rfl)
theorem w83 {Z : State} {a0 : Array Value} {zC : Int32} {fS : Value} (G : Gl Z a0 zC fS) : (Jvm.Cond.methodLink "java/lang/StringLatin1" (9 : Nat) ({ cls := "java/lang/String", name := "checkIndex", desc := "(II)V" } : Jvm.MethodName)).before a0 Z = true := G.1 _ (List.mem_of_getElem? (i := 83) rfl)
theorem w84 {Z : State} {a0 : Array Value} {zC : Int32} {fS : Value} (G : Gl Z a0 zC fS) : (Jvm.Cond.static ({ cls := "java/lang/String", name := "checkIndex", desc := "(II)V" } : Jvm.MethodName)).before a0 Z = true := G.1 _ (List.mem_of_getElem? (i := 84) rfl)
theorem w85 {Z : State} {a0 : Array Value} {zC : Int32} {fS : Value} (G : Gl Z a0 zC fS) : (Jvm.Cond.code ({ cls := "java/lang/String", name := "checkIndex", desc := "(II)V" } : Jvm.MethodName) jdk_42_method_155_code (2 : Nat) (Option.none : Option Jvm.ClassFile.FieldType)).before a0 Z = true := G.1 _ (List.mem_of_getElem? (i := 85) rfl)
theorem w86 {Z : State} {a0 : Array Value} {zC : Int32} {fS : Value} (G : Gl Z a0 zC fS) : (Jvm.Cond.fieldLink "java/lang/String" (1053 : Nat) "jdk/internal/util/Preconditions" "SIOOBE_FORMATTER" "Ljava/util/function/BiFunction;").before a0 Z = true := G.1 _ (List.mem_of_getElem? (i := 86) rfl)
theorem w87 {Z : State} {a0 : Array Value} {zC : Int32} {fS : Value} (G : Gl Z a0 zC fS) : (Jvm.Cond.initialized "jdk/internal/util/Preconditions").before a0 Z = true := G.1 _ (List.mem_of_getElem? (i := 87) rfl)
theorem w88 {Z : State} {a0 : Array Value} {zC : Int32} {fS : Value} (G : Gl Z a0 zC fS) : (Jvm.Cond.methodLink "java/lang/String" (1059 : Nat) ({ cls := "jdk/internal/util/Preconditions", name := "checkIndex", desc := "(IILjava/util/function/BiFunction;)I" } : Jvm.MethodName)).before a0 Z = true := G.1 _ (List.mem_of_getElem? (i := 88) rfl)
theorem w89 {Z : State} {a0 : Array Value} {zC : Int32} {fS : Value} (G : Gl Z a0 zC fS) : (Jvm.Cond.static ({ cls := "jdk/internal/util/Preconditions", name := "checkIndex", desc := "(IILjava/util/function/BiFunction;)I" } : Jvm.MethodName)).before a0 Z = true := G.1 _ (List.mem_of_getElem? (i := 89) rfl)
theorem w90 {Z : State} {a0 : Array Value} {zC : Int32} {fS : Value} (G : Gl Z a0 zC fS) : (Jvm.Cond.code ({ cls := "jdk/internal/util/Preconditions", name := "checkIndex", desc := "(IILjava/util/function/BiFunction;)I" } : Jvm.MethodName) jdk_41_method_11_code (3 : Nat) (Option.some Jvm.ClassFile.FieldType.int)).before a0 Z = true := G.1 _ (List.mem_of_getElem? (i := 90) rfl)
theorem w91 {Z : State} {a0 : Array Value} {zC : Int32} {fS : Value} (G : Gl Z a0 zC fS) : (Jvm.Cond.methodLink "com/example/compendio/compendio/io/TermFileIsDecimalPinLaw" (30 : Nat) ({ cls := "com/example/compendio/compendio/io/TermFileIsDecimalPinLaw", name := "allowed", desc := "([CIII)Z" } : Jvm.MethodName)).before a0 Z = true := G.1 _ (List.mem_of_getElem? (i := 91) rfl)
theorem w92 {Z : State} {a0 : Array Value} {zC : Int32} {fS : Value} (G : Gl Z a0 zC fS) : (Jvm.Cond.static ({ cls := "com/example/compendio/compendio/io/TermFileIsDecimalPinLaw", name := "allowed", desc := "([CIII)Z" } : Jvm.MethodName)).before a0 Z = true := G.1 _ (List.mem_of_getElem? (i := 92) rfl)
theorem w93 {Z : State} {a0 : Array Value} {zC : Int32} {fS : Value} (G : Gl Z a0 zC fS) : (Jvm.Cond.code ({ cls := "com/example/compendio/compendio/io/TermFileIsDecimalPinLaw", name := "allowed", desc := "([CIII)Z" } : Jvm.MethodName) method_4_code (4 : Nat) (Option.some Jvm.ClassFile.FieldType.boolean)).before a0 Z = true := G.1 _ (List.mem_of_getElem? (i := 93) rfl)
theorem w94 {Z : State} {a0 : Array Value} {zC : Int32} {fS : Value} (G : Gl Z a0 zC fS) : (Jvm.Cond.methodLink "com/example/compendio/compendio/io/TermFileIsDecimalPinLaw" (26 : Nat) ({ cls := "com/example/compendio/compendio/io/TermFileIsDecimalPinLaw", name := "isD", desc := "(C)Z" } : Jvm.MethodName)).before a0 Z = true := G.1 _ (List.mem_of_getElem? (i := 94) rfl)
theorem w95 {Z : State} {a0 : Array Value} {zC : Int32} {fS : Value} (G : Gl Z a0 zC fS) : (Jvm.Cond.static ({ cls := "com/example/compendio/compendio/io/TermFileIsDecimalPinLaw", name := "isD", desc := "(C)Z" } : Jvm.MethodName)).before a0 Z = true := G.1 _ (List.mem_of_getElem? (i := 95) rfl)
theorem w96 {Z : State} {a0 : Array Value} {zC : Int32} {fS : Value} (G : Gl Z a0 zC fS) : (Jvm.Cond.code ({ cls := "com/example/compendio/compendio/io/TermFileIsDecimalPinLaw", name := "isD", desc := "(C)Z" } : Jvm.MethodName) method_3_code (1 : Nat) (Option.some Jvm.ClassFile.FieldType.boolean)).before a0 Z = true := G.1 _ (List.mem_of_getElem? (i := 96) rfl)
theorem w97 {Z : State} {a0 : Array Value} {zC : Int32} {fS : Value} (G : Gl Z a0 zC fS) : (Jvm.Cond.methodLink "com/example/compendio/compendio/io/TermFileIsDecimalPinLaw" (34 : Nat) ({ cls := "com/example/compendio/compendio/io/TermFileIsDecimalPinLaw", name := "pt", desc := "([CIII)I" } : Jvm.MethodName)).before a0 Z = true := G.1 _ (List.mem_of_getElem? (i := 97) rfl)
theorem w98 {Z : State} {a0 : Array Value} {zC : Int32} {fS : Value} (G : Gl Z a0 zC fS) : (Jvm.Cond.static ({ cls := "com/example/compendio/compendio/io/TermFileIsDecimalPinLaw", name := "pt", desc := "([CIII)I" } : Jvm.MethodName)).before a0 Z = true := G.1 _ (List.mem_of_getElem? (i := 98) rfl)
theorem w99 {Z : State} {a0 : Array Value} {zC : Int32} {fS : Value} (G : Gl Z a0 zC fS) : (Jvm.Cond.code ({ cls := "com/example/compendio/compendio/io/TermFileIsDecimalPinLaw", name := "pt", desc := "([CIII)I" } : Jvm.MethodName) method_5_code (4 : Nat) (Option.some Jvm.ClassFile.FieldType.int)).before a0 Z = true := G.1 _ (List.mem_of_getElem? (i := 99) rfl)
theorem w100 {Z : State} {a0 : Array Value} {zC : Int32} {fS : Value} (G : Gl Z a0 zC fS) : (Jvm.Cond.methodLink "java/lang/StringUTF16" (119 : Nat) ({ cls := "java/lang/StringUTF16", name := "toBytes", desc := "([CII)[B" } : Jvm.MethodName)).before a0 Z = true := G.1 _ (List.mem_of_getElem? (i := 100) rfl)
theorem w101 {Z : State} {a0 : Array Value} {zC : Int32} {fS : Value} (G : Gl Z a0 zC fS) : (Jvm.Cond.static ({ cls := "java/lang/StringUTF16", name := "toBytes", desc := "([CII)[B" } : Jvm.MethodName)).before a0 Z = true := G.1 _ (List.mem_of_getElem? (i := 101) rfl)
theorem w102 {Z : State} {a0 : Array Value} {zC : Int32} {fS : Value} (G : Gl Z a0 zC fS) : (Jvm.Cond.code ({ cls := "java/lang/StringUTF16", name := "toBytes", desc := "([CII)[B" } : Jvm.MethodName) jdk_52_method_14_code (5 : Nat) (Option.some (Jvm.ClassFile.FieldType.array Jvm.ClassFile.FieldType.byte))).before a0 Z = true := G.1 _ (List.mem_of_getElem? (i := 102) rfl)
theorem w103 {Z : State} {a0 : Array Value} {zC : Int32} {fS : Value} (G : Gl Z a0 zC fS) : (Jvm.Cond.methodLink "java/lang/StringUTF16" (107 : Nat) ({ cls := "java/lang/StringUTF16", name := "newBytesFor", desc := "(I)[B" } : Jvm.MethodName)).before a0 Z = true := G.1 _ (List.mem_of_getElem? (i := 103) rfl)
theorem w104 {Z : State} {a0 : Array Value} {zC : Int32} {fS : Value} (G : Gl Z a0 zC fS) : (Jvm.Cond.static ({ cls := "java/lang/StringUTF16", name := "newBytesFor", desc := "(I)[B" } : Jvm.MethodName)).before a0 Z = true := G.1 _ (List.mem_of_getElem? (i := 104) rfl)
theorem w105 {Z : State} {a0 : Array Value} {zC : Int32} {fS : Value} (G : Gl Z a0 zC fS) : (Jvm.Cond.code ({ cls := "java/lang/StringUTF16", name := "newBytesFor", desc := "(I)[B" } : Jvm.MethodName) jdk_52_method_2_code (1 : Nat) (Option.some (Jvm.ClassFile.FieldType.array Jvm.ClassFile.FieldType.byte))).before a0 Z = true := G.1 _ (List.mem_of_getElem? (i := 105) rfl)
theorem w106 {Z : State} {a0 : Array Value} {zC : Int32} {fS : Value} (G : Gl Z a0 zC fS) : (Jvm.Cond.methodLink "java/lang/StringUTF16" (11 : Nat) ({ cls := "java/lang/StringUTF16", name := "newBytesLength", desc := "(I)I" } : Jvm.MethodName)).before a0 Z = true := G.1 _ (List.mem_of_getElem? (i := 106) rfl)
theorem w107 {Z : State} {a0 : Array Value} {zC : Int32} {fS : Value} (G : Gl Z a0 zC fS) : (Jvm.Cond.static ({ cls := "java/lang/StringUTF16", name := "newBytesLength", desc := "(I)I" } : Jvm.MethodName)).before a0 Z = true := G.1 _ (List.mem_of_getElem? (i := 107) rfl)
theorem w108 {Z : State} {a0 : Array Value} {zC : Int32} {fS : Value} (G : Gl Z a0 zC fS) : (Jvm.Cond.code ({ cls := "java/lang/StringUTF16", name := "newBytesLength", desc := "(I)I" } : Jvm.MethodName) jdk_52_method_3_code (1 : Nat) (Option.some Jvm.ClassFile.FieldType.int)).before a0 Z = true := G.1 _ (List.mem_of_getElem? (i := 108) rfl)
theorem w109 {Z : State} {a0 : Array Value} {zC : Int32} {fS : Value} (G : Gl Z a0 zC fS) : (Jvm.Cond.constant "java/lang/StringUTF16" (20 : Nat) (1073741823 : Int32)).before a0 Z = true := G.1 _ (List.mem_of_getElem? (i := 109) rfl)
theorem w110 {Z : State} {a0 : Array Value} {zC : Int32} {fS : Value} (G : Gl Z a0 zC fS) : (Jvm.Cond.methodLink "java/lang/StringUTF16" (111 : Nat) ({ cls := "java/lang/StringUTF16", name := "putChar", desc := "([BII)V" } : Jvm.MethodName)).before a0 Z = true := G.1 _ (List.mem_of_getElem? (i := 110) rfl)
theorem w111 {Z : State} {a0 : Array Value} {zC : Int32} {fS : Value} (G : Gl Z a0 zC fS) : (Jvm.Cond.static ({ cls := "java/lang/StringUTF16", name := "putChar", desc := "([BII)V" } : Jvm.MethodName)).before a0 Z = true := G.1 _ (List.mem_of_getElem? (i := 111) rfl)
theorem w112 {Z : State} {a0 : Array Value} {zC : Int32} {fS : Value} (G : Gl Z a0 zC fS) : (Jvm.Cond.code ({ cls := "java/lang/StringUTF16", name := "putChar", desc := "([BII)V" } : Jvm.MethodName) jdk_52_method_4_code (3 : Nat) (Option.none : Option Jvm.ClassFile.FieldType)).before a0 Z = true := G.1 _ (List.mem_of_getElem? (i := 112) rfl)
theorem w113 {Z : State} {a0 : Array Value} {zC : Int32} {fS : Value} (G : Gl Z a0 zC fS) : (Jvm.Cond.fieldLink "java/lang/StringUTF16" (44 : Nat) "java/lang/StringUTF16" "$assertionsDisabled" "Z").before a0 Z = true := G.1 _ (List.mem_of_getElem? (i := 113) rfl)
theorem w114 {Z : State} {a0 : Array Value} {zC : Int32} {fS : Value} (G : Gl Z a0 zC fS) : (Jvm.Cond.fieldLink "java/lang/StringUTF16" (59 : Nat) "java/lang/StringUTF16" "HI_BYTE_SHIFT" "I").before a0 Z = true := G.1 _ (List.mem_of_getElem? (i := 114) rfl)
theorem w115 {Z : State} {a0 : Array Value} {zC : Int32} {fS : Value} (G : Gl Z a0 zC fS) : (Jvm.Cond.fieldLink "java/lang/StringUTF16" (63 : Nat) "java/lang/StringUTF16" "LO_BYTE_SHIFT" "I").before a0 Z = true := G.1 _ (List.mem_of_getElem? (i := 115) rfl)
theorem w116 {Z : State} {a0 : Array Value} {zC : Int32} {fS : Value} (G : Gl Z a0 zC fS) : (Jvm.Cond.methodLink "java/lang/StringUTF16" (71 : Nat) ({ cls := "java/lang/StringUTF16", name := "getChar", desc := "([BI)C" } : Jvm.MethodName)).before a0 Z = true := G.1 _ (List.mem_of_getElem? (i := 116) rfl)
theorem w117 {Z : State} {a0 : Array Value} {zC : Int32} {fS : Value} (G : Gl Z a0 zC fS) : (Jvm.Cond.static ({ cls := "java/lang/StringUTF16", name := "getChar", desc := "([BI)C" } : Jvm.MethodName)).before a0 Z = true := G.1 _ (List.mem_of_getElem? (i := 117) rfl)
theorem w118 {Z : State} {a0 : Array Value} {zC : Int32} {fS : Value} (G : Gl Z a0 zC fS) : (Jvm.Cond.code ({ cls := "java/lang/StringUTF16", name := "getChar", desc := "([BI)C" } : Jvm.MethodName) jdk_52_method_5_code (2 : Nat) (Option.some Jvm.ClassFile.FieldType.char)).before a0 Z = true := G.1 _ (List.mem_of_getElem? (i := 118) rfl)
theorem w119 {Z : State} {a0 : Array Value} {zC : Int32} {fS : Value} (G : Gl Z a0 zC fS) : (Jvm.Cond.methodLink "java/lang/String" (360 : Nat) ({ cls := "java/lang/StringUTF16", name := "getChar", desc := "([BI)C" } : Jvm.MethodName)).before a0 Z = true := G.1 _ (List.mem_of_getElem? (i := 119) rfl)
theorem w120 {Z : State} {a0 : Array Value} {zC : Int32} {fS : Value} (G : Gl Z a0 zC fS) : (Jvm.Cond.methodLink "java/lang/String" (498 : Nat) ({ cls := "java/lang/StringUTF16", name := "charAt", desc := "([BI)C" } : Jvm.MethodName)).before a0 Z = true := G.1 _ (List.mem_of_getElem? (i := 120) rfl)
theorem w121 {Z : State} {a0 : Array Value} {zC : Int32} {fS : Value} (G : Gl Z a0 zC fS) : (Jvm.Cond.static ({ cls := "java/lang/StringUTF16", name := "charAt", desc := "([BI)C" } : Jvm.MethodName)).before a0 Z = true := G.1 _ (List.mem_of_getElem? (i := 121) rfl)
theorem w122 {Z : State} {a0 : Array Value} {zC : Int32} {fS : Value} (G : Gl Z a0 zC fS) : (Jvm.Cond.code ({ cls := "java/lang/StringUTF16", name := "charAt", desc := "([BI)C" } : Jvm.MethodName) jdk_52_method_83_code (2 : Nat) (Option.some Jvm.ClassFile.FieldType.char)).before a0 Z = true := G.1 _ (List.mem_of_getElem? (i := 122) rfl)
theorem w123 {Z : State} {a0 : Array Value} {zC : Int32} {fS : Value} (G : Gl Z a0 zC fS) : (Jvm.Cond.methodLink "java/lang/StringUTF16" (67 : Nat) ({ cls := "java/lang/StringUTF16", name := "checkIndex", desc := "(I[B)V" } : Jvm.MethodName)).before a0 Z = true := G.1 _ (List.mem_of_getElem? (i := 123) rfl)
theorem w124 {Z : State} {a0 : Array Value} {zC : Int32} {fS : Value} (G : Gl Z a0 zC fS) : (Jvm.Cond.static ({ cls := "java/lang/StringUTF16", name := "checkIndex", desc := "(I[B)V" } : Jvm.MethodName)).before a0 Z = true := G.1 _ (List.mem_of_getElem? (i := 124) rfl)
theorem w125 {Z : State} {a0 : Array Value} {zC : Int32} {fS : Value} (G : Gl Z a0 zC fS) : (Jvm.Cond.code ({ cls := "java/lang/StringUTF16", name := "checkIndex", desc := "(I[B)V" } : Jvm.MethodName) jdk_52_method_91_code (2 : Nat) (Option.none : Option Jvm.ClassFile.FieldType)).before a0 Z = true := G.1 _ (List.mem_of_getElem? (i := 125) rfl)
theorem w126 {Z : State} {a0 : Array Value} {zC : Int32} {fS : Value} (G : Gl Z a0 zC fS) : (Jvm.Cond.methodLink "java/lang/StringUTF16" (48 : Nat) ({ cls := "java/lang/StringUTF16", name := "length", desc := "([B)I" } : Jvm.MethodName)).before a0 Z = true := G.1 _ (List.mem_of_getElem? (i := 126) rfl)
theorem w127 {Z : State} {a0 : Array Value} {zC : Int32} {fS : Value} (G : Gl Z a0 zC fS) : (Jvm.Cond.static ({ cls := "java/lang/StringUTF16", name := "length", desc := "([B)I" } : Jvm.MethodName)).before a0 Z = true := G.1 _ (List.mem_of_getElem? (i := 127) rfl)
theorem w128 {Z : State} {a0 : Array Value} {zC : Int32} {fS : Value} (G : Gl Z a0 zC fS) : (Jvm.Cond.code ({ cls := "java/lang/StringUTF16", name := "length", desc := "([B)I" } : Jvm.MethodName) jdk_52_method_6_code (1 : Nat) (Option.some Jvm.ClassFile.FieldType.int)).before a0 Z = true := G.1 _ (List.mem_of_getElem? (i := 128) rfl)
theorem w129 {Z : State} {a0 : Array Value} {zC : Int32} {fS : Value} (G : Gl Z a0 zC fS) : (Jvm.Cond.methodLink "java/lang/StringUTF16" (414 : Nat) ({ cls := "java/lang/String", name := "checkIndex", desc := "(II)V" } : Jvm.MethodName)).before a0 Z = true := G.1 _ (List.mem_of_getElem? (i := 129) rfl)
theorem watoms {Z : State} {a0 : Array Value} {zC : Int32} {fS : Value} (G : Gl Z a0 zC fS) : ∀ a ∈ Bundle.stringAtoms, a.before a0 Z = true := fun d hd => by
  simp only [Bundle.stringAtoms, List.mem_cons, List.not_mem_nil, or_false] at hd
  rcases hd with rfl | rfl | rfl | rfl | rfl | rfl | rfl
  · exact (w5 G)
  · exact (w4 G)
  · exact (w17 G)
  · exact (w18 G)
  · exact (w19 G)
  · exact (w20 G)
  · exact (w21 G)
theorem d_jdk_52_m21_3 : decode jdk_52_method_21_code 3 = .ok (.iload 5, 2) := by decide +kernel
theorem d_jdk_52_m21_5 : decode jdk_52_method_21_code 5 = .ok (.iload 4, 2) := by decide +kernel
theorem d_jdk_52_m21_7 : decode jdk_52_method_21_code 7 = .ok (.if_icmp .ge 37, 3) := by decide +kernel
theorem d_jdk_52_m21_44 : decode jdk_52_method_21_code 44 = .ok (.iload 4, 2) := by decide +kernel
theorem d_jdk_52_m21_46 : decode jdk_52_method_21_code 46 = .ok (.ireturn, 1) := by decide +kernel
theorem d_jdk_52_m21_10 : decode jdk_52_method_21_code 10 = .ok (.aload_n 0, 1) := by decide +kernel
theorem d_jdk_52_m21_11 : decode jdk_52_method_21_code 11 = .ok (.iload_n 1, 1) := by decide +kernel
theorem d_jdk_52_m21_12 : decode jdk_52_method_21_code 12 = .ok (.caload, 1) := by decide +kernel
theorem d_jdk_52_m21_13 : decode jdk_52_method_21_code 13 = .ok (.istore 6, 2) := by decide +kernel
theorem d_jdk_52_m21_15 : decode jdk_52_method_21_code 15 = .ok (.iload 6, 2) := by decide +kernel
theorem d_jdk_52_m21_17 : decode jdk_52_method_21_code 17 = .ok (.sipush 255, 3) := by decide +kernel
theorem d_jdk_52_m21_20 : decode jdk_52_method_21_code 20 = .ok (.if_icmp .le 6, 3) := by decide +kernel
theorem d_jdk_52_m21_26 : decode jdk_52_method_21_code 26 = .ok (.aload_n 2, 1) := by decide +kernel
theorem d_jdk_52_m21_27 : decode jdk_52_method_21_code 27 = .ok (.iload_n 3, 1) := by decide +kernel
theorem d_jdk_52_m21_28 : decode jdk_52_method_21_code 28 = .ok (.iload 6, 2) := by decide +kernel
theorem d_jdk_52_m21_30 : decode jdk_52_method_21_code 30 = .ok (.i2b, 1) := by decide +kernel
theorem d_jdk_52_m21_31 : decode jdk_52_method_21_code 31 = .ok (.bastore, 1) := by decide +kernel
theorem d_jdk_52_m21_32 : decode jdk_52_method_21_code 32 = .ok (.iinc 1 1, 3) := by decide +kernel
theorem d_jdk_52_m21_35 : decode jdk_52_method_21_code 35 = .ok (.iinc 3 1, 3) := by decide +kernel
theorem d_jdk_52_m21_38 : decode jdk_52_method_21_code 38 = .ok (.iinc 5 1, 3) := by decide +kernel
theorem d_jdk_52_m21_41 : decode jdk_52_method_21_code 41 = .ok (.goto (-38), 3) := by decide +kernel
theorem d_jdk_52_m21_0 : decode jdk_52_method_21_code 0 = .ok (.iconst 0, 1) := by decide +kernel
theorem d_jdk_52_m21_1 : decode jdk_52_method_21_code 1 = .ok (.istore 5, 2) := by decide +kernel
theorem pn0 : plainName "java/lang/StringUTF16" = true := by first | (simp [plainName, overriddenIn]; done) | decide +kernel
theorem d_jdk_52_m15_0 : decode jdk_52_method_15_code 0 = .ok (.iload_n 1, 1) := by decide +kernel
theorem d_jdk_52_m15_1 : decode jdk_52_method_15_code 1 = .ok (.aload_n 0, 1) := by decide +kernel
theorem d_jdk_52_m15_2 : decode jdk_52_method_15_code 2 = .ok (.arraylength, 1) := by decide +kernel
theorem d_jdk_52_m15_3 : decode jdk_52_method_15_code 3 = .ok (.isub, 1) := by decide +kernel
theorem d_jdk_52_m15_4 : decode jdk_52_method_15_code 4 = .ok (.bipush 31, 2) := by decide +kernel
theorem d_jdk_52_m15_6 : decode jdk_52_method_15_code 6 = .ok (.iushr, 1) := by decide +kernel
theorem d_jdk_52_m15_7 : decode jdk_52_method_15_code 7 = .ok (.i2b, 1) := by decide +kernel
theorem d_jdk_52_m15_8 : decode jdk_52_method_15_code 8 = .ok (.ireturn, 1) := by decide +kernel
theorem d_jdk_52_m16_0 : decode jdk_52_method_16_code 0 = .ok (.iload_n 2, 1) := by decide +kernel
theorem d_jdk_52_m16_1 : decode jdk_52_method_16_code 1 = .ok (.newarray .byte, 2) := by decide +kernel
theorem d_jdk_52_m16_3 : decode jdk_52_method_16_code 3 = .ok (.astore_n 3, 1) := by decide +kernel
theorem d_jdk_52_m16_4 : decode jdk_52_method_16_code 4 = .ok (.aload_n 0, 1) := by decide +kernel
theorem d_jdk_52_m16_5 : decode jdk_52_method_16_code 5 = .ok (.iload_n 1, 1) := by decide +kernel
theorem d_jdk_52_m16_6 : decode jdk_52_method_16_code 6 = .ok (.aload_n 3, 1) := by decide +kernel
theorem d_jdk_52_m16_7 : decode jdk_52_method_16_code 7 = .ok (.iconst 0, 1) := by decide +kernel
theorem d_jdk_52_m16_8 : decode jdk_52_method_16_code 8 = .ok (.iload_n 2, 1) := by decide +kernel
theorem d_jdk_52_m16_9 : decode jdk_52_method_16_code 9 = .ok (.invokestatic 115, 3) := by decide +kernel
theorem pd1 : parseMethodDescriptor "([CI[BII)I" = some ⟨[(.array .char), .int, (.array .byte), .int, .int], some .int⟩ := by decide +kernel
theorem d_jdk_52_m16_12 : decode jdk_52_method_16_code 12 = .ok (.istore 4, 2) := by decide +kernel
theorem d_jdk_52_m16_14 : decode jdk_52_method_16_code 14 = .ok (.iload 4, 2) := by decide +kernel
theorem d_jdk_52_m16_16 : decode jdk_52_method_16_code 16 = .ok (.iload_n 2, 1) := by decide +kernel
theorem d_jdk_52_m16_17 : decode jdk_52_method_16_code 17 = .ok (.if_icmp .eq 40, 3) := by decide +kernel
theorem d_jdk_52_m16_57 : decode jdk_52_method_16_code 57 = .ok (.aload_n 3, 1) := by decide +kernel
theorem d_jdk_52_m16_58 : decode jdk_52_method_16_code 58 = .ok (.areturn, 1) := by decide +kernel
theorem d_jdk_42_m149_0 : decode jdk_42_method_149_code 0 = .ok (.aload_n 0, 1) := by decide +kernel
theorem d_jdk_42_m149_1 : decode jdk_42_method_149_code 1 = .ok (.invokespecial 1, 3) := by decide +kernel
theorem d_jdk_42_m149_4 : decode jdk_42_method_149_code 4 = .ok (.iload_n 3, 1) := by decide +kernel
theorem d_jdk_42_m149_5 : decode jdk_42_method_149_code 5 = .ok (.ifCond .ne 22, 3) := by decide +kernel
theorem d_jdk_42_m149_27 : decode jdk_42_method_149_code 27 = .ok (.getstatic 38, 3) := by decide +kernel
theorem d_jdk_42_m149_30 : decode jdk_42_method_149_code 30 = .ok (.ifCond .eq 28, 3) := by decide +kernel
theorem d_jdk_42_m149_33 : decode jdk_42_method_149_code 33 = .ok (.aload_n 1, 1) := by decide +kernel
theorem d_jdk_42_m149_34 : decode jdk_42_method_149_code 34 = .ok (.iload_n 2, 1) := by decide +kernel
theorem d_jdk_42_m149_35 : decode jdk_42_method_149_code 35 = .ok (.iload_n 3, 1) := by decide +kernel
theorem d_jdk_42_m149_36 : decode jdk_42_method_149_code 36 = .ok (.invokestatic 177, 3) := by decide +kernel
theorem pd2 : parseMethodDescriptor "([CII)[B" = some ⟨[(.array .char), .int, .int], some (.array .byte)⟩ := by decide +kernel
theorem d_jdk_42_m149_39 : decode jdk_42_method_149_code 39 = .ok (.astore 5, 2) := by decide +kernel
theorem d_jdk_42_m149_41 : decode jdk_42_method_149_code 41 = .ok (.aload_n 0, 1) := by decide +kernel
theorem d_jdk_42_m149_42 : decode jdk_42_method_149_code 42 = .ok (.aload 5, 2) := by decide +kernel
theorem d_jdk_42_m149_44 : decode jdk_42_method_149_code 44 = .ok (.iload_n 3, 1) := by decide +kernel
theorem d_jdk_42_m149_45 : decode jdk_42_method_149_code 45 = .ok (.invokestatic 47, 3) := by decide +kernel
theorem pd3 : parseMethodDescriptor "([BI)B" = some ⟨[(.array .byte), .int], some .byte⟩ := by decide +kernel
theorem d_jdk_42_m149_48 : decode jdk_42_method_149_code 48 = .ok (.putfield 15, 3) := by decide +kernel
theorem d_jdk_42_m149_51 : decode jdk_42_method_149_code 51 = .ok (.aload_n 0, 1) := by decide +kernel
theorem d_jdk_42_m149_52 : decode jdk_42_method_149_code 52 = .ok (.aload 5, 2) := by decide +kernel
theorem d_jdk_42_m149_54 : decode jdk_42_method_149_code 54 = .ok (.putfield 9, 3) := by decide +kernel
theorem d_jdk_42_m149_57 : decode jdk_42_method_149_code 57 = .ok (.return_, 1) := by decide +kernel
theorem pn4 : plainName "java/lang/String" = true := by first | (simp [plainName, overriddenIn]; done) | decide +kernel
theorem d_jdk_42_m3_0 : decode jdk_42_method_3_code 0 = .ok (.aload_n 0, 1) := by decide +kernel
theorem d_jdk_42_m3_1 : decode jdk_42_method_3_code 1 = .ok (.aload_n 1, 1) := by decide +kernel
theorem d_jdk_42_m3_2 : decode jdk_42_method_3_code 2 = .ok (.iconst 0, 1) := by decide +kernel
theorem d_jdk_42_m3_3 : decode jdk_42_method_3_code 3 = .ok (.aload_n 1, 1) := by decide +kernel
theorem d_jdk_42_m3_4 : decode jdk_42_method_3_code 4 = .ok (.arraylength, 1) := by decide +kernel
theorem d_jdk_42_m3_5 : decode jdk_42_method_3_code 5 = .ok (.aconst_null, 1) := by decide +kernel
theorem d_jdk_42_m3_6 : decode jdk_42_method_3_code 6 = .ok (.invokespecial 27, 3) := by decide +kernel
theorem pd5 : parseMethodDescriptor "([CIILjava/lang/Void;)V" = some ⟨[(.array .char), .int, .int, (.object "java/lang/Void")], none⟩ := by decide +kernel
theorem d_jdk_42_m3_9 : decode jdk_42_method_3_code 9 = .ok (.return_, 1) := by decide +kernel
theorem d_jdk_42_m149_8 : decode jdk_42_method_149_code 8 = .ok (.aload_n 0, 1) := by decide +kernel
theorem d_jdk_42_m149_9 : decode jdk_42_method_149_code 9 = .ok (.ldc 7, 2) := by decide +kernel
theorem d_jdk_42_m149_11 : decode jdk_42_method_149_code 11 = .ok (.getfield 9, 3) := by decide +kernel
theorem d_jdk_42_m149_14 : decode jdk_42_method_149_code 14 = .ok (.putfield 9, 3) := by decide +kernel
theorem d_jdk_42_m149_17 : decode jdk_42_method_149_code 17 = .ok (.aload_n 0, 1) := by decide +kernel
theorem d_jdk_42_m149_18 : decode jdk_42_method_149_code 18 = .ok (.ldc 7, 2) := by decide +kernel
theorem d_jdk_42_m149_20 : decode jdk_42_method_149_code 20 = .ok (.getfield 15, 3) := by decide +kernel
theorem d_jdk_42_m149_23 : decode jdk_42_method_149_code 23 = .ok (.putfield 15, 3) := by decide +kernel
theorem d_jdk_42_m149_26 : decode jdk_42_method_149_code 26 = .ok (.return_, 1) := by decide +kernel
theorem d_jdk_42_m152_0 : decode jdk_42_method_152_code 0 = .ok (.getstatic 38, 3) := by decide +kernel
theorem d_jdk_42_m152_3 : decode jdk_42_method_152_code 3 = .ok (.ifCond .eq 10, 3) := by decide +kernel
theorem d_jdk_42_m152_6 : decode jdk_42_method_152_code 6 = .ok (.aload_n 0, 1) := by decide +kernel
theorem d_jdk_42_m152_7 : decode jdk_42_method_152_code 7 = .ok (.getfield 15, 3) := by decide +kernel
theorem d_jdk_42_m152_10 : decode jdk_42_method_152_code 10 = .ok (.goto 4, 3) := by decide +kernel
theorem d_jdk_42_m152_14 : decode jdk_42_method_152_code 14 = .ok (.ireturn, 1) := by decide +kernel
theorem d_jdk_42_m54_0 : decode jdk_42_method_54_code 0 = .ok (.aload_n 0, 1) := by decide +kernel
theorem d_jdk_42_m54_1 : decode jdk_42_method_54_code 1 = .ok (.getfield 9, 3) := by decide +kernel
theorem d_jdk_42_m54_4 : decode jdk_42_method_54_code 4 = .ok (.arraylength, 1) := by decide +kernel
theorem d_jdk_42_m54_5 : decode jdk_42_method_54_code 5 = .ok (.aload_n 0, 1) := by decide +kernel
theorem d_jdk_42_m54_6 : decode jdk_42_method_54_code 6 = .ok (.invokevirtual 335, 3) := by decide +kernel
theorem pd6 : parseMethodDescriptor "()B" = some ⟨[], some .byte⟩ := by decide +kernel
theorem d_jdk_42_m54_9 : decode jdk_42_method_54_code 9 = .ok (.ishr, 1) := by decide +kernel
theorem d_jdk_42_m54_10 : decode jdk_42_method_54_code 10 = .ok (.ireturn, 1) := by decide +kernel
theorem d_jdk_42_m154_0 : decode jdk_42_method_154_code 0 = .ok (.getstatic 38, 3) := by decide +kernel
theorem d_jdk_42_m154_3 : decode jdk_42_method_154_code 3 = .ok (.ifCond .eq 14, 3) := by decide +kernel
theorem d_jdk_42_m154_6 : decode jdk_42_method_154_code 6 = .ok (.aload_n 0, 1) := by decide +kernel
theorem d_jdk_42_m154_7 : decode jdk_42_method_154_code 7 = .ok (.getfield 15, 3) := by decide +kernel
theorem d_jdk_42_m154_10 : decode jdk_42_method_154_code 10 = .ok (.ifCond .ne 7, 3) := by decide +kernel
theorem d_jdk_42_m154_13 : decode jdk_42_method_154_code 13 = .ok (.iconst 1, 1) := by decide +kernel
theorem d_jdk_42_m154_14 : decode jdk_42_method_154_code 14 = .ok (.goto 4, 3) := by decide +kernel
theorem d_jdk_42_m154_18 : decode jdk_42_method_154_code 18 = .ok (.ireturn, 1) := by decide +kernel
theorem d_jdk_41_m11_0 : decode jdk_41_method_11_code 0 = .ok (.iload_n 0, 1) := by decide +kernel
theorem d_jdk_41_m11_1 : decode jdk_41_method_11_code 1 = .ok (.ifCond .lt 8, 3) := by decide +kernel
theorem d_jdk_41_m11_4 : decode jdk_41_method_11_code 4 = .ok (.iload_n 0, 1) := by decide +kernel
theorem d_jdk_41_m11_5 : decode jdk_41_method_11_code 5 = .ok (.iload_n 1, 1) := by decide +kernel
theorem d_jdk_41_m11_6 : decode jdk_41_method_11_code 6 = .ok (.if_icmp .lt 10, 3) := by decide +kernel
theorem d_jdk_41_m11_16 : decode jdk_41_method_11_code 16 = .ok (.iload_n 0, 1) := by decide +kernel
theorem d_jdk_41_m11_17 : decode jdk_41_method_11_code 17 = .ok (.ireturn, 1) := by decide +kernel
theorem pn7 : plainName "jdk/internal/util/Preconditions" = true := by first | (simp [plainName, overriddenIn]; done) | decide +kernel
theorem d_jdk_42_m155_0 : decode jdk_42_method_155_code 0 = .ok (.iload_n 0, 1) := by decide +kernel
theorem d_jdk_42_m155_1 : decode jdk_42_method_155_code 1 = .ok (.iload_n 1, 1) := by decide +kernel
theorem d_jdk_42_m155_2 : decode jdk_42_method_155_code 2 = .ok (.getstatic 1053, 3) := by decide +kernel
theorem d_jdk_42_m155_5 : decode jdk_42_method_155_code 5 = .ok (.invokestatic 1059, 3) := by decide +kernel
theorem pd8 : parseMethodDescriptor "(IILjava/util/function/BiFunction;)I" = some ⟨[.int, .int, (.object "java/util/function/BiFunction")], some .int⟩ := by decide +kernel
theorem d_jdk_42_m155_8 : decode jdk_42_method_155_code 8 = .ok (.pop, 1) := by decide +kernel
theorem d_jdk_42_m155_9 : decode jdk_42_method_155_code 9 = .ok (.return_, 1) := by decide +kernel
theorem d_jdk_43_m2_0 : decode jdk_43_method_2_code 0 = .ok (.iload_n 1, 1) := by decide +kernel
theorem d_jdk_43_m2_1 : decode jdk_43_method_2_code 1 = .ok (.aload_n 0, 1) := by decide +kernel
theorem d_jdk_43_m2_2 : decode jdk_43_method_2_code 2 = .ok (.arraylength, 1) := by decide +kernel
theorem d_jdk_43_m2_3 : decode jdk_43_method_2_code 3 = .ok (.invokestatic 9, 3) := by decide +kernel
theorem pd9 : parseMethodDescriptor "(II)V" = some ⟨[.int, .int], none⟩ := by decide +kernel
theorem d_jdk_43_m2_6 : decode jdk_43_method_2_code 6 = .ok (.aload_n 0, 1) := by decide +kernel
theorem d_jdk_43_m2_7 : decode jdk_43_method_2_code 7 = .ok (.iload_n 1, 1) := by decide +kernel
theorem d_jdk_43_m2_8 : decode jdk_43_method_2_code 8 = .ok (.baload, 1) := by decide +kernel
theorem d_jdk_43_m2_9 : decode jdk_43_method_2_code 9 = .ok (.sipush 255, 3) := by decide +kernel
theorem d_jdk_43_m2_12 : decode jdk_43_method_2_code 12 = .ok (.iand, 1) := by decide +kernel
theorem d_jdk_43_m2_13 : decode jdk_43_method_2_code 13 = .ok (.i2c, 1) := by decide +kernel
theorem d_jdk_43_m2_14 : decode jdk_43_method_2_code 14 = .ok (.ireturn, 1) := by decide +kernel
theorem pn10 : plainName "java/lang/StringLatin1" = true := by first | (simp [plainName, overriddenIn]; done) | decide +kernel
theorem d_jdk_42_m56_0 : decode jdk_42_method_56_code 0 = .ok (.aload_n 0, 1) := by decide +kernel
theorem d_jdk_42_m56_1 : decode jdk_42_method_56_code 1 = .ok (.invokevirtual 492, 3) := by decide +kernel
theorem pd11 : parseMethodDescriptor "()Z" = some ⟨[], some .boolean⟩ := by decide +kernel
theorem d_jdk_42_m56_4 : decode jdk_42_method_56_code 4 = .ok (.ifCond .eq 12, 3) := by decide +kernel
theorem d_jdk_42_m56_7 : decode jdk_42_method_56_code 7 = .ok (.aload_n 0, 1) := by decide +kernel
theorem d_jdk_42_m56_8 : decode jdk_42_method_56_code 8 = .ok (.getfield 9, 3) := by decide +kernel
theorem d_jdk_42_m56_11 : decode jdk_42_method_56_code 11 = .ok (.iload_n 1, 1) := by decide +kernel
theorem d_jdk_42_m56_12 : decode jdk_42_method_56_code 12 = .ok (.invokestatic 495, 3) := by decide +kernel
theorem pd12 : parseMethodDescriptor "([BI)C" = some ⟨[(.array .byte), .int], some .char⟩ := by decide +kernel
theorem d_jdk_42_m56_15 : decode jdk_42_method_56_code 15 = .ok (.ireturn, 1) := by decide +kernel
theorem d_jdk_42_m154_17 : decode jdk_42_method_154_code 17 = .ok (.iconst 0, 1) := by decide +kernel
theorem d_jdk_52_m5_0 : decode jdk_52_method_5_code 0 = .ok (.getstatic 44, 3) := by decide +kernel
theorem d_jdk_52_m5_3 : decode jdk_52_method_5_code 3 = .ok (.ifCond .ne 25, 3) := by decide +kernel
theorem d_jdk_52_m5_28 : decode jdk_52_method_5_code 28 = .ok (.iload_n 1, 1) := by decide +kernel
theorem d_jdk_52_m5_29 : decode jdk_52_method_5_code 29 = .ok (.iconst 1, 1) := by decide +kernel
theorem d_jdk_52_m5_30 : decode jdk_52_method_5_code 30 = .ok (.ishl, 1) := by decide +kernel
theorem d_jdk_52_m5_31 : decode jdk_52_method_5_code 31 = .ok (.istore_n 1, 1) := by decide +kernel
theorem d_jdk_52_m5_32 : decode jdk_52_method_5_code 32 = .ok (.aload_n 0, 1) := by decide +kernel
theorem d_jdk_52_m5_33 : decode jdk_52_method_5_code 33 = .ok (.iload_n 1, 1) := by decide +kernel
theorem d_jdk_52_m5_34 : decode jdk_52_method_5_code 34 = .ok (.iinc 1 1, 3) := by decide +kernel
theorem d_jdk_52_m5_37 : decode jdk_52_method_5_code 37 = .ok (.baload, 1) := by decide +kernel
theorem d_jdk_52_m5_38 : decode jdk_52_method_5_code 38 = .ok (.sipush 255, 3) := by decide +kernel
theorem d_jdk_52_m5_41 : decode jdk_52_method_5_code 41 = .ok (.iand, 1) := by decide +kernel
theorem d_jdk_52_m5_42 : decode jdk_52_method_5_code 42 = .ok (.getstatic 59, 3) := by decide +kernel
theorem d_jdk_52_m5_45 : decode jdk_52_method_5_code 45 = .ok (.ishl, 1) := by decide +kernel
theorem d_jdk_52_m5_46 : decode jdk_52_method_5_code 46 = .ok (.aload_n 0, 1) := by decide +kernel
theorem d_jdk_52_m5_47 : decode jdk_52_method_5_code 47 = .ok (.iload_n 1, 1) := by decide +kernel
theorem d_jdk_52_m5_48 : decode jdk_52_method_5_code 48 = .ok (.baload, 1) := by decide +kernel
theorem d_jdk_52_m5_49 : decode jdk_52_method_5_code 49 = .ok (.sipush 255, 3) := by decide +kernel
theorem d_jdk_52_m5_52 : decode jdk_52_method_5_code 52 = .ok (.iand, 1) := by decide +kernel
theorem d_jdk_52_m5_53 : decode jdk_52_method_5_code 53 = .ok (.getstatic 63, 3) := by decide +kernel
theorem d_jdk_52_m5_56 : decode jdk_52_method_5_code 56 = .ok (.ishl, 1) := by decide +kernel
theorem d_jdk_52_m5_57 : decode jdk_52_method_5_code 57 = .ok (.ior, 1) := by decide +kernel
theorem d_jdk_52_m5_58 : decode jdk_52_method_5_code 58 = .ok (.i2c, 1) := by decide +kernel
theorem d_jdk_52_m5_59 : decode jdk_52_method_5_code 59 = .ok (.ireturn, 1) := by decide +kernel
theorem d_jdk_52_m6_0 : decode jdk_52_method_6_code 0 = .ok (.aload_n 0, 1) := by decide +kernel
theorem d_jdk_52_m6_1 : decode jdk_52_method_6_code 1 = .ok (.arraylength, 1) := by decide +kernel
theorem d_jdk_52_m6_2 : decode jdk_52_method_6_code 2 = .ok (.iconst 1, 1) := by decide +kernel
theorem d_jdk_52_m6_3 : decode jdk_52_method_6_code 3 = .ok (.ishr, 1) := by decide +kernel
theorem d_jdk_52_m6_4 : decode jdk_52_method_6_code 4 = .ok (.ireturn, 1) := by decide +kernel
theorem d_jdk_52_m91_0 : decode jdk_52_method_91_code 0 = .ok (.iload_n 0, 1) := by decide +kernel
theorem d_jdk_52_m91_1 : decode jdk_52_method_91_code 1 = .ok (.aload_n 1, 1) := by decide +kernel
theorem d_jdk_52_m91_2 : decode jdk_52_method_91_code 2 = .ok (.invokestatic 48, 3) := by decide +kernel
theorem pd13 : parseMethodDescriptor "([B)I" = some ⟨[(.array .byte)], some .int⟩ := by decide +kernel
theorem d_jdk_52_m91_5 : decode jdk_52_method_91_code 5 = .ok (.invokestatic 414, 3) := by decide +kernel
theorem d_jdk_52_m91_8 : decode jdk_52_method_91_code 8 = .ok (.return_, 1) := by decide +kernel
theorem d_jdk_52_m83_0 : decode jdk_52_method_83_code 0 = .ok (.iload_n 1, 1) := by decide +kernel
theorem d_jdk_52_m83_1 : decode jdk_52_method_83_code 1 = .ok (.aload_n 0, 1) := by decide +kernel
theorem d_jdk_52_m83_2 : decode jdk_52_method_83_code 2 = .ok (.invokestatic 67, 3) := by decide +kernel
theorem pd14 : parseMethodDescriptor "(I[B)V" = some ⟨[.int, (.array .byte)], none⟩ := by decide +kernel
theorem d_jdk_52_m83_5 : decode jdk_52_method_83_code 5 = .ok (.aload_n 0, 1) := by decide +kernel
theorem d_jdk_52_m83_6 : decode jdk_52_method_83_code 6 = .ok (.iload_n 1, 1) := by decide +kernel
theorem d_jdk_52_m83_7 : decode jdk_52_method_83_code 7 = .ok (.invokestatic 71, 3) := by decide +kernel
theorem d_jdk_52_m83_10 : decode jdk_52_method_83_code 10 = .ok (.ireturn, 1) := by decide +kernel
theorem d_jdk_42_m56_16 : decode jdk_42_method_56_code 16 = .ok (.aload_n 0, 1) := by decide +kernel
theorem d_jdk_42_m56_17 : decode jdk_42_method_56_code 17 = .ok (.getfield 9, 3) := by decide +kernel
theorem d_jdk_42_m56_20 : decode jdk_42_method_56_code 20 = .ok (.iload_n 1, 1) := by decide +kernel
theorem d_jdk_42_m56_21 : decode jdk_42_method_56_code 21 = .ok (.invokestatic 498, 3) := by decide +kernel
theorem d_jdk_42_m56_24 : decode jdk_42_method_56_code 24 = .ok (.ireturn, 1) := by decide +kernel
theorem d_jdk_52_m3_0 : decode jdk_52_method_3_code 0 = .ok (.iload_n 0, 1) := by decide +kernel
theorem d_jdk_52_m3_1 : decode jdk_52_method_3_code 1 = .ok (.ifCond .ge 11, 3) := by decide +kernel
theorem d_jdk_52_m3_12 : decode jdk_52_method_3_code 12 = .ok (.iload_n 0, 1) := by decide +kernel
theorem d_jdk_52_m3_13 : decode jdk_52_method_3_code 13 = .ok (.ldc 20, 2) := by decide +kernel
theorem d_jdk_52_m3_15 : decode jdk_52_method_3_code 15 = .ok (.if_icmp .lt 40, 3) := by decide +kernel
theorem d_jdk_52_m3_55 : decode jdk_52_method_3_code 55 = .ok (.iload_n 0, 1) := by decide +kernel
theorem d_jdk_52_m3_56 : decode jdk_52_method_3_code 56 = .ok (.iconst 1, 1) := by decide +kernel
theorem d_jdk_52_m3_57 : decode jdk_52_method_3_code 57 = .ok (.ishl, 1) := by decide +kernel
theorem d_jdk_52_m3_58 : decode jdk_52_method_3_code 58 = .ok (.ireturn, 1) := by decide +kernel
theorem d_jdk_52_m2_0 : decode jdk_52_method_2_code 0 = .ok (.iload_n 0, 1) := by decide +kernel
theorem d_jdk_52_m2_1 : decode jdk_52_method_2_code 1 = .ok (.invokestatic 11, 3) := by decide +kernel
theorem pd15 : parseMethodDescriptor "(I)I" = some ⟨[.int], some .int⟩ := by decide +kernel
theorem d_jdk_52_m2_4 : decode jdk_52_method_2_code 4 = .ok (.newarray .byte, 2) := by decide +kernel
theorem d_jdk_52_m2_6 : decode jdk_52_method_2_code 6 = .ok (.areturn, 1) := by decide +kernel
theorem d_jdk_52_m4_0 : decode jdk_52_method_4_code 0 = .ok (.getstatic 44, 3) := by decide +kernel
theorem d_jdk_52_m4_3 : decode jdk_52_method_4_code 3 = .ok (.ifCond .ne 25, 3) := by decide +kernel
theorem d_jdk_52_m4_28 : decode jdk_52_method_4_code 28 = .ok (.iload_n 1, 1) := by decide +kernel
theorem d_jdk_52_m4_29 : decode jdk_52_method_4_code 29 = .ok (.iconst 1, 1) := by decide +kernel
theorem d_jdk_52_m4_30 : decode jdk_52_method_4_code 30 = .ok (.ishl, 1) := by decide +kernel
theorem d_jdk_52_m4_31 : decode jdk_52_method_4_code 31 = .ok (.istore_n 1, 1) := by decide +kernel
theorem d_jdk_52_m4_32 : decode jdk_52_method_4_code 32 = .ok (.aload_n 0, 1) := by decide +kernel
theorem d_jdk_52_m4_33 : decode jdk_52_method_4_code 33 = .ok (.iload_n 1, 1) := by decide +kernel
theorem d_jdk_52_m4_34 : decode jdk_52_method_4_code 34 = .ok (.iinc 1 1, 3) := by decide +kernel
theorem d_jdk_52_m4_37 : decode jdk_52_method_4_code 37 = .ok (.iload_n 2, 1) := by decide +kernel
theorem d_jdk_52_m4_38 : decode jdk_52_method_4_code 38 = .ok (.getstatic 59, 3) := by decide +kernel
theorem d_jdk_52_m4_41 : decode jdk_52_method_4_code 41 = .ok (.ishr, 1) := by decide +kernel
theorem d_jdk_52_m4_42 : decode jdk_52_method_4_code 42 = .ok (.i2b, 1) := by decide +kernel
theorem d_jdk_52_m4_43 : decode jdk_52_method_4_code 43 = .ok (.bastore, 1) := by decide +kernel
theorem d_jdk_52_m4_44 : decode jdk_52_method_4_code 44 = .ok (.aload_n 0, 1) := by decide +kernel
theorem d_jdk_52_m4_45 : decode jdk_52_method_4_code 45 = .ok (.iload_n 1, 1) := by decide +kernel
theorem d_jdk_52_m4_46 : decode jdk_52_method_4_code 46 = .ok (.iload_n 2, 1) := by decide +kernel
theorem d_jdk_52_m4_47 : decode jdk_52_method_4_code 47 = .ok (.getstatic 63, 3) := by decide +kernel
theorem d_jdk_52_m4_50 : decode jdk_52_method_4_code 50 = .ok (.ishr, 1) := by decide +kernel
theorem d_jdk_52_m4_51 : decode jdk_52_method_4_code 51 = .ok (.i2b, 1) := by decide +kernel
theorem d_jdk_52_m4_52 : decode jdk_52_method_4_code 52 = .ok (.bastore, 1) := by decide +kernel
theorem d_jdk_52_m4_53 : decode jdk_52_method_4_code 53 = .ok (.return_, 1) := by decide +kernel
theorem d_jdk_52_m14_0 : decode jdk_52_method_14_code 0 = .ok (.iload_n 2, 1) := by decide +kernel
theorem d_jdk_52_m14_1 : decode jdk_52_method_14_code 1 = .ok (.invokestatic 107, 3) := by decide +kernel
theorem pd16 : parseMethodDescriptor "(I)[B" = some ⟨[.int], some (.array .byte)⟩ := by decide +kernel
theorem d_jdk_52_m14_4 : decode jdk_52_method_14_code 4 = .ok (.astore_n 3, 1) := by decide +kernel
theorem d_jdk_52_m14_5 : decode jdk_52_method_14_code 5 = .ok (.iconst 0, 1) := by decide +kernel
theorem d_jdk_52_m14_6 : decode jdk_52_method_14_code 6 = .ok (.istore 4, 2) := by decide +kernel
theorem d_jdk_52_m14_8 : decode jdk_52_method_14_code 8 = .ok (.iload 4, 2) := by decide +kernel
theorem d_jdk_52_m14_10 : decode jdk_52_method_14_code 10 = .ok (.iload_n 2, 1) := by decide +kernel
theorem d_jdk_52_m14_11 : decode jdk_52_method_14_code 11 = .ok (.if_icmp .ge 21, 3) := by decide +kernel
theorem d_jdk_52_m14_32 : decode jdk_52_method_14_code 32 = .ok (.aload_n 3, 1) := by decide +kernel
theorem d_jdk_52_m14_33 : decode jdk_52_method_14_code 33 = .ok (.areturn, 1) := by decide +kernel
theorem d_jdk_52_m14_14 : decode jdk_52_method_14_code 14 = .ok (.aload_n 3, 1) := by decide +kernel
theorem d_jdk_52_m14_15 : decode jdk_52_method_14_code 15 = .ok (.iload 4, 2) := by decide +kernel
theorem d_jdk_52_m14_17 : decode jdk_52_method_14_code 17 = .ok (.aload_n 0, 1) := by decide +kernel
theorem d_jdk_52_m14_18 : decode jdk_52_method_14_code 18 = .ok (.iload_n 1, 1) := by decide +kernel
theorem d_jdk_52_m14_19 : decode jdk_52_method_14_code 19 = .ok (.caload, 1) := by decide +kernel
theorem d_jdk_52_m14_20 : decode jdk_52_method_14_code 20 = .ok (.invokestatic 111, 3) := by decide +kernel
theorem pd17 : parseMethodDescriptor "([BII)V" = some ⟨[(.array .byte), .int, .int], none⟩ := by decide +kernel
theorem d_jdk_52_m14_23 : decode jdk_52_method_14_code 23 = .ok (.iinc 1 1, 3) := by decide +kernel
theorem d_jdk_52_m14_26 : decode jdk_52_method_14_code 26 = .ok (.iinc 4 1, 3) := by decide +kernel
theorem d_jdk_52_m14_29 : decode jdk_52_method_14_code 29 = .ok (.goto (-21), 3) := by decide +kernel
theorem d_jdk_52_m21_23 : decode jdk_52_method_21_code 23 = .ok (.iload 5, 2) := by decide +kernel
theorem d_jdk_52_m21_25 : decode jdk_52_method_21_code 25 = .ok (.ireturn, 1) := by decide +kernel
theorem d_jdk_52_m16_20 : decode jdk_52_method_16_code 20 = .ok (.aload_n 0, 1) := by decide +kernel
theorem d_jdk_52_m16_21 : decode jdk_52_method_16_code 21 = .ok (.iload_n 1, 1) := by decide +kernel
theorem d_jdk_52_m16_22 : decode jdk_52_method_16_code 22 = .ok (.iload_n 2, 1) := by decide +kernel
theorem d_jdk_52_m16_23 : decode jdk_52_method_16_code 23 = .ok (.invokestatic 119, 3) := by decide +kernel
theorem d_jdk_52_m16_26 : decode jdk_52_method_16_code 26 = .ok (.astore 5, 2) := by decide +kernel
theorem d_jdk_52_m16_28 : decode jdk_52_method_16_code 28 = .ok (.aload 5, 2) := by decide +kernel
theorem d_jdk_52_m16_30 : decode jdk_52_method_16_code 30 = .ok (.iload 4, 2) := by decide +kernel
theorem d_jdk_52_m16_32 : decode jdk_52_method_16_code 32 = .ok (.invokestatic 71, 3) := by decide +kernel
theorem d_jdk_52_m16_35 : decode jdk_52_method_16_code 35 = .ok (.sipush 255, 3) := by decide +kernel
theorem d_jdk_52_m16_38 : decode jdk_52_method_16_code 38 = .ok (.if_icmp .gt 16, 3) := by decide +kernel
theorem d_jdk_52_m16_54 : decode jdk_52_method_16_code 54 = .ok (.aload 5, 2) := by decide +kernel
theorem d_jdk_52_m16_56 : decode jdk_52_method_16_code 56 = .ok (.areturn, 1) := by decide +kernel
theorem d_jdk_48_m14_0 : decode jdk_48_method_14_code 0 = .ok (.iconst 0, 1) := by decide +kernel
theorem d_jdk_48_m14_1 : decode jdk_48_method_14_code 1 = .ok (.istore 5, 2) := by decide +kernel
theorem d_jdk_48_m14_3 : decode jdk_48_method_14_code 3 = .ok (.iload 4, 2) := by decide +kernel
theorem d_jdk_48_m14_5 : decode jdk_48_method_14_code 5 = .ok (.bipush 7, 2) := by decide +kernel
theorem d_jdk_48_m14_7 : decode jdk_48_method_14_code 7 = .ok (.if_icmp .le 63, 3) := by decide +kernel
theorem d_jdk_48_m14_70 : decode jdk_48_method_14_code 70 = .ok (.iload 5, 2) := by decide +kernel
theorem d_jdk_48_m14_72 : decode jdk_48_method_14_code 72 = .ok (.iload 4, 2) := by decide +kernel
theorem d_jdk_48_m14_74 : decode jdk_48_method_14_code 74 = .ok (.if_icmp .ge 27, 3) := by decide +kernel
theorem d_jdk_48_m14_77 : decode jdk_48_method_14_code 77 = .ok (.aload_n 0, 1) := by decide +kernel
theorem d_jdk_48_m14_78 : decode jdk_48_method_14_code 78 = .ok (.iload_n 1, 1) := by decide +kernel
theorem d_jdk_48_m14_79 : decode jdk_48_method_14_code 79 = .ok (.iload 5, 2) := by decide +kernel
theorem d_jdk_48_m14_81 : decode jdk_48_method_14_code 81 = .ok (.iadd, 1) := by decide +kernel
theorem d_jdk_48_m14_82 : decode jdk_48_method_14_code 82 = .ok (.baload, 1) := by decide +kernel
theorem d_jdk_48_m14_83 : decode jdk_48_method_14_code 83 = .ok (.aload_n 2, 1) := by decide +kernel
theorem d_jdk_48_m14_84 : decode jdk_48_method_14_code 84 = .ok (.iload_n 3, 1) := by decide +kernel
theorem d_jdk_48_m14_85 : decode jdk_48_method_14_code 85 = .ok (.iload 5, 2) := by decide +kernel
theorem d_jdk_48_m14_87 : decode jdk_48_method_14_code 87 = .ok (.iadd, 1) := by decide +kernel
theorem d_jdk_48_m14_88 : decode jdk_48_method_14_code 88 = .ok (.baload, 1) := by decide +kernel
theorem d_jdk_48_m14_89 : decode jdk_48_method_14_code 89 = .ok (.if_icmp .eq 6, 3) := by decide +kernel
theorem d_jdk_48_m14_95 : decode jdk_48_method_14_code 95 = .ok (.iinc 5 1, 3) := by decide +kernel
theorem d_jdk_48_m14_98 : decode jdk_48_method_14_code 98 = .ok (.goto (-28), 3) := by decide +kernel
theorem d_jdk_48_m14_101 : decode jdk_48_method_14_code 101 = .ok (.iconst (-1), 1) := by decide +kernel
theorem d_jdk_48_m14_102 : decode jdk_48_method_14_code 102 = .ok (.ireturn, 1) := by decide +kernel
theorem d_jdk_48_m14_92 : decode jdk_48_method_14_code 92 = .ok (.iload 5, 2) := by decide +kernel
theorem d_jdk_48_m14_94 : decode jdk_48_method_14_code 94 = .ok (.ireturn, 1) := by decide +kernel
theorem pn18 : plainName "jdk/internal/util/ArraysSupport" = true := by first | (simp [plainName, overriddenIn]; done) | decide +kernel
theorem d_jdk_42_m75_0 : decode jdk_42_method_75_code 0 = .ok (.iload_n 2, 1) := by decide +kernel
theorem d_jdk_42_m75_1 : decode jdk_42_method_75_code 1 = .ok (.ifCond .lt 16, 3) := by decide +kernel
theorem d_jdk_42_m75_4 : decode jdk_42_method_75_code 4 = .ok (.iload_n 2, 1) := by decide +kernel
theorem d_jdk_42_m75_5 : decode jdk_42_method_75_code 5 = .ok (.aload_n 0, 1) := by decide +kernel
theorem d_jdk_42_m75_6 : decode jdk_42_method_75_code 6 = .ok (.invokevirtual 505, 3) := by decide +kernel
theorem pd19 : parseMethodDescriptor "()I" = some ⟨[], some .int⟩ := by decide +kernel
theorem d_jdk_42_m75_9 : decode jdk_42_method_75_code 9 = .ok (.aload_n 1, 1) := by decide +kernel
theorem d_jdk_42_m75_10 : decode jdk_42_method_75_code 10 = .ok (.invokevirtual 505, 3) := by decide +kernel
theorem d_jdk_42_m75_13 : decode jdk_42_method_75_code 13 = .ok (.isub, 1) := by decide +kernel
theorem d_jdk_42_m75_14 : decode jdk_42_method_75_code 14 = .ok (.if_icmp .le 5, 3) := by decide +kernel
theorem d_jdk_42_m75_17 : decode jdk_42_method_75_code 17 = .ok (.iconst 0, 1) := by decide +kernel
theorem d_jdk_42_m75_18 : decode jdk_42_method_75_code 18 = .ok (.ireturn, 1) := by decide +kernel
theorem d_jdk_42_m75_19 : decode jdk_42_method_75_code 19 = .ok (.aload_n 0, 1) := by decide +kernel
theorem d_jdk_42_m75_20 : decode jdk_42_method_75_code 20 = .ok (.getfield 9, 3) := by decide +kernel
theorem d_jdk_42_m75_23 : decode jdk_42_method_75_code 23 = .ok (.astore_n 3, 1) := by decide +kernel
theorem d_jdk_42_m75_24 : decode jdk_42_method_75_code 24 = .ok (.aload_n 1, 1) := by decide +kernel
theorem d_jdk_42_m75_25 : decode jdk_42_method_75_code 25 = .ok (.getfield 9, 3) := by decide +kernel
theorem d_jdk_42_m75_28 : decode jdk_42_method_75_code 28 = .ok (.astore 4, 2) := by decide +kernel
theorem d_jdk_42_m75_30 : decode jdk_42_method_75_code 30 = .ok (.iconst 0, 1) := by decide +kernel
theorem d_jdk_42_m75_31 : decode jdk_42_method_75_code 31 = .ok (.istore 5, 2) := by decide +kernel
theorem d_jdk_42_m75_33 : decode jdk_42_method_75_code 33 = .ok (.aload 4, 2) := by decide +kernel
theorem d_jdk_42_m75_35 : decode jdk_42_method_75_code 35 = .ok (.arraylength, 1) := by decide +kernel
theorem d_jdk_42_m75_36 : decode jdk_42_method_75_code 36 = .ok (.istore 6, 2) := by decide +kernel
theorem d_jdk_42_m75_38 : decode jdk_42_method_75_code 38 = .ok (.aload_n 0, 1) := by decide +kernel
theorem d_jdk_42_m75_39 : decode jdk_42_method_75_code 39 = .ok (.invokevirtual 335, 3) := by decide +kernel
theorem d_jdk_42_m75_42 : decode jdk_42_method_75_code 42 = .ok (.istore 7, 2) := by decide +kernel
theorem d_jdk_42_m75_44 : decode jdk_42_method_75_code 44 = .ok (.iload 7, 2) := by decide +kernel
theorem d_jdk_42_m75_46 : decode jdk_42_method_75_code 46 = .ok (.aload_n 1, 1) := by decide +kernel
theorem d_jdk_42_m75_47 : decode jdk_42_method_75_code 47 = .ok (.invokevirtual 335, 3) := by decide +kernel
theorem d_jdk_42_m75_50 : decode jdk_42_method_75_code 50 = .ok (.if_icmp .ne 32, 3) := by decide +kernel
theorem d_jdk_42_m75_53 : decode jdk_42_method_75_code 53 = .ok (.iload 7, 2) := by decide +kernel
theorem d_jdk_42_m75_55 : decode jdk_42_method_75_code 55 = .ok (.iconst 1, 1) := by decide +kernel
theorem d_jdk_42_m75_56 : decode jdk_42_method_75_code 56 = .ok (.if_icmp .ne 7, 3) := by decide +kernel
theorem d_jdk_42_m75_63 : decode jdk_42_method_75_code 63 = .ok (.aload_n 3, 1) := by decide +kernel
theorem d_jdk_42_m75_64 : decode jdk_42_method_75_code 64 = .ok (.iload_n 2, 1) := by decide +kernel
theorem d_jdk_42_m75_65 : decode jdk_42_method_75_code 65 = .ok (.aload 4, 2) := by decide +kernel
theorem d_jdk_42_m75_67 : decode jdk_42_method_75_code 67 = .ok (.iconst 0, 1) := by decide +kernel
theorem d_jdk_42_m75_68 : decode jdk_42_method_75_code 68 = .ok (.iload 6, 2) := by decide +kernel
theorem d_jdk_42_m75_70 : decode jdk_42_method_75_code 70 = .ok (.invokestatic 607, 3) := by decide +kernel
theorem pd20 : parseMethodDescriptor "([BI[BII)I" = some ⟨[(.array .byte), .int, (.array .byte), .int, .int], some .int⟩ := by decide +kernel
theorem d_jdk_42_m75_73 : decode jdk_42_method_75_code 73 = .ok (.ifCond .ge 7, 3) := by decide +kernel
theorem d_jdk_42_m75_76 : decode jdk_42_method_75_code 76 = .ok (.iconst 1, 1) := by decide +kernel
theorem d_jdk_42_m75_77 : decode jdk_42_method_75_code 77 = .ok (.goto 4, 3) := by decide +kernel
theorem d_jdk_42_m75_81 : decode jdk_42_method_75_code 81 = .ok (.ireturn, 1) := by decide +kernel
theorem d_jdk_42_m75_80 : decode jdk_42_method_75_code 80 = .ok (.iconst 0, 1) := by decide +kernel
theorem d_jdk_42_m75_82 : decode jdk_42_method_75_code 82 = .ok (.iload 7, 2) := by decide +kernel
theorem d_jdk_42_m75_84 : decode jdk_42_method_75_code 84 = .ok (.ifCond .ne 5, 3) := by decide +kernel
theorem d_jdk_42_m75_89 : decode jdk_42_method_75_code 89 = .ok (.iload 5, 2) := by decide +kernel
theorem d_jdk_42_m75_91 : decode jdk_42_method_75_code 91 = .ok (.iload 6, 2) := by decide +kernel
theorem d_jdk_42_m75_93 : decode jdk_42_method_75_code 93 = .ok (.if_icmp .ge 28, 3) := by decide +kernel
theorem d_jdk_42_m75_96 : decode jdk_42_method_75_code 96 = .ok (.aload_n 3, 1) := by decide +kernel
theorem d_jdk_42_m75_97 : decode jdk_42_method_75_code 97 = .ok (.iload_n 2, 1) := by decide +kernel
theorem d_jdk_42_m75_98 : decode jdk_42_method_75_code 98 = .ok (.iinc 2 1, 3) := by decide +kernel
theorem d_jdk_42_m75_101 : decode jdk_42_method_75_code 101 = .ok (.invokestatic 360, 3) := by decide +kernel
theorem d_jdk_42_m75_104 : decode jdk_42_method_75_code 104 = .ok (.aload 4, 2) := by decide +kernel
theorem d_jdk_42_m75_106 : decode jdk_42_method_75_code 106 = .ok (.iload 5, 2) := by decide +kernel
theorem d_jdk_42_m75_108 : decode jdk_42_method_75_code 108 = .ok (.iinc 5 1, 3) := by decide +kernel
theorem d_jdk_42_m75_111 : decode jdk_42_method_75_code 111 = .ok (.baload, 1) := by decide +kernel
theorem d_jdk_42_m75_112 : decode jdk_42_method_75_code 112 = .ok (.sipush 255, 3) := by decide +kernel
theorem d_jdk_42_m75_115 : decode jdk_42_method_75_code 115 = .ok (.iand, 1) := by decide +kernel
theorem d_jdk_42_m75_116 : decode jdk_42_method_75_code 116 = .ok (.if_icmp .eq (-27), 3) := by decide +kernel
theorem d_jdk_42_m75_121 : decode jdk_42_method_75_code 121 = .ok (.iconst 1, 1) := by decide +kernel
theorem d_jdk_42_m75_122 : decode jdk_42_method_75_code 122 = .ok (.ireturn, 1) := by decide +kernel
theorem d_jdk_42_m75_119 : decode jdk_42_method_75_code 119 = .ok (.iconst 0, 1) := by decide +kernel
theorem d_jdk_42_m75_120 : decode jdk_42_method_75_code 120 = .ok (.ireturn, 1) := by decide +kernel
theorem d_jdk_42_m76_0 : decode jdk_42_method_76_code 0 = .ok (.aload_n 0, 1) := by decide +kernel
theorem d_jdk_42_m76_1 : decode jdk_42_method_76_code 1 = .ok (.aload_n 1, 1) := by decide +kernel
theorem d_jdk_42_m76_2 : decode jdk_42_method_76_code 2 = .ok (.iconst 0, 1) := by decide +kernel
theorem d_jdk_42_m76_3 : decode jdk_42_method_76_code 3 = .ok (.invokevirtual 624, 3) := by decide +kernel
theorem pd21 : parseMethodDescriptor "(Ljava/lang/String;I)Z" = some ⟨[(.object "java/lang/String"), .int], some .boolean⟩ := by decide +kernel
theorem d_jdk_42_m76_6 : decode jdk_42_method_76_code 6 = .ok (.ireturn, 1) := by decide +kernel
theorem d_m3_0 : decode method_3_code 0 = .ok (.iload_n 0, 1) := by decide +kernel
theorem d_m3_1 : decode method_3_code 1 = .ok (.bipush 48, 2) := by decide +kernel
theorem d_m3_3 : decode method_3_code 3 = .ok (.if_icmp .lt 13, 3) := by decide +kernel
theorem d_m3_16 : decode method_3_code 16 = .ok (.iconst 0, 1) := by decide +kernel
theorem d_m3_17 : decode method_3_code 17 = .ok (.ireturn, 1) := by decide +kernel
theorem d_m3_6 : decode method_3_code 6 = .ok (.iload_n 0, 1) := by decide +kernel
theorem d_m3_7 : decode method_3_code 7 = .ok (.bipush 57, 2) := by decide +kernel
theorem d_m3_9 : decode method_3_code 9 = .ok (.if_icmp .gt 7, 3) := by decide +kernel
theorem d_m3_12 : decode method_3_code 12 = .ok (.iconst 1, 1) := by decide +kernel
theorem d_m3_13 : decode method_3_code 13 = .ok (.goto 4, 3) := by decide +kernel
theorem pn22 : plainName "com/example/compendio/compendio/io/TermFileIsDecimalPinLaw" = true := by first | (simp [plainName, overriddenIn]; done) | decide +kernel
theorem d_m4_0 : decode method_4_code 0 = .ok (.iload_n 3, 1) := by decide +kernel
theorem d_m4_1 : decode method_4_code 1 = .ok (.iload_n 2, 1) := by decide +kernel
theorem d_m4_2 : decode method_4_code 2 = .ok (.if_icmp .lt 25, 3) := by decide +kernel
theorem d_m4_27 : decode method_4_code 27 = .ok (.iconst 1, 1) := by decide +kernel
theorem d_m4_28 : decode method_4_code 28 = .ok (.goto 4, 3) := by decide +kernel
theorem d_m4_32 : decode method_4_code 32 = .ok (.ireturn, 1) := by decide +kernel
theorem d_m4_5 : decode method_4_code 5 = .ok (.iload_n 3, 1) := by decide +kernel
theorem d_m4_6 : decode method_4_code 6 = .ok (.iload_n 1, 1) := by decide +kernel
theorem d_m4_7 : decode method_4_code 7 = .ok (.if_icmp .ge 20, 3) := by decide +kernel
theorem d_m4_10 : decode method_4_code 10 = .ok (.aload_n 0, 1) := by decide +kernel
theorem d_m4_11 : decode method_4_code 11 = .ok (.iload_n 3, 1) := by decide +kernel
theorem d_m4_12 : decode method_4_code 12 = .ok (.caload, 1) := by decide +kernel
theorem d_m4_13 : decode method_4_code 13 = .ok (.invokestatic 26, 3) := by decide +kernel
theorem pd23 : parseMethodDescriptor "(C)Z" = some ⟨[.char], some .boolean⟩ := by decide +kernel
theorem d_m4_16 : decode method_4_code 16 = .ok (.ifCond .ne 11, 3) := by decide +kernel
theorem d_m4_19 : decode method_4_code 19 = .ok (.aload_n 0, 1) := by decide +kernel
theorem d_m4_20 : decode method_4_code 20 = .ok (.iload_n 3, 1) := by decide +kernel
theorem d_m4_21 : decode method_4_code 21 = .ok (.caload, 1) := by decide +kernel
theorem d_m4_22 : decode method_4_code 22 = .ok (.bipush 46, 2) := by decide +kernel
theorem d_m4_24 : decode method_4_code 24 = .ok (.if_icmp .ne 7, 3) := by decide +kernel
theorem d_m4_31 : decode method_4_code 31 = .ok (.iconst 0, 1) := by decide +kernel
theorem d_m5_0 : decode method_5_code 0 = .ok (.iload_n 3, 1) := by decide +kernel
theorem d_m5_1 : decode method_5_code 1 = .ok (.iload_n 2, 1) := by decide +kernel
theorem d_m5_2 : decode method_5_code 2 = .ok (.if_icmp .lt 20, 3) := by decide +kernel
theorem d_m5_22 : decode method_5_code 22 = .ok (.iconst 0, 1) := by decide +kernel
theorem d_m5_23 : decode method_5_code 23 = .ok (.ireturn, 1) := by decide +kernel
theorem d_m5_5 : decode method_5_code 5 = .ok (.iload_n 3, 1) := by decide +kernel
theorem d_m5_6 : decode method_5_code 6 = .ok (.iload_n 1, 1) := by decide +kernel
theorem d_m5_7 : decode method_5_code 7 = .ok (.if_icmp .ge 15, 3) := by decide +kernel
theorem d_m5_10 : decode method_5_code 10 = .ok (.aload_n 0, 1) := by decide +kernel
theorem d_m5_11 : decode method_5_code 11 = .ok (.iload_n 3, 1) := by decide +kernel
theorem d_m5_12 : decode method_5_code 12 = .ok (.caload, 1) := by decide +kernel
theorem d_m5_13 : decode method_5_code 13 = .ok (.bipush 46, 2) := by decide +kernel
theorem d_m5_15 : decode method_5_code 15 = .ok (.if_icmp .ne 7, 3) := by decide +kernel
theorem d_m5_18 : decode method_5_code 18 = .ok (.iconst 1, 1) := by decide +kernel
theorem d_m5_19 : decode method_5_code 19 = .ok (.goto 4, 3) := by decide +kernel
theorem d_m6_92 : decode method_6_code 92 = .ok (.aload_n 0, 1) := by decide +kernel
theorem d_m6_93 : decode method_6_code 93 = .ok (.iload_n 1, 1) := by decide +kernel
theorem d_m6_94 : decode method_6_code 94 = .ok (.iload_n 2, 1) := by decide +kernel
theorem d_m6_95 : decode method_6_code 95 = .ok (.iconst 0, 1) := by decide +kernel
theorem d_m6_96 : decode method_6_code 96 = .ok (.invokestatic 34, 3) := by decide +kernel
theorem pd24 : parseMethodDescriptor "([CIII)I" = some ⟨[(.array .char), .int, .int, .int], some .int⟩ := by decide +kernel
theorem d_m6_99 : decode method_6_code 99 = .ok (.aload_n 0, 1) := by decide +kernel
theorem d_m6_100 : decode method_6_code 100 = .ok (.iload_n 1, 1) := by decide +kernel
theorem d_m6_101 : decode method_6_code 101 = .ok (.iload_n 2, 1) := by decide +kernel
theorem d_m6_102 : decode method_6_code 102 = .ok (.iconst 1, 1) := by decide +kernel
theorem d_m6_103 : decode method_6_code 103 = .ok (.invokestatic 34, 3) := by decide +kernel
theorem d_m6_106 : decode method_6_code 106 = .ok (.iadd, 1) := by decide +kernel
theorem d_m6_107 : decode method_6_code 107 = .ok (.aload_n 0, 1) := by decide +kernel
theorem d_m6_108 : decode method_6_code 108 = .ok (.iload_n 1, 1) := by decide +kernel
theorem d_m6_109 : decode method_6_code 109 = .ok (.iload_n 2, 1) := by decide +kernel
theorem d_m6_110 : decode method_6_code 110 = .ok (.iconst 2, 1) := by decide +kernel
theorem d_m6_111 : decode method_6_code 111 = .ok (.invokestatic 34, 3) := by decide +kernel
theorem d_m6_114 : decode method_6_code 114 = .ok (.iadd, 1) := by decide +kernel
theorem d_m6_115 : decode method_6_code 115 = .ok (.aload_n 0, 1) := by decide +kernel
theorem d_m6_116 : decode method_6_code 116 = .ok (.iload_n 1, 1) := by decide +kernel
theorem d_m6_117 : decode method_6_code 117 = .ok (.iload_n 2, 1) := by decide +kernel
theorem d_m6_118 : decode method_6_code 118 = .ok (.iconst 3, 1) := by decide +kernel
theorem d_m6_119 : decode method_6_code 119 = .ok (.invokestatic 34, 3) := by decide +kernel
theorem d_m6_122 : decode method_6_code 122 = .ok (.iadd, 1) := by decide +kernel
theorem d_m6_123 : decode method_6_code 123 = .ok (.aload_n 0, 1) := by decide +kernel
theorem d_m6_124 : decode method_6_code 124 = .ok (.iload_n 1, 1) := by decide +kernel
theorem d_m6_125 : decode method_6_code 125 = .ok (.iload_n 2, 1) := by decide +kernel
theorem d_m6_126 : decode method_6_code 126 = .ok (.iconst 4, 1) := by decide +kernel
theorem d_m6_127 : decode method_6_code 127 = .ok (.invokestatic 34, 3) := by decide +kernel
theorem d_m6_130 : decode method_6_code 130 = .ok (.iadd, 1) := by decide +kernel
theorem d_m6_131 : decode method_6_code 131 = .ok (.aload_n 0, 1) := by decide +kernel
theorem d_m6_132 : decode method_6_code 132 = .ok (.iload_n 1, 1) := by decide +kernel
theorem d_m6_133 : decode method_6_code 133 = .ok (.iload_n 2, 1) := by decide +kernel
theorem d_m6_134 : decode method_6_code 134 = .ok (.iconst 5, 1) := by decide +kernel
theorem d_m6_135 : decode method_6_code 135 = .ok (.invokestatic 34, 3) := by decide +kernel
theorem d_m6_138 : decode method_6_code 138 = .ok (.iadd, 1) := by decide +kernel
theorem d_m6_139 : decode method_6_code 139 = .ok (.istore 4, 2) := by decide +kernel
theorem d_m6_141 : decode method_6_code 141 = .ok (.iload_n 3, 1) := by decide +kernel
theorem d_m6_142 : decode method_6_code 142 = .ok (.ifCond .eq 33, 3) := by decide +kernel
theorem d_m6_175 : decode method_6_code 175 = .ok (.iconst 0, 1) := by decide +kernel
theorem d_m6_176 : decode method_6_code 176 = .ok (.ireturn, 1) := by decide +kernel
theorem d_m6_145 : decode method_6_code 145 = .ok (.iload 4, 2) := by decide +kernel
theorem d_m6_147 : decode method_6_code 147 = .ok (.iconst 1, 1) := by decide +kernel
theorem d_m6_148 : decode method_6_code 148 = .ok (.if_icmp .gt 27, 3) := by decide +kernel
theorem d_m6_151 : decode method_6_code 151 = .ok (.aload_n 0, 1) := by decide +kernel
theorem d_m6_152 : decode method_6_code 152 = .ok (.iload_n 2, 1) := by decide +kernel
theorem d_m6_153 : decode method_6_code 153 = .ok (.caload, 1) := by decide +kernel
theorem d_m6_154 : decode method_6_code 154 = .ok (.invokestatic 26, 3) := by decide +kernel
theorem d_m6_157 : decode method_6_code 157 = .ok (.ifCond .eq 18, 3) := by decide +kernel
theorem d_m6_160 : decode method_6_code 160 = .ok (.aload_n 0, 1) := by decide +kernel
theorem d_m6_161 : decode method_6_code 161 = .ok (.iload_n 1, 1) := by decide +kernel
theorem d_m6_162 : decode method_6_code 162 = .ok (.iconst 1, 1) := by decide +kernel
theorem d_m6_163 : decode method_6_code 163 = .ok (.isub, 1) := by decide +kernel
theorem d_m6_164 : decode method_6_code 164 = .ok (.caload, 1) := by decide +kernel
theorem d_m6_165 : decode method_6_code 165 = .ok (.invokestatic 26, 3) := by decide +kernel
theorem d_m6_168 : decode method_6_code 168 = .ok (.ifCond .eq 7, 3) := by decide +kernel
theorem d_m6_171 : decode method_6_code 171 = .ok (.iconst 1, 1) := by decide +kernel
theorem d_m6_172 : decode method_6_code 172 = .ok (.goto 4, 3) := by decide +kernel
theorem d_m6_18 : decode method_6_code 18 = .ok (.iload_n 1, 1) := by decide +kernel
theorem d_m6_19 : decode method_6_code 19 = .ok (.iload_n 2, 1) := by decide +kernel
theorem d_m6_20 : decode method_6_code 20 = .ok (.isub, 1) := by decide +kernel
theorem d_m6_21 : decode method_6_code 21 = .ok (.ifCond .gt 5, 3) := by decide +kernel
theorem d_m6_26 : decode method_6_code 26 = .ok (.aload_n 0, 1) := by decide +kernel
theorem d_m6_27 : decode method_6_code 27 = .ok (.iload_n 1, 1) := by decide +kernel
theorem d_m6_28 : decode method_6_code 28 = .ok (.iload_n 2, 1) := by decide +kernel
theorem d_m6_29 : decode method_6_code 29 = .ok (.iconst 0, 1) := by decide +kernel
theorem d_m6_30 : decode method_6_code 30 = .ok (.invokestatic 30, 3) := by decide +kernel
theorem pd25 : parseMethodDescriptor "([CIII)Z" = some ⟨[(.array .char), .int, .int, .int], some .boolean⟩ := by decide +kernel
theorem d_m6_33 : decode method_6_code 33 = .ok (.ifCond .eq 57, 3) := by decide +kernel
theorem d_m6_90 : decode method_6_code 90 = .ok (.iconst 0, 1) := by decide +kernel
theorem d_m6_91 : decode method_6_code 91 = .ok (.istore_n 3, 1) := by decide +kernel
theorem d_m6_36 : decode method_6_code 36 = .ok (.aload_n 0, 1) := by decide +kernel
theorem d_m6_37 : decode method_6_code 37 = .ok (.iload_n 1, 1) := by decide +kernel
theorem d_m6_38 : decode method_6_code 38 = .ok (.iload_n 2, 1) := by decide +kernel
theorem d_m6_39 : decode method_6_code 39 = .ok (.iconst 1, 1) := by decide +kernel
theorem d_m6_40 : decode method_6_code 40 = .ok (.invokestatic 30, 3) := by decide +kernel
theorem d_m6_43 : decode method_6_code 43 = .ok (.ifCond .eq 47, 3) := by decide +kernel
theorem d_m6_46 : decode method_6_code 46 = .ok (.aload_n 0, 1) := by decide +kernel
theorem d_m6_47 : decode method_6_code 47 = .ok (.iload_n 1, 1) := by decide +kernel
theorem d_m6_48 : decode method_6_code 48 = .ok (.iload_n 2, 1) := by decide +kernel
theorem d_m6_49 : decode method_6_code 49 = .ok (.iconst 2, 1) := by decide +kernel
theorem d_m6_50 : decode method_6_code 50 = .ok (.invokestatic 30, 3) := by decide +kernel
theorem d_m6_53 : decode method_6_code 53 = .ok (.ifCond .eq 37, 3) := by decide +kernel
theorem d_m6_56 : decode method_6_code 56 = .ok (.aload_n 0, 1) := by decide +kernel
theorem d_m6_57 : decode method_6_code 57 = .ok (.iload_n 1, 1) := by decide +kernel
theorem d_m6_58 : decode method_6_code 58 = .ok (.iload_n 2, 1) := by decide +kernel
theorem d_m6_59 : decode method_6_code 59 = .ok (.iconst 3, 1) := by decide +kernel
theorem d_m6_60 : decode method_6_code 60 = .ok (.invokestatic 30, 3) := by decide +kernel
theorem d_m6_63 : decode method_6_code 63 = .ok (.ifCond .eq 27, 3) := by decide +kernel
theorem d_m6_66 : decode method_6_code 66 = .ok (.aload_n 0, 1) := by decide +kernel
theorem d_m6_67 : decode method_6_code 67 = .ok (.iload_n 1, 1) := by decide +kernel
theorem d_m6_68 : decode method_6_code 68 = .ok (.iload_n 2, 1) := by decide +kernel
theorem d_m6_69 : decode method_6_code 69 = .ok (.iconst 4, 1) := by decide +kernel
theorem d_m6_70 : decode method_6_code 70 = .ok (.invokestatic 30, 3) := by decide +kernel
theorem d_m6_73 : decode method_6_code 73 = .ok (.ifCond .eq 17, 3) := by decide +kernel
theorem d_m6_76 : decode method_6_code 76 = .ok (.aload_n 0, 1) := by decide +kernel
theorem d_m6_77 : decode method_6_code 77 = .ok (.iload_n 1, 1) := by decide +kernel
theorem d_m6_78 : decode method_6_code 78 = .ok (.iload_n 2, 1) := by decide +kernel
theorem d_m6_79 : decode method_6_code 79 = .ok (.iconst 5, 1) := by decide +kernel
theorem d_m6_80 : decode method_6_code 80 = .ok (.invokestatic 30, 3) := by decide +kernel
theorem d_m6_83 : decode method_6_code 83 = .ok (.ifCond .eq 7, 3) := by decide +kernel
theorem d_m6_86 : decode method_6_code 86 = .ok (.iconst 1, 1) := by decide +kernel
theorem d_m6_87 : decode method_6_code 87 = .ok (.goto 4, 3) := by decide +kernel
theorem d_m6_24 : decode method_6_code 24 = .ok (.iconst 0, 1) := by decide +kernel
theorem d_m6_25 : decode method_6_code 25 = .ok (.ireturn, 1) := by decide +kernel
theorem d_m6_0 : decode method_6_code 0 = .ok (.iload_n 1, 1) := by decide +kernel
theorem d_m6_1 : decode method_6_code 1 = .ok (.ifCond .le 15, 3) := by decide +kernel
theorem d_m6_4 : decode method_6_code 4 = .ok (.aload_n 0, 1) := by decide +kernel
theorem d_m6_5 : decode method_6_code 5 = .ok (.iconst 0, 1) := by decide +kernel
theorem d_m6_6 : decode method_6_code 6 = .ok (.caload, 1) := by decide +kernel
theorem d_m6_7 : decode method_6_code 7 = .ok (.bipush 45, 2) := by decide +kernel
theorem d_m6_9 : decode method_6_code 9 = .ok (.if_icmp .ne 7, 3) := by decide +kernel
theorem d_m6_12 : decode method_6_code 12 = .ok (.iconst 1, 1) := by decide +kernel
theorem d_m6_13 : decode method_6_code 13 = .ok (.goto 4, 3) := by decide +kernel
theorem d_m6_17 : decode method_6_code 17 = .ok (.istore_n 2, 1) := by decide +kernel
theorem d_m6_16 : decode method_6_code 16 = .ok (.iconst 0, 1) := by decide +kernel
theorem d_prog_55_m34_0 : decode prog_55_method_34_code 0 = .ok (.aload_n 0, 1) := by decide +kernel
theorem d_prog_55_m34_1 : decode prog_55_method_34_code 1 = .ok (.ldc_w 376, 3) := by decide +kernel
theorem d_prog_55_m34_4 : decode prog_55_method_34_code 4 = .ok (.invokevirtual 378, 3) := by decide +kernel
theorem pd26 : parseMethodDescriptor "(Ljava/lang/String;)Z" = some ⟨[(.object "java/lang/String")], some .boolean⟩ := by decide +kernel
theorem d_prog_55_m34_20 : decode prog_55_method_34_code 20 = .ok (.iload_n 1, 1) := by decide +kernel
theorem d_prog_55_m34_21 : decode prog_55_method_34_code 21 = .ok (.aload_n 0, 1) := by decide +kernel
theorem d_prog_55_m34_22 : decode prog_55_method_34_code 22 = .ok (.invokevirtual 397, 3) := by decide +kernel
theorem d_prog_55_m34_25 : decode prog_55_method_34_code 25 = .ok (.if_icmp .ge 60, 3) := by decide +kernel
theorem d_prog_55_m34_85 : decode prog_55_method_34_code 85 = .ok (.iload_n 2, 1) := by decide +kernel
theorem d_prog_55_m34_86 : decode prog_55_method_34_code 86 = .ok (.ifCond .le 7, 3) := by decide +kernel
theorem d_prog_55_m34_89 : decode prog_55_method_34_code 89 = .ok (.iconst 1, 1) := by decide +kernel
theorem d_prog_55_m34_90 : decode prog_55_method_34_code 90 = .ok (.goto 4, 3) := by decide +kernel
theorem d_prog_55_m34_94 : decode prog_55_method_34_code 94 = .ok (.ireturn, 1) := by decide +kernel
theorem d_prog_55_m34_93 : decode prog_55_method_34_code 93 = .ok (.iconst 0, 1) := by decide +kernel
theorem d_prog_55_m34_28 : decode prog_55_method_34_code 28 = .ok (.aload_n 0, 1) := by decide +kernel
theorem d_prog_55_m34_29 : decode prog_55_method_34_code 29 = .ok (.iload_n 1, 1) := by decide +kernel
theorem d_prog_55_m34_30 : decode prog_55_method_34_code 30 = .ok (.invokevirtual 600, 3) := by decide +kernel
theorem pd27 : parseMethodDescriptor "(I)C" = some ⟨[.int], some .char⟩ := by decide +kernel
theorem d_prog_55_m34_33 : decode prog_55_method_34_code 33 = .ok (.istore 4, 2) := by decide +kernel
theorem d_prog_55_m34_35 : decode prog_55_method_34_code 35 = .ok (.iload 4, 2) := by decide +kernel
theorem d_prog_55_m34_37 : decode prog_55_method_34_code 37 = .ok (.bipush 48, 2) := by decide +kernel
theorem d_prog_55_m34_39 : decode prog_55_method_34_code 39 = .ok (.if_icmp .lt 16, 3) := by decide +kernel
theorem d_prog_55_m34_55 : decode prog_55_method_34_code 55 = .ok (.iload 4, 2) := by decide +kernel
theorem d_prog_55_m34_57 : decode prog_55_method_34_code 57 = .ok (.bipush 46, 2) := by decide +kernel
theorem d_prog_55_m34_59 : decode prog_55_method_34_code 59 = .ok (.if_icmp .ne 18, 3) := by decide +kernel
theorem d_prog_55_m34_62 : decode prog_55_method_34_code 62 = .ok (.iload_n 3, 1) := by decide +kernel
theorem d_prog_55_m34_63 : decode prog_55_method_34_code 63 = .ok (.ifCond .ne 14, 3) := by decide +kernel
theorem d_prog_55_m34_66 : decode prog_55_method_34_code 66 = .ok (.iload_n 2, 1) := by decide +kernel
theorem d_prog_55_m34_67 : decode prog_55_method_34_code 67 = .ok (.ifCond .le 10, 3) := by decide +kernel
theorem d_prog_55_m34_70 : decode prog_55_method_34_code 70 = .ok (.iconst 1, 1) := by decide +kernel
theorem d_prog_55_m34_71 : decode prog_55_method_34_code 71 = .ok (.istore_n 3, 1) := by decide +kernel
theorem d_prog_55_m34_72 : decode prog_55_method_34_code 72 = .ok (.iconst 0, 1) := by decide +kernel
theorem d_prog_55_m34_73 : decode prog_55_method_34_code 73 = .ok (.istore_n 2, 1) := by decide +kernel
theorem d_prog_55_m34_74 : decode prog_55_method_34_code 74 = .ok (.goto 5, 3) := by decide +kernel
theorem d_prog_55_m34_79 : decode prog_55_method_34_code 79 = .ok (.iinc 1 1, 3) := by decide +kernel
theorem d_prog_55_m34_82 : decode prog_55_method_34_code 82 = .ok (.goto (-62), 3) := by decide +kernel
theorem d_prog_55_m34_77 : decode prog_55_method_34_code 77 = .ok (.iconst 0, 1) := by decide +kernel
theorem d_prog_55_m34_78 : decode prog_55_method_34_code 78 = .ok (.ireturn, 1) := by decide +kernel
theorem d_prog_55_m34_42 : decode prog_55_method_34_code 42 = .ok (.iload 4, 2) := by decide +kernel
theorem d_prog_55_m34_44 : decode prog_55_method_34_code 44 = .ok (.bipush 57, 2) := by decide +kernel
theorem d_prog_55_m34_46 : decode prog_55_method_34_code 46 = .ok (.if_icmp .gt 9, 3) := by decide +kernel
theorem d_prog_55_m34_49 : decode prog_55_method_34_code 49 = .ok (.iinc 2 1, 3) := by decide +kernel
theorem d_prog_55_m34_52 : decode prog_55_method_34_code 52 = .ok (.goto 27, 3) := by decide +kernel
theorem d_prog_55_m34_7 : decode prog_55_method_34_code 7 = .ok (.ifCond .eq 7, 3) := by decide +kernel
theorem d_prog_55_m34_14 : decode prog_55_method_34_code 14 = .ok (.iconst 0, 1) := by decide +kernel
theorem d_prog_55_m34_15 : decode prog_55_method_34_code 15 = .ok (.istore_n 1, 1) := by decide +kernel
theorem d_prog_55_m34_16 : decode prog_55_method_34_code 16 = .ok (.iconst 0, 1) := by decide +kernel
theorem d_prog_55_m34_17 : decode prog_55_method_34_code 17 = .ok (.istore_n 2, 1) := by decide +kernel
theorem d_prog_55_m34_18 : decode prog_55_method_34_code 18 = .ok (.iconst 0, 1) := by decide +kernel
theorem d_prog_55_m34_19 : decode prog_55_method_34_code 19 = .ok (.istore_n 3, 1) := by decide +kernel
theorem d_prog_55_m34_10 : decode prog_55_method_34_code 10 = .ok (.iconst 1, 1) := by decide +kernel
theorem d_prog_55_m34_11 : decode prog_55_method_34_code 11 = .ok (.goto 4, 3) := by decide +kernel
theorem pn28 : plainName "com/example/compendio/compendio/io/TermFile" = true := by first | (simp [plainName, overriddenIn]; done) | decide +kernel
theorem pd29 : parseMethodDescriptor "([C)V" = some ⟨[(.array .char)], none⟩ := by decide +kernel
theorem pd30 : parseMethodDescriptor "([CI)Z" = some ⟨[(.array .char), .int], some .boolean⟩ := by decide +kernel

theorem lat0 : Lat [] := fun _ q => nomatch q
theorem latS {c : Int32} {cs : List Int32} (h : 0 ≤ c.toInt ∧ c.toInt ≤ 255) (L : Lat cs) : Lat (c :: cs) := fun x q => (List.mem_cons.mp q).elim (fun z => z ▸ h) (L x)
theorem m255 (x : Int32) : 0 ≤ (x &&& (255 : Int32)).toInt ∧ (x &&& (255 : Int32)).toInt ≤ 255 := c_and x 255 (by decide)
theorem t32s (i : Nat) : i.toInt32 + 1 = (i + 1).toInt32 := by
  show Int32.ofNat i + 1 = Int32.ofNat (i + 1)
  rw [Int32.ofNat_add]; rfl
theorem lo8_lo8 (x : Int32) : nar .byte x.toInt8.toInt32 = x.toInt8.toInt32 := by simp [nar]
theorem ge255 {cs : List Int32} (L : Lat cs) {i : Nat} (hi : i < cs.length) : ¬ (255 : Int32) < cs[i] := by
  have := (L _ (List.getElem_mem hi)).2
  rw [Int32.lt_iff_toInt_lt]; have e : (255 : Int32).toInt = 255 := rfl; omega
theorem cmp_set {cs : List Int32} {vs : List Value} {i : Nat} (hi : i < cs.length) (hv : vs.length = cs.length) : (by8 (cs.take i) ++ vs.drop i).set i (.int cs[i].toInt8.toInt32) = by8 (cs.take (i + 1)) ++ vs.drop (i + 1) := by
  have h1 : (by8 (cs.take i)).length = i := by simp; omega
  rw [List.set_append_right _ _ (by omega), h1, Nat.sub_self, List.drop_eq_getElem_cons (by omega : i < vs.length), List.set_cons_zero, List.take_succ_eq_append_getElem hi]
  simp only [by8, List.map_append, List.map_cons, List.map_nil, List.append_assoc, List.cons_append, List.nil_append]
theorem lt32 {a b : Nat} (ha : a < 2 ^ 31) (hb : b < 2 ^ 31) : a.toInt32 < b.toInt32 ↔ a < b := by
  rw [Int32.lt_iff_toInt_lt, (len32 ha).2.2, (len32 hb).2.2]; omega
theorem eq32 {a b : Nat} (ha : a < 2 ^ 31) (hb : b < 2 ^ 31) : a.toInt32 = b.toInt32 ↔ a = b := by
  rw [← Int32.toInt_inj, (len32 ha).2.2, (len32 hb).2.2]; omega

theorem shr0 (x : Int32) : x >>> ((0 : Int32) &&& 31) = x := by
  have e : (0 : Int32) &&& 31 = 0 := by decide
  rw [e]; simp
theorem lo8m {x : Int32} (h : 0 ≤ x.toInt ∧ x.toInt ≤ 255) : x.toInt8.toInt32 &&& (255 : Int32) = x := by
  apply Int32.toInt_inj.mp
  have e1 := c_mask x.toInt8.toInt32 255 8 (by decide) (by decide)
  rw [e1]
  have e2 := c_i2b x
  omega
theorem i2cx {x : Int32} (h : 0 ≤ x.toInt ∧ x.toInt ≤ 65535) : x.toUInt32.toUInt16.toUInt32.toInt32 = x := by
  apply Int32.toInt_inj.mp
  have e2 := c_i2c x
  omega
theorem narc {x : Int32} (h : 0 ≤ x.toInt ∧ x.toInt ≤ 65535) : narrow .char (.int x) = .int x := by
  show Value.int _ = _
  rw [i2cx h]
theorem Own.Lat.at {cs : List Int32} (L : Lat cs) {i : Nat} (hi : i < cs.length) : 0 ≤ (cs.getD i 0).toInt ∧ (cs.getD i 0).toInt ≤ 255 := by
  rw [List.getD_eq_getElem?_getD, List.getElem?_eq_getElem hi]; exact L _ (List.getElem_mem hi)
theorem to16 {x : Int} (h : 0 ≤ x ∧ x ≤ 255) : 0 ≤ x ∧ x ≤ 65535 := by omega
theorem by8_at {cs : List Int32} {i : Nat} (hi : i < cs.length) : (by8 cs)[i.toInt32.toNatClampNeg]? = some (.int (cs.getD i 0).toInt8.toInt32) ↔ i.toInt32.toNatClampNeg = i ∨ (by8 cs)[i.toInt32.toNatClampNeg]? = some (.int (cs.getD i 0).toInt8.toInt32) := by
  constructor
  · exact Or.inr
  · rintro (h | h)
    · rw [h]; simp [hi]
    · exact h
theorem by8_get {cs : List Int32} {i : Nat} (hi : i < cs.length) (hl : cs.length < 2 ^ 31) : (by8 cs)[i.toInt32.toNatClampNeg]? = some (.int (cs.getD i 0).toInt8.toInt32) := (by8_at hi).mpr (Or.inl (len32 (by omega)).2.1)
theorem lo8_inj {x y : Int32} (h : 0 ≤ x.toInt ∧ x.toInt ≤ 255) (h' : 0 ≤ y.toInt ∧ y.toInt ≤ 255) (q : x.toInt8.toInt32 = y.toInt8.toInt32) : x = y := by
  rw [← lo8m h, ← lo8m h', q]
theorem take_step {cs ds : List Int32} {i : Nat} (h : cs.take i = ds.take i) (hi : i < cs.length) (hj : i < ds.length) (e : cs.getD i 0 = ds.getD i 0) : cs.take (i + 1) = ds.take (i + 1) := by
  rw [List.take_succ_eq_append_getElem hi, List.take_succ_eq_append_getElem hj, h]
  rw [List.getD_eq_getElem?_getD, List.getElem?_eq_getElem hi, List.getD_eq_getElem?_getD, List.getElem?_eq_getElem hj] at e
  have e' : cs[i] = ds[i] := e
  rw [e']
theorem ite1 {P : Prop} [Decidable P] (h : P) : (1 : Int32) = if P then 1 else 0 := (if_pos h).symm
theorem ite0 {P : Prop} [Decidable P] (h : ¬ P) : (0 : Int32) = if P then 1 else 0 := (if_neg h).symm
theorem narb {P : Prop} [Decidable P] : narrow .boolean (.int (if P then (1 : Int32) else 0)) = .int (if P then (1 : Int32) else 0) := by split <;> decide


theorem shl0 (x : Int32) : x <<< ((0 : Int32) &&& 31) = x := by
  have e : (0 : Int32) &&& 31 = 0 := by decide
  rw [e]; simp
theorem sub32 {a b : Nat} (h : b ≤ a) (ha : a < 2 ^ 31) : a.toInt32 - b.toInt32 = (a - b).toInt32 := by
  apply Int32.toInt_inj.mp
  have e1 := c_isub a.toInt32 b.toInt32
  have e2 := rng32 (a.toInt32 - b.toInt32)
  rw [(len32 (show a < 2 ^ 31 by omega)).2.2, (len32 (show b < 2 ^ 31 by omega)).2.2] at e1
  rw [(len32 (show a - b < 2 ^ 31 by omega)).2.2]; omega
theorem add32 {a b : Nat} (h : a + b < 2 ^ 31) : a.toInt32 + b.toInt32 = (a + b).toInt32 := by
  apply Int32.toInt_inj.mp
  have e1 := c_iadd a.toInt32 b.toInt32
  have e2 := rng32 (a.toInt32 + b.toInt32)
  rw [(len32 (show a < 2 ^ 31 by omega)).2.2, (len32 (show b < 2 ^ 31 by omega)).2.2] at e1
  rw [(len32 h).2.2]; omega
theorem sub32n {a b : Nat} (h : a ≤ b) (ha : a < 2 ^ 31) (hb : b < 2 ^ 31) : ¬ (0 : Int32) < a.toInt32 - b.toInt32 := by
  rw [Int32.lt_iff_toInt_lt]
  have e1 := c_isub a.toInt32 b.toInt32
  have e2 := rng32 (a.toInt32 - b.toInt32)
  rw [(len32 ha).2.2, (len32 hb).2.2] at e1
  have e0 : (0 : Int32).toInt = 0 := rfl
  omega
theorem pos32 {a : Nat} (h : 0 < a) (ha : a < 2 ^ 31) : (0 : Int32) < a.toInt32 := by
  rw [Int32.lt_iff_toInt_lt, (len32 ha).2.2]; have e0 : (0 : Int32).toInt = 0 := rfl; omega
theorem lat_app {cs ds : List Int32} (L : Lat cs) (M : Lat ds) : Lat (cs ++ ds) := fun c hc => (List.mem_append.mp hc).elim (L c) (M c)
theorem sbc {Z : State} {h : Heap} {a v : Addr} {cs cs' : List Int32} {cap cap' : Nat} (F : Sb Z h a v cs cap) (e : cs = cs') (e' : cap = cap') : Sb Z h a v cs' cap' := by subst e e'; exact F
/-- what a builder's array grows to -/
def grow (cap need : Nat) : Nat := if need ≤ cap then cap else cap + max (need - cap) (cap + 2)
theorem grow_le (cap need : Nat) : need ≤ grow cap need := by unfold grow; split <;> omega
theorem cap_le (cap need : Nat) : cap ≤ grow cap need := by unfold grow; split <;> omega
theorem sb_take {us : List Value} {cs ds : List Int32} (h1 : cs.length ≤ us.length) (h2 : cs.length + ds.length ≤ us.length) (h3 : us.take cs.length = by8 cs) : (us.take cs.length ++ ((by8 ds).drop 0).take ds.length ++ us.drop (cs.length + ds.length)).take (cs ++ ds).length = by8 (cs ++ ds) := by
  have e : ((by8 ds).drop 0).take ds.length = by8 ds := by rw [List.drop_zero, List.take_of_length_le (by simp)]
  rw [e, h3, List.take_append_of_le_length (by simp), List.take_of_length_le (by simp)]
  simp
theorem take_cop {us vs : List Value} {j n : Nat} (hn : n = vs.length) (hj : j + n ≤ us.length) {m : Nat} (hm : m = j + n) : (us.take j ++ (vs.drop 0).take n ++ us.drop m).take m = us.take j ++ vs := by
  subst hm hn
  rw [List.drop_zero, List.take_of_length_le (Nat.le_refl _), List.take_append_of_le_length (by simp; omega), List.take_of_length_le (by simp; omega)]

/-! Strings of two bytes a char -/
def C16 (cs : List Int32) : Prop := ∀ c ∈ cs, 0 ≤ c.toInt ∧ c.toInt ≤ 65535
theorem c160 : C16 [] := fun _ q => nomatch q
theorem c16S {c : Int32} {cs : List Int32} (h : 0 ≤ c.toInt ∧ c.toInt ≤ 65535) (L : C16 cs) : C16 (c :: cs) := fun x q => (List.mem_cons.mp q).elim (fun z => z ▸ h) (L x)
theorem C16.at {cs : List Int32} (L : C16 cs) {i : Nat} (hi : i < cs.length) : 0 ≤ (cs.getD i 0).toInt ∧ (cs.getD i 0).toInt ≤ 65535 := by
  rw [List.getD_eq_getElem?_getD, List.getElem?_eq_getElem hi]; exact L _ (List.getElem_mem hi)
def by16 : List Int32 → List Value
  | [] => []
  | c :: cs => .int c.toInt8.toInt32 :: .int (c >>> ((8 : Int32) &&& 31)).toInt8.toInt32 :: by16 cs
theorem len16 (cs : List Int32) : (by16 cs).length = 2 * cs.length := by
  induction cs with
  | nil => rfl
  | cons c cs ih => simp only [by16, List.length_cons, ih]; omega
theorem by16_app (cs ds : List Int32) : by16 (cs ++ ds) = by16 cs ++ by16 ds := by
  induction cs with
  | nil => rfl
  | cons c cs ih => simp only [List.cons_append, by16, ih]
theorem by16_get : ∀ (cs : List Int32) (i : Nat), i < cs.length → (by16 cs)[2 * i]? = some (.int (cs.getD i 0).toInt8.toInt32) ∧ (by16 cs)[2 * i + 1]? = some (.int ((cs.getD i 0) >>> ((8 : Int32) &&& 31)).toInt8.toInt32)
  | [], i, h => absurd h (by simp)
  | c :: cs, 0, _ => ⟨rfl, rfl⟩
  | c :: cs, i + 1, h => by
    have h' := by16_get cs i (by simpa using h)
    have e : 2 * (i + 1) = 2 * i + 1 + 1 := by omega
    rw [e]
    refine ⟨?_, ?_⟩
    · show (by16 cs)[2 * i]? = _
      rw [h'.1]; rfl
    · show (by16 cs)[2 * i + 1]? = _
      rw [h'.2]; rfl
theorem by16_lo {cs : List Int32} {i : Nat} (hi : i < cs.length) (hl : 2 * cs.length < 2 ^ 31) : (by16 cs)[(2 * i).toInt32.toNatClampNeg]? = some (.int (cs.getD i 0).toInt8.toInt32) := by
  rw [(len32 (by omega)).2.1]; exact (by16_get cs i hi).1
theorem by16_hi {cs : List Int32} {i : Nat} (hi : i < cs.length) (hl : 2 * cs.length < 2 ^ 31) : (by16 cs)[(2 * i + 1).toInt32.toNatClampNeg]? = some (.int ((cs.getD i 0) >>> ((8 : Int32) &&& 31)).toInt8.toInt32) := by
  rw [(len32 (by omega)).2.1]; exact (by16_get cs i hi).2
def Su (Z : State) (h : Heap) (a b : Addr) (cs : List Int32) : Prop := Exa Z h a ST ∧ Fld Z h a ST "coder" "B" (.int 1) ∧ Fld Z h a ST "value" "[B" (.ref b) ∧ Ar Z h b .byte (by16 cs) ∧ C16 cs
section Su
variable {Z : State} {h h' : Heap} {a b : Addr} {cs : List Int32} {ws : List Addr}
theorem Su.keep (F : Su Z h a b cs) (K : Keep h h' ws) (q : a ∉ ws) (q' : b ∉ ws) : Su Z h' a b cs := ⟨F.1.keep K, F.2.1.keep K q, F.2.2.1.keep K q, F.2.2.2.1.keep K q', F.2.2.2.2⟩
theorem Su.exa (F : Su Z h a b cs) : Exa Z h a ST := F.1
theorem Su.cod (F : Su Z h a b cs) : Fld Z h a ST "coder" "B" (.int 1) := F.2.1
theorem Su.val (F : Su Z h a b cs) : Fld Z h a ST "value" "[B" (.ref b) := F.2.2.1
theorem Su.arr (F : Su Z h a b cs) : Ar Z h b .byte (by16 cs) := F.2.2.2.1
theorem Su.c16 (F : Su Z h a b cs) : C16 cs := F.2.2.2.2
theorem Su.lt (F : Su Z h a b cs) : a < h.size := F.1.lt
theorem Su.ltb (F : Su Z h a b cs) : b < h.size := F.arr.lt
theorem Su.len2 (F : Su Z h a b cs) : 2 * cs.length < 2 ^ 31 := by have q := F.arr.len_lt; rw [len16] at q; exact q
def Sx (Z : State) (h : Heap) (a b : Addr) (cs : List Int32) : Prop := Str Z h a b cs ∨ Su Z h a b cs
theorem Sx.keep (F : Sx Z h a b cs) (K : Keep h h' ws) (q : a ∉ ws) (q' : b ∉ ws) : Sx Z h' a b cs := F.imp (fun F => F.keep K q q') (fun F => F.keep K q q')
theorem Sx.exa (F : Sx Z h a b cs) : Exa Z h a ST := F.elim (fun F => F.exa) (fun F => F.exa)
theorem Sx.lt (F : Sx Z h a b cs) : a < h.size := F.exa.lt
theorem Sx.ltb (F : Sx Z h a b cs) : b < h.size := F.elim (fun F => F.ltb) (fun F => F.ltb)
theorem Sx.len_lt (F : Sx Z h a b cs) : cs.length < 2 ^ 31 := F.elim (fun F => F.len_lt) (fun F => by have := F.len2; omega)
end Su
theorem shl1 {n : Nat} (h : 2 * n < 2 ^ 31) : n.toInt32 <<< ((1 : Int32) &&& 31) = (2 * n).toInt32 := by
  apply Int32.toInt_inj.mp
  have e1 := c_ishl n.toInt32 1 1 (by decide)
  have e2 := rng32 (n.toInt32 <<< ((1 : Int32) &&& 31))
  rw [(len32 (show n < 2 ^ 31 by omega)).2.2] at e1
  rw [(len32 h).2.2]; omega
theorem shr1 {n : Nat} (h : 2 * n < 2 ^ 31) : (2 * n).toInt32 >>> ((1 : Int32) &&& 31) = n.toInt32 := by
  apply Int32.toInt_inj.mp
  rw [c_ishr _ 1 1 (by decide), (len32 h).2.2, (len32 (show n < 2 ^ 31 by omega)).2.2]; omega
theorem dec16 {c : Int32} (h : 0 ≤ c.toInt ∧ c.toInt ≤ 65535) : ((c.toInt8.toInt32 &&& (255 : Int32)) <<< ((0 : Int32) &&& 31) ||| ((c >>> ((8 : Int32) &&& 31)).toInt8.toInt32 &&& (255 : Int32)) <<< ((8 : Int32) &&& 31)).toUInt32.toUInt16.toUInt32.toInt32 = c := by
  have e0 : ∀ x : Int32, x <<< ((0 : Int32) &&& 31) = x := fun x => by
    have e : (0 : Int32) &&& 31 = 0 := by decide
    rw [e]; simp
  rw [e0, Int32.or_comm]
  have a1 := c_mask c.toInt8.toInt32 255 8 (by decide) (by decide)
  have a2 := c_i2b c
  have b0 := c_ishr c 8 8 (by decide)
  have b2 := c_i2b (c >>> ((8 : Int32) &&& 31))
  have b1 := c_mask (c >>> ((8 : Int32) &&& 31)).toInt8.toInt32 255 8 (by decide) (by decide)
  generalize c.toInt8.toInt32 &&& (255 : Int32) = lo at a1 ⊢
  generalize (c >>> ((8 : Int32) &&& 31)).toInt8.toInt32 &&& (255 : Int32) = hi at b1 ⊢
  have b3 := c_ishl hi 8 8 (by decide)
  have b4 := rng32 (hi <<< ((8 : Int32) &&& 31))
  generalize hi <<< ((8 : Int32) &&& 31) = hh at b3 b4 ⊢
  have o := c_or hh lo 8 (by decide) 256 (by decide) (by omega) (by omega) (by omega)
  have o2 := rng32 (hh ||| lo)
  generalize hh ||| lo = r at o o2 ⊢
  have q := c_i2c r
  apply Int32.toInt_inj.mp
  omega
theorem put_set {cs : List Int32} {i : Nat} (hi : i < cs.length) : ((by16 (cs.take i) ++ List.replicate (2 * (cs.length - i)) (Value.int (0 : Int32))).set (2 * i) (.int (cs.getD i 0).toInt8.toInt32)).set (2 * i + 1) (.int ((cs.getD i 0) >>> ((8 : Int32) &&& 31)).toInt8.toInt32) = by16 (cs.take (i + 1)) ++ List.replicate (2 * (cs.length - (i + 1))) (Value.int (0 : Int32)) := by
  have h1 : (by16 (cs.take i)).length = 2 * i := by rw [len16, List.length_take]; omega
  have e : 2 * (cs.length - i) = 2 * (cs.length - (i + 1)) + 1 + 1 := by omega
  have e3 : cs.getD i 0 = cs[i] := by rw [List.getD_eq_getElem?_getD, List.getElem?_eq_getElem hi]; rfl
  have e4 : cs.take (i + 1) = cs.take i ++ [cs[i]] := List.take_succ_eq_append_getElem hi
  have e5 : 2 * i + 1 - 2 * i = 1 := by omega
  rw [e, List.replicate_succ, List.replicate_succ, List.set_append_right _ _ (by omega), h1, Nat.sub_self, List.set_cons_zero, List.set_append_right _ _ (by omega), h1, e5, List.set_cons_succ, List.set_cons_zero, e4, by16_app, e3]
  simp only [by16, List.append_assoc, List.cons_append, List.nil_append]
theorem ch_get {fs : List Int32} {i : Nat} (hi : i < fs.length) (hl : i < 2 ^ 31) : (fs.map Value.int)[i.toInt32.toNatClampNeg]? = some (.int (fs.getD i 0)) := by
  rw [(len32 hl).2.1, List.getElem?_map, List.getElem?_eq_getElem hi, List.getD_eq_getElem?_getD, List.getElem?_eq_getElem hi]; rfl
theorem all_step {cs : List Int32} {i : Nat} (hi : i < cs.length) (H : ∀ x ∈ cs.take i, x.toInt ≤ 255) (h : ¬ (255 : Int32) < cs.getD i 0) : ∀ x ∈ cs.take (i + 1), x.toInt ≤ 255 := by
  intro x hx
  rw [List.take_succ_eq_append_getElem hi] at hx
  rcases List.mem_append.mp hx with q | q
  · exact H x q
  · have e : x = cs[i] := by simpa using q
    rw [List.getD_eq_getElem?_getD, List.getElem?_eq_getElem hi] at h
    have h' : ¬ (255 : Int32) < cs[i] := h
    rw [Int32.lt_iff_toInt_lt] at h'
    have e5 : (255 : Int32).toInt = 255 := rfl
    rw [e]; omega
theorem cod31 {n : Nat} (h0 : 0 < n) (h1 : n < 2 ^ 30) : XT.ushr (n.toInt32 - (2 * n).toInt32) 31 = 1 := by
  apply Int32.toInt_inj.mp
  have e1 := c_isub n.toInt32 (2 * n).toInt32
  have e2 := rng32 (n.toInt32 - (2 * n).toInt32)
  rw [(len32 (show n < 2 ^ 31 by omega)).2.2, (len32 (show 2 * n < 2 ^ 31 by omega)).2.2] at e1
  have e3 := c_iushr (n.toInt32 - (2 * n).toInt32) 31 31 (by decide) (by decide)
  have e4 : (1 : Int32).toInt = 1 := rfl
  rw [e4]
  refine Eq.trans e3 ?_
  omega

/-- '-': 0, a digit: 1, '.': 2 -/
def cl (c : Int32) : Fin 4 := if c = 45 then 0 else if ¬ c < 48 ∧ ¬ (57 : Int32) < c then 1 else if c = 46 then 2 else 3
theorem cl_m (c : Int32) : cl c = 0 ↔ c = 45 := by
  unfold cl
  by_cases h : c = 45
  · simp [h]
  · rw [if_neg h]
    refine ⟨fun q => ?_, fun q => absurd q h⟩
    split at q
    · exact absurd q (by decide)
    · split at q <;> exact absurd q (by decide)
theorem cl_d (c : Int32) : cl c = 1 ↔ (¬ c < 48 ∧ ¬ (57 : Int32) < c) := by
  unfold cl
  by_cases h : c = 45
  · subst h; decide
  · rw [if_neg h]
    by_cases h2 : ¬ c < 48 ∧ ¬ (57 : Int32) < c
    · rw [if_pos h2]; exact ⟨fun _ => h2, fun _ => rfl⟩
    · rw [if_neg h2]
      refine ⟨fun q => ?_, fun q => absurd q h2⟩
      split at q <;> exact absurd q (by decide)
theorem cl_p (c : Int32) : cl c = 2 ↔ c = 46 := by
  by_cases h : c = 46
  · subst h; exact ⟨fun _ => rfl, fun _ => by decide⟩
  · refine ⟨fun q => ?_, fun q => absurd q h⟩
    unfold cl at q
    split at q
    · exact absurd q (by decide)
    · split at q
      · exact absurd q (by decide)
      · first | exact absurd q (by decide) | (rw [if_neg h] at q; exact absurd q (by decide))
def b2i : Bool → Int32
  | true => 1
  | false => 0
def b2m : Bool → Int32
  | true => -1
  | false => 0
theorem b2i0 {b : Bool} (h : b2i b = 0) : b = false := by cases b with | false => rfl | true => exact absurd h (by decide)
theorem b2i1 {b : Bool} (h : ¬ b2i b = 0) : b = true := by cases b with | true => rfl | false => exact absurd rfl h
theorem b2m1 {b : Bool} (h : b2m b < 0) : b = true := by cases b with | true => rfl | false => exact absurd h (by decide)
theorem b2m0 {b : Bool} (h : ¬ b2m b < 0) : b = false := by cases b with | false => rfl | true => exact absurd (by decide) h
theorem sv1 {b : Bool} (h : b = true) : some (Value.int (1 : Int32)) = some (Value.int (b2i b)) := by rw [h]; rfl
theorem sv0 {b : Bool} (h : b = false) : some (Value.int (0 : Int32)) = some (Value.int (b2i b)) := by rw [h]; rfl
theorem vv1 {b : Bool} (h : b = true) : Value.int (1 : Int32) = Value.int (b2i b) := by rw [h]; rfl
theorem vv0 {b : Bool} (h : b = false) : Value.int (0 : Int32) = Value.int (b2i b) := by rw [h]; rfl
theorem sm1 {b : Bool} (h : b = true) : some (Value.int (-1 : Int32)) = some (Value.int (b2m b)) := by rw [h]; rfl
theorem sm0 {b : Bool} (h : b = false) : some (Value.int (0 : Int32)) = some (Value.int (b2m b)) := by rw [h]; rfl
theorem narB (b : Bool) : narrow .boolean (.int (b2i b)) = .int (b2i b) := by cases b <;> decide
/-- what isDecimal does -/
def decGo : List (Fin 4) → Bool → Bool → Bool
  | [], d, _ => d
  | x :: xs, d, p => if x = 1 then decGo xs true p else if x = 2 ∧ p = false ∧ d = true then decGo xs false true else false
def decC : List (Fin 4) → Bool
  | [] => false
  | x :: xs => if x = 0 then decGo xs false false else decGo (x :: xs) false false
theorem dg_d {x : Fin 4} {xs : List (Fin 4)} {d p : Bool} (h : x = 1) : decGo (x :: xs) d p = decGo xs true p := by simp only [decGo, if_pos h]
theorem dg_p {x : Fin 4} {xs : List (Fin 4)} {d p : Bool} (h : x = 2) (hp : p = false) (hd : d = true) : decGo (x :: xs) d p = decGo xs false true := by
  subst h hp hd; simp only [decGo]; rfl
theorem dg_n {x : Fin 4} {xs : List (Fin 4)} {d p : Bool} (h1 : x ≠ 1) (h2 : ¬ (x = 2 ∧ p = false ∧ d = true)) : decGo (x :: xs) d p = false := by simp only [decGo, if_neg h1, if_neg h2]
theorem drop_cl {cs : List Int32} {i : Nat} (hi : i < cs.length) : (cs.map cl).drop i = cl (cs.getD i 0) :: (cs.map cl).drop (i + 1) := by
  rw [List.drop_eq_getElem_cons (by simpa using hi), List.getElem_map, List.getD_eq_getElem?_getD, List.getElem?_eq_getElem hi]; rfl
theorem dec0 {cs : List Int32} (h : ¬ cs.head? = some 45) : decC (cs.map cl) = decGo ((cs.map cl).drop 0) (decide (0 < 0)) false := by
  cases cs with
  | nil => rfl
  | cons c cs =>
    have hc : ¬ cl c = 0 := fun q => h (by rw [(cl_m c).mp q]; rfl)
    show (if cl c = 0 then _ else _) = _
    rw [if_neg hc]; rfl
theorem dec1 {cs : List Int32} (h : cs.head? = some 45) : 1 ≤ cs.length ∧ decC (cs.map cl) = decGo ((cs.map cl).drop 1) (decide (0 < 0)) false := by
  cases cs with
  | nil => cases h
  | cons c cs =>
    have hc : c = 45 := by simpa using h
    subst hc
    refine ⟨by simp, ?_⟩
    show (if cl 45 = 0 then decGo (cs.map cl) false false else decGo (cl 45 :: cs.map cl) false false) = decGo (cs.map cl) false false
    exact if_pos (by decide)
theorem hd_eq {cs : List Int32} (h : 0 < cs.length) : cs.head? = some 45 ↔ cs.getD 0 0 = 45 := by
  cases cs with
  | nil => exact absurd h (by simp)
  | cons c cs => simp
theorem hd_no {cs : List Int32} (hl : cs.length < 2 ^ 31) (h : cs.length.toInt32 - 1 < 0) : ¬ cs.head? = some 45 := by
  cases cs with
  | nil => simp
  | cons c cs =>
    exfalso
    have e := c_isub (c :: cs).length.toInt32 1
    have e2 := rng32 ((c :: cs).length.toInt32 - 1)
    rw [Int32.lt_iff_toInt_lt] at h
    rw [(len32 hl).2.2] at e
    have e0 : (0 : Int32).toInt = 0 := rfl
    have e1 : (1 : Int32).toInt = 1 := rfl
    have e3 : 0 < (c :: cs).length := by simp
    omega
theorem hd_yes {cs : List Int32} (h : ¬ cs.length.toInt32 - 1 < 0) : 0 < cs.length := by
  cases cs with
  | nil => exact absurd (by decide) h
  | cons c cs => simp
/-- what 'expected' does -/
def alw (xs : List (Fin 4)) (n q i : Nat) : Bool := decide (i < q) || decide (n ≤ i) || decide (xs.getD i 3 = 1) || decide (xs.getD i 3 = 2)
def ptw (xs : List (Fin 4)) (n q i : Nat) : Bool := !decide (i < q) && !decide (n ≤ i) && decide (xs.getD i 3 = 2)
def sgn (xs : List (Fin 4)) (n : Nat) : Nat := if 0 < n ∧ xs.getD 0 3 = 0 then 1 else 0
def alls (xs : List (Fin 4)) (n q : Nat) : Bool := alw xs n q 0 && alw xs n q 1 && alw xs n q 2 && alw xs n q 3 && alw xs n q 4 && alw xs n q 5
def psum (xs : List (Fin 4)) (n q : Nat) : Int32 := b2i (ptw xs n q 0) + b2i (ptw xs n q 1) + b2i (ptw xs n q 2) + b2i (ptw xs n q 3) + b2i (ptw xs n q 4) + b2i (ptw xs n q 5)
def nsum (xs : List (Fin 4)) (n q : Nat) : Nat := (ptw xs n q 0).toNat + (ptw xs n q 1).toNat + (ptw xs n q 2).toNat + (ptw xs n q 3).toNat + (ptw xs n q 4).toNat + (ptw xs n q 5).toNat
def expC (xs : List (Fin 4)) (n : Nat) : Bool := if n ≤ sgn xs n then false else alls xs n (sgn xs n) && !decide (1 < nsum xs n (sgn xs n)) && decide (xs.getD (sgn xs n) 3 = 1) && decide (xs.getD (n - 1) 3 = 1)
theorem sum6 (a b c d e f : Bool) : (1 : Int32) < b2i a + b2i b + b2i c + b2i d + b2i e + b2i f ↔ 1 < a.toNat + b.toNat + c.toNat + d.toNat + e.toNat + f.toNat := by
  cases a <;> cases b <;> cases c <;> cases d <;> cases e <;> cases f <;> decide
theorem getcl {fs : List Int32} {i : Nat} (hi : i < fs.length) : (fs.map cl).getD i 3 = cl (fs.getD i 0) := by
  rw [List.getD_eq_getElem?_getD, List.getElem?_map, List.getElem?_eq_getElem hi, List.getD_eq_getElem?_getD, List.getElem?_eq_getElem hi]; rfl
theorem alw_t {fs : List Int32} {n q i : Nat} (hi : i < fs.length) (h : i < q ∨ n ≤ i ∨ cl (fs.getD i 0) = 1 ∨ fs.getD i 0 = 46) : alw (fs.map cl) n q i = true := by
  unfold alw; rw [getcl hi]
  rcases h with h | h | h | h
  · rw [decide_eq_true h]; rfl
  · rw [decide_eq_true h]; simp
  · rw [decide_eq_true h]; simp
  · rw [decide_eq_true ((cl_p _).mpr h)]; simp
theorem alw_f {fs : List Int32} {n q i : Nat} (hi : i < fs.length) (h1 : ¬ i < q) (h2 : ¬ n ≤ i) (h3 : ¬ cl (fs.getD i 0) = 1) (h4 : ¬ fs.getD i 0 = 46) : alw (fs.map cl) n q i = false := by
  unfold alw; rw [getcl hi, decide_eq_false h1, decide_eq_false h2, decide_eq_false h3, decide_eq_false (fun z => h4 ((cl_p _).mp z))]; rfl
theorem ptw_t {fs : List Int32} {n q i : Nat} (hi : i < fs.length) (h1 : ¬ i < q) (h2 : ¬ n ≤ i) (h4 : fs.getD i 0 = 46) : ptw (fs.map cl) n q i = true := by
  unfold ptw; rw [getcl hi, decide_eq_false h1, decide_eq_false h2, decide_eq_true ((cl_p _).mpr h4)]; rfl
theorem ptw_f {fs : List Int32} {n q i : Nat} (hi : i < fs.length) (h : i < q ∨ n ≤ i ∨ ¬ fs.getD i 0 = 46) : ptw (fs.map cl) n q i = false := by
  unfold ptw; rw [getcl hi]
  rcases h with h | h | h
  · rw [decide_eq_true h]; rfl
  · rw [decide_eq_true h]; simp
  · rw [decide_eq_false (fun z => h ((cl_p _).mp z))]; simp
theorem sgn1 {fs : List Int32} {n : Nat} (hi : 0 < fs.length) (h : 0 < n) (h2 : fs.getD 0 0 = 45) : sgn (fs.map cl) n = 1 := by
  unfold sgn; rw [getcl hi, if_pos ⟨h, (cl_m _).mpr h2⟩]
theorem sgn0 {fs : List Int32} {n : Nat} (hi : 0 < fs.length) (h : ¬ 0 < n ∨ ¬ fs.getD 0 0 = 45) : sgn (fs.map cl) n = 0 := by
  unfold sgn; rw [getcl hi, if_neg (fun z => h.elim (fun y => y z.1) (fun y => y ((cl_m _).mp z.2)))]
theorem exp_z {fs : List Int32} {n q : Nat} (hq : sgn (fs.map cl) n = q) (h : n ≤ q) : expC (fs.map cl) n = false := by
  unfold expC; rw [hq, if_pos h]
theorem exp_t {fs : List Int32} {n q : Nat} (hq : sgn (fs.map cl) n = q) (h : ¬ n ≤ q) (l1 : q < fs.length) (l2 : n - 1 < fs.length) (h1 : alls (fs.map cl) n q = true) (h2 : ¬ (1 : Int32) < psum (fs.map cl) n q) (h3 : cl (fs.getD q 0) = 1) (h4 : cl (fs.getD (n - 1) 0) = 1) : expC (fs.map cl) n = true := by
  have h2' : ¬ 1 < nsum (fs.map cl) n q := fun z => h2 ((sum6 _ _ _ _ _ _).mpr z)
  unfold expC; rw [hq, if_neg h, h1, getcl l1, getcl l2, decide_eq_false h2', decide_eq_true h3, decide_eq_true h4]; rfl
theorem exp_f {fs : List Int32} {n q : Nat} (hq : sgn (fs.map cl) n = q) (h : ¬ n ≤ q) (l1 : q < fs.length) (l2 : n - 1 < fs.length) (H : alls (fs.map cl) n q = false ∨ (1 : Int32) < psum (fs.map cl) n q ∨ ¬ cl (fs.getD q 0) = 1 ∨ ¬ cl (fs.getD (n - 1) 0) = 1) : expC (fs.map cl) n = false := by
  unfold expC; rw [hq, if_neg h, getcl l1, getcl l2]
  rcases H with H | H | H | H
  · rw [H]; rfl
  · rw [decide_eq_true (show 1 < nsum (fs.map cl) n q from (sum6 _ _ _ _ _ _).mp H)]; simp
  · rw [decide_eq_false H]; simp
  · rw [decide_eq_false H]; simp
theorem getD_take {xs : List (Fin 4)} {n i : Nat} (h : i < n) : (xs.take n).getD i 3 = xs.getD i 3 := by
  rw [List.getD_eq_getElem?_getD, List.getElem?_take_of_lt h, List.getD_eq_getElem?_getD]
theorem alw_k (xs : List (Fin 4)) (n q i : Nat) : alw (xs.take n) n q i = alw xs n q i := by
  unfold alw
  by_cases h : n ≤ i
  · simp [h]
  · rw [getD_take (by omega)]
theorem ptw_k (xs : List (Fin 4)) (n q i : Nat) : ptw (xs.take n) n q i = ptw xs n q i := by
  unfold ptw
  by_cases h : n ≤ i
  · simp [h]
  · rw [getD_take (by omega)]
theorem sgn_k (xs : List (Fin 4)) (n : Nat) : sgn (xs.take n) n = sgn xs n := by
  unfold sgn
  by_cases h : 0 < n
  · rw [getD_take h]
  · simp [h]
theorem sgn_le (xs : List (Fin 4)) (n : Nat) : sgn xs n ≤ 1 := by unfold sgn; split <;> omega
theorem exp_k (xs : List (Fin 4)) (n : Nat) : expC (xs.take n) n = expC xs n := by
  unfold expC alls nsum
  rw [sgn_k]
  by_cases h : n ≤ sgn xs n
  · rw [if_pos h, if_pos h]
  · rw [if_neg h, if_neg h]
    simp only [alw_k, ptw_k]
    rw [getD_take (by omega), getD_take (by omega)]
theorem br0 : expC [] 0 = decC [] := by decide +kernel
theorem fin0 (f0 f1 f2 f3 f4 f5 : Int32) : decC (([] : List Int32).map cl) = expC ([f0, f1, f2, f3, f4, f5].map cl) 0 := by rw [← exp_k]; exact (br0).symm
theorem br1 : ∀ x0 : Fin 4, expC [x0] 1 = decC [x0] := by decide +kernel
theorem fin1 (f0 f1 f2 f3 f4 f5 : Int32) : decC (([f0] : List Int32).map cl) = expC ([f0, f1, f2, f3, f4, f5].map cl) 1 := by rw [← exp_k]; exact (br1 _).symm
theorem br2 : ∀ x0 x1 : Fin 4, expC [x0, x1] 2 = decC [x0, x1] := by decide +kernel
theorem fin2 (f0 f1 f2 f3 f4 f5 : Int32) : decC (([f0, f1] : List Int32).map cl) = expC ([f0, f1, f2, f3, f4, f5].map cl) 2 := by rw [← exp_k]; exact (br2 _ _).symm
theorem br3 : ∀ x0 x1 x2 : Fin 4, expC [x0, x1, x2] 3 = decC [x0, x1, x2] := by decide +kernel
theorem fin3 (f0 f1 f2 f3 f4 f5 : Int32) : decC (([f0, f1, f2] : List Int32).map cl) = expC ([f0, f1, f2, f3, f4, f5].map cl) 3 := by rw [← exp_k]; exact (br3 _ _ _).symm
theorem br4 : ∀ x0 x1 x2 x3 : Fin 4, expC [x0, x1, x2, x3] 4 = decC [x0, x1, x2, x3] := by decide +kernel
theorem fin4 (f0 f1 f2 f3 f4 f5 : Int32) : decC (([f0, f1, f2, f3] : List Int32).map cl) = expC ([f0, f1, f2, f3, f4, f5].map cl) 4 := by rw [← exp_k]; exact (br4 _ _ _ _).symm
theorem br5 : ∀ x0 x1 x2 x3 x4 : Fin 4, expC [x0, x1, x2, x3, x4] 5 = decC [x0, x1, x2, x3, x4] := by decide +kernel
theorem fin5 (f0 f1 f2 f3 f4 f5 : Int32) : decC (([f0, f1, f2, f3, f4] : List Int32).map cl) = expC ([f0, f1, f2, f3, f4, f5].map cl) 5 := by rw [← exp_k]; exact (br5 _ _ _ _ _).symm
theorem br6 : ∀ x0 x1 x2 x3 x4 x5 : Fin 4, expC [x0, x1, x2, x3, x4, x5] 6 = decC [x0, x1, x2, x3, x4, x5] := by decide +kernel
theorem fin6 (f0 f1 f2 f3 f4 f5 : Int32) : decC (([f0, f1, f2, f3, f4, f5] : List Int32).map cl) = expC ([f0, f1, f2, f3, f4, f5].map cl) 6 := by rw [← exp_k]; exact (br6 _ _ _ _ _ _).symm

theorem mod7 (x : Int32) : ∃ n : Int32, (x &&& (2147483647 : Int32)) % (7 : Int32) = n ∧ (n = 0 ∨ n = 1 ∨ n = 2 ∨ n = 3 ∨ n = 4 ∨ n = 5 ∨ n = 6) := by
  refine ⟨_, rfl, ?_⟩
  have h0 := c_and x 2147483647 (by decide)
  have h := (c_irem (x &&& 2147483647) 7 7 rfl).1 h0.1
  have hh : ∀ k : Int32, ((x &&& (2147483647 : Int32)) % (7 : Int32)).toInt = k.toInt → (x &&& (2147483647 : Int32)) % (7 : Int32) = k := fun k q => Int32.toInt_inj.mp q
  have h1 := Int.emod_nonneg (x &&& (2147483647 : Int32)).toInt (show (7 : Int) ≠ 0 by decide)
  have h2 := Int.emod_lt_of_pos (x &&& (2147483647 : Int32)).toInt (show (0 : Int) < 7 by decide)
  rw [← h] at h1 h2
  have h3 : ((x &&& (2147483647 : Int32)) % (7 : Int32)).toInt = 0 ∨ ((x &&& (2147483647 : Int32)) % (7 : Int32)).toInt = 1 ∨ ((x &&& (2147483647 : Int32)) % (7 : Int32)).toInt = 2 ∨ ((x &&& (2147483647 : Int32)) % (7 : Int32)).toInt = 3 ∨ ((x &&& (2147483647 : Int32)) % (7 : Int32)).toInt = 4 ∨ ((x &&& (2147483647 : Int32)) % (7 : Int32)).toInt = 5 ∨ ((x &&& (2147483647 : Int32)) % (7 : Int32)).toInt = 6 := by omega
  rcases h3 with q | q | q | q | q | q | q
  · exact Or.inl (hh 0 q)
  · exact Or.inr (Or.inl (hh 1 q))
  · exact Or.inr (Or.inr (Or.inl (hh 2 q)))
  · exact Or.inr (Or.inr (Or.inr (Or.inl (hh 3 q))))
  · exact Or.inr (Or.inr (Or.inr (Or.inr (Or.inl (hh 4 q)))))
  · exact Or.inr (Or.inr (Or.inr (Or.inr (Or.inr (Or.inl (hh 5 q))))))
  · exact Or.inr (Or.inr (Or.inr (Or.inr (Or.inr (Or.inr (hh 6 q))))))
theorem ch16 (x : Int32) : ∃ f : Int32, x.toUInt32.toUInt16.toUInt32.toInt32 = f ∧ (0 ≤ f.toInt ∧ f.toInt ≤ 65535) := ⟨_, rfl, by have := c_i2c x; omega⟩

abbrev c_cmp5_q (Z : State) (zC : Int32) (fS : Value) (h : Heap) (B : Addr → Prop) (a d : Addr) (cs : List Int32) (vs : List Value) (xR : Value) (h' : Heap) : Prop := xR = (.int cs.length.toInt32) ∧ Keep h h' [d] ∧ Ar Z h' d .byte (by8 cs)
def c_cmp5_rm : Room := { frames := 0, cells := 0, slots := 0, locals := 0 }
set_option maxRecDepth 65536 in
set_option maxHeartbeats 40000000 in
theorem c_cmp5 {l : Launch} {Z : State} {a0 : Array Value} {zC : Int32} {fS : Value} {h : Heap} {B : Addr → Prop} {a d : Addr} {cs : List Int32} {vs : List Value} (G : Gl Z a0 zC fS) (hE : En Z B h) (P0 : Ar Z h a .char (cs.map Value.int)) (P1 : Ar Z h d .byte vs) (P2 : Lat cs) (P3 : vs.length = cs.length) (P4 : Z.heap.size ≤ d) (P5 : ¬ B d) : Con l Z consts_1 [] (⟨"java/lang/StringUTF16", "compress", "([CI[BII)I"⟩ : MethodName) jdk_52_method_21_code 7 (some .int) c_cmp5_rm B h #[(.ref a), (.int (0 : Int32)), (.ref d), (.int (0 : Int32)), (.int cs.length.toInt32)] (fun vR hR BR => ∃ xR, vR = some xR ∧ BR = B ∧ c_cmp5_q Z zC fS h B a d cs vs xR hR) := by
  have hz0 := hE.1.1
  refine Con.intro (ls := #[.val (.ref a), .val (.int (0 : Int32)), .val (.ref d), .val (.int (0 : Int32)), .val (.int cs.length.toInt32), .unset, .unset]) (plainFor_of_name pn0) G.2.1 hE (fun m => by first | rfl | (simp [entryFrame, mkF, argsToLocals, Value.category]; done) | rfl) ?_
  intro pP eE sS mM blw mth cC T hs X
  have hL := P0.len_lt; rw [List.length_map] at hL
  have hne : a ≠ d := ar_ne P0 P1 (by decide)
  have loop : ∀ (r i : Nat) (T : State) (h1 : Heap) (o : Slot), i + r = cs.length → (o = .unset ∨ ∃ x, o = .val (.int x)) → Wk l Z consts_1 (⟨"java/lang/StringUTF16", "compress", "([CI[BII)I"⟩ : MethodName) jdk_52_method_21_code 7 (some .int) c_cmp5_rm B pP eE sS mM #[(.ref a), (.int (0 : Int32)), (.ref d), (.int (0 : Int32)), (.int cs.length.toInt32)] blw mth cC B T h1 0 0 → Keep h h1 [d] → Ar Z h1 a .char (cs.map Value.int) → Ar Z h1 d .byte (by8 (cs.take i) ++ vs.drop i) → Go l Z consts_1 c_cmp5_rm B (fun vR hR BR => ∃ xR, vR = some xR ∧ BR = B ∧ c_cmp5_q Z zC fS h B a d cs vs xR hR) pP eE sS mM blw T 3 #[.val (.ref a), .val (.int i.toInt32), .val (.ref d), .val (.int i.toInt32), .val (.int cs.length.toInt32), .val (.int i.toInt32), o] [] := by
    intro r
    induction r with
    | zero =>
      intro i T h1 o hi ho X K A D
      obtain rfl : i = cs.length := by omega
      have D : Ar Z h1 d .byte (by8 cs) := by simpa [P3, List.drop_eq_nil_of_le] using D
      refine W.iload (pc' := 5) X d_jdk_52_m21_3 rfl rfl ?_
      refine W.iload (pc' := 7) X d_jdk_52_m21_5 rfl rfl ?_
      refine W.icT (pc' := 44) X d_jdk_52_m21_7 (XT.ii_ge_t (fun q => by rw [Int32.lt_iff_toInt_lt] at q; omega)) (by decide) (by decide) ?_
      refine W.iload (pc' := 46) X d_jdk_52_m21_44 rfl rfl ?_
      exact W.ireturn X d_jdk_52_m21_46 rfl (by decide) rfl (by decide) (by decide) ⟨_, rfl, rfl, ⟨rfl, (Keep.trans (Keep.refl h [d]) K (allS (Or.inl (List.mem_of_getElem? (i := 0) rfl)) all0)), D⟩⟩
    | succ r ih =>
      intro i T h1 o hi ho X K A D
      have hi' : i < cs.length := by omega
      rcases ho with rfl | ⟨x0, rfl⟩
      all_goals
        refine W.iload (pc' := 5) X d_jdk_52_m21_3 rfl rfl ?_
        refine W.iload (pc' := 7) X d_jdk_52_m21_5 rfl rfl ?_
        refine W.icF (pc' := 10) X d_jdk_52_m21_7 (XT.ii_ge_f ((lt32 (by omega) hL).mpr hi')) rfl ?_
        refine W.aloadN (pc' := 11) X d_jdk_52_m21_10 rfl rfl rfl ?_
        refine W.iloadN (pc' := 12) X d_jdk_52_m21_11 rfl rfl ?_
        refine W.caload (pc' := 13) (v := (.int cs[i])) X A (len32 (by omega)).1 (by rw [(len32 (by omega)).2.1]; simp [hi']) d_jdk_52_m21_12 rfl ?_
        refine W.istore (pc' := 15) (ls' := #[.val (.ref a), .val (.int i.toInt32), .val (.ref d), .val (.int i.toInt32), .val (.int cs.length.toInt32), .val (.int i.toInt32), .val (.int cs[i])]) X d_jdk_52_m21_13 rfl rfl ?_
        refine W.iload (pc' := 17) X d_jdk_52_m21_15 rfl rfl ?_
        refine W.sipush (pc' := 20) X (255 : Int32) d_jdk_52_m21_17 (by decide) rfl ?_
        refine W.icT (pc' := 26) X d_jdk_52_m21_20 (XT.ii_le_t (ge255 P2 hi')) (by decide) (by decide) ?_
        refine W.aloadN (pc' := 27) X d_jdk_52_m21_26 rfl rfl rfl ?_
        refine W.iloadN (pc' := 28) X d_jdk_52_m21_27 rfl rfl ?_
        refine W.iload (pc' := 30) X d_jdk_52_m21_28 rfl rfl ?_
        refine W.i2b (pc' := 31) (w := (cs[i]).toInt8.toInt32) X d_jdk_52_m21_30 rfl rfl ?_
        refine W.bastore (pc' := 32) (i := i) X D (len32 (by omega)).1 (len32 (by omega)).2.1 (by simp; omega) (lo8_lo8 _) P4 P5 d_jdk_52_m21_31 rfl fun T h1 X K2 A3 => ?_
        refine W.iinc (pc' := 35) (ls' := #[.val (.ref a), .val (.int (i + 1).toInt32), .val (.ref d), .val (.int i.toInt32), .val (.int cs.length.toInt32), .val (.int i.toInt32), .val (.int cs[i])]) X (1 : Int32) (w := (i + 1).toInt32) d_jdk_52_m21_32 (by decide) rfl (t32s i) rfl rfl ?_
        refine W.iinc (pc' := 38) (ls' := #[.val (.ref a), .val (.int (i + 1).toInt32), .val (.ref d), .val (.int (i + 1).toInt32), .val (.int cs.length.toInt32), .val (.int i.toInt32), .val (.int cs[i])]) X (1 : Int32) (w := (i + 1).toInt32) d_jdk_52_m21_35 (by decide) rfl (t32s i) rfl rfl ?_
        refine W.iinc (pc' := 41) (ls' := #[.val (.ref a), .val (.int (i + 1).toInt32), .val (.ref d), .val (.int (i + 1).toInt32), .val (.int cs.length.toInt32), .val (.int (i + 1).toInt32), .val (.int cs[i])]) X (1 : Int32) (w := (i + 1).toInt32) d_jdk_52_m21_38 (by decide) rfl (t32s i) rfl rfl ?_
        refine W.goto (pc' := 3) X d_jdk_52_m21_41 (by decide) (by decide) ?_
        have F4 := (A.keep K2 (ninS hne nin0))
        have D9 := A3; rw [cmp_set hi' P3] at D9
        exact ih (i + 1) T h1 _ (by omega) (Or.inr ⟨_, rfl⟩) X (K.trans K2 (allS (Or.inl (List.mem_of_getElem? (i := 0) rfl)) all0)) F4 D9
  refine W.iconst (pc' := 1) X (0 : Int32) d_jdk_52_m21_0 (by decide) rfl ?_
  refine W.istore (pc' := 3) (ls' := #[.val (.ref a), .val (.int (0 : Int32)), .val (.ref d), .val (.int (0 : Int32)), .val (.int cs.length.toInt32), .val (.int (0 : Int32)), .unset]) X d_jdk_52_m21_1 rfl rfl ?_
  exact loop cs.length 0 T h .unset (by omega) (Or.inl rfl) X (Keep.refl _ _) P0 (by simpa using P1)
def c_codl_rm : Room := { frames := 0, cells := 0, slots := 0, locals := 0 }
set_option maxRecDepth 65536 in
set_option maxHeartbeats 40000000 in
theorem c_codl {l : Launch} {Z : State} {a0 : Array Value} {zC : Int32} {fS : Value} {h : Heap} {B : Addr → Prop} {d : Addr} {vs : List Value} {n : Int32} (G : Gl Z a0 zC fS) (hE : En Z B h) (P0 : Ar Z h d .byte vs) (P1 : vs.length.toInt32 = n) : Con l Z consts_1 [] (⟨"java/lang/StringUTF16", "coderFromArrayLen", "([BI)B"⟩ : MethodName) jdk_52_method_15_code 2 (some .byte) c_codl_rm B h #[(.ref d), (.int n)] (fun vR hR BR => vR = some (.int (0 : Int32)) ∧ hR = h ∧ BR = B) := by
  have hz0 := hE.1.1
  refine Con.intro (ls := #[.val (.ref d), .val (.int n)]) (plainFor_of_name pn0) G.2.1 hE (fun m => by first | rfl | (simp [entryFrame, mkF, argsToLocals, Value.category]; done) | rfl) ?_
  intro pP eE sS mM blw mth cC T hs X
  refine W.iloadN (pc' := 1) X d_jdk_52_m15_0 rfl rfl ?_
  refine W.aloadN (pc' := 2) X d_jdk_52_m15_1 rfl rfl rfl ?_
  refine W.alen (pc' := 3) (z := n) X P0 P1 d_jdk_52_m15_2 rfl ?_
  refine W.isub (pc' := 4) (w := (0 : Int32)) X d_jdk_52_m15_3 (Int32.sub_self _) rfl ?_
  refine W.bipush (pc' := 6) X (31 : Int32) d_jdk_52_m15_4 (by decide) rfl ?_
  refine W.iushr (pc' := 7) (w := (0 : Int32)) X d_jdk_52_m15_6 (by decide) rfl ?_
  refine W.i2b (pc' := 8) (w := (0 : Int32)) X d_jdk_52_m15_7 (by decide) rfl ?_
  exact W.ireturn X d_jdk_52_m15_8 rfl (by decide) (by decide) (by decide) (by decide) ⟨rfl, rfl, rfl⟩
abbrev c_cmp3_q (Z : State) (zC : Int32) (fS : Value) (h : Heap) (B : Addr → Prop) (a : Addr) (cs : List Int32) (xR : Value) (h' : Heap) : Prop := ∃ (t : Addr), xR = (.ref t) ∧ Keep h h' [] ∧ h.size ≤ t ∧ Ar Z h' t .byte (by8 cs)
def c_cmp3_rm : Room := { frames := 1, cells := 1, slots := 6, locals := 18 }
set_option maxRecDepth 65536 in
set_option maxHeartbeats 40000000 in
theorem c_cmp3 {l : Launch} {Z : State} {a0 : Array Value} {zC : Int32} {fS : Value} {h : Heap} {B : Addr → Prop} {a : Addr} {cs : List Int32} (G : Gl Z a0 zC fS) (hE : En Z B h) (P0 : Ar Z h a .char (cs.map Value.int)) (P1 : Lat cs) (P2 : cs.length ≤ 6) : Con l Z consts_1 [] (⟨"java/lang/StringUTF16", "compress", "([CII)[B"⟩ : MethodName) jdk_52_method_16_code 6 (some (.array .byte)) c_cmp3_rm B h #[(.ref a), (.int (0 : Int32)), (.int cs.length.toInt32)] (fun vR hR BR => ∃ xR, vR = some xR ∧ BR = B ∧ c_cmp3_q Z zC fS h B a cs xR hR) := by
  have hz0 := hE.1.1
  refine Con.intro (ls := #[.val (.ref a), .val (.int (0 : Int32)), .val (.int cs.length.toInt32), .unset, .unset, .unset]) (plainFor_of_name pn0) G.2.1 hE (fun m => by first | rfl | (simp [entryFrame, mkF, argsToLocals, Value.category]; done) | rfl) ?_
  intro pP eE sS mM blw mth cC T hs X
  refine W.iloadN (pc' := 1) X d_jdk_52_m16_0 rfl rfl ?_
  refine W.newA (aty := .byte) (pc' := 3) (k' := 1) (n' := 6) (cap := 6) X (w17 G) d_jdk_52_m16_1 (len32 (by omega)).1 (by rw [(len32 (by omega)).2.1]; exact P2) (by decide) rfl (by decide) (by decide) (by decide) (by decide) fun T h1 a2 X K3 g4 g5 nb6 A7 => ?_
  have A7 : Ar Z h1 a2 .byte (List.replicate cs.length (.int (0 : Int32))) := by have q := A7; rw [(len32 (by omega)).2.1] at q; exact q
  refine W.astoreN (pc' := 4) (ls' := #[.val (.ref a), .val (.int (0 : Int32)), .val (.int cs.length.toInt32), .val (.ref a2), .unset, .unset]) X d_jdk_52_m16_3 rfl rfl rfl ?_
  refine W.aloadN (pc' := 5) X d_jdk_52_m16_4 rfl rfl rfl ?_
  refine W.iloadN (pc' := 6) X d_jdk_52_m16_5 rfl rfl ?_
  refine W.aloadN (pc' := 7) X d_jdk_52_m16_6 rfl rfl rfl ?_
  refine W.iconst (pc' := 8) X (0 : Int32) d_jdk_52_m16_7 (by decide) rfl ?_
  refine W.iloadN (pc' := 9) X d_jdk_52_m16_8 rfl rfl ?_
  have F8 := (P0.keep K3 nin0)
  refine W.callS (pc' := 12) (W := 0) (argsL := [(.ref a), (.int (0 : Int32)), (.ref a2), (.int (0 : Int32)), (.int cs.length.toInt32)]) (st := []) (k' := 1) (n' := 6) X (c_cmp5 (a := a) (d := a2) (cs := cs) (vs := (List.replicate cs.length (.int (0 : Int32)))) G X.en F8 A7 P1 (by simp) g5 nb6) (w59 G) (w60 G) (w61 G) (w57 G) (by decide) (by decide) (by decide) rfl (lenOf pd1 rfl) rfl rfl (Nat.le_of_eq rfl) d_jdk_52_m16_9 rfl (by decide) (by decide) (by decide) (by decide) (kr fun T h9 xr X z10 q11 => ?_)
  obtain ⟨rfl, K12, F13⟩ := q11
  refine W.istore (pc' := 14) (ls' := #[.val (.ref a), .val (.int (0 : Int32)), .val (.int cs.length.toInt32), .val (.ref a2), .val (.int cs.length.toInt32), .unset]) X d_jdk_52_m16_12 rfl rfl ?_
  refine W.iload (pc' := 16) X d_jdk_52_m16_14 rfl rfl ?_
  refine W.iloadN (pc' := 17) X d_jdk_52_m16_16 rfl rfl ?_
  refine W.icT (pc' := 57) X d_jdk_52_m16_17 (XT.ii_eq_t rfl) (by decide) (by decide) ?_
  refine W.aloadN (pc' := 58) X d_jdk_52_m16_57 rfl rfl rfl ?_
  exact W.areturn X d_jdk_52_m16_58 rfl rfl rfl rfl (by decide) (by decide) ⟨_, rfl, rfl, ⟨a2, rfl, (Keep.trans (Keep.trans (Keep.refl h []) K3 all0) K12 (allS (Or.inr (Nat.le_trans (Nat.le_refl _) g4)) all0)), (Nat.le_trans (Nat.le_refl _) g4), F13⟩⟩
abbrev c_init4_q (Z : State) (zC : Int32) (fS : Value) (h : Heap) (B : Addr → Prop) (x a : Addr) (cs : List Int32) (v0 c0 : Value) (h' : Heap) : Prop := ∃ (t : Addr), Keep h h' [x] ∧ h.size ≤ t ∧ Str Z h' x t cs
def c_init4_rm : Room := { frames := 2, cells := 1, slots := 6, locals := 35 }
set_option maxRecDepth 65536 in
set_option maxHeartbeats 40000000 in
theorem c_init4 {l : Launch} {Z : State} {a0 : Array Value} {zC : Int32} {fS : Value} {h : Heap} {B : Addr → Prop} {x a : Addr} {cs : List Int32} {v0 c0 : Value} (G : Gl Z a0 zC fS) (hE : En Z B h) (P0 : Exa Z h x "java/lang/String") (P1 : Fld Z h x "java/lang/String" "value" "[B" v0) (P2 : Fld Z h x "java/lang/String" "coder" "B" c0) (P3 : Ar Z h a .char (cs.map Value.int)) (P4 : Lat cs) (P5 : 0 < cs.length) (P6 : cs.length ≤ 6) (P7 : Z.heap.size ≤ x) (P8 : ¬ B x) : Con l Z consts_1 [] (⟨"java/lang/String", "<init>", "([CIILjava/lang/Void;)V"⟩ : MethodName) jdk_42_method_149_code 6 none c_init4_rm B h #[(.ref x), (.ref a), (.int (0 : Int32)), (.int cs.length.toInt32), .null] (fun vR hR BR => vR = none ∧ BR = B ∧ c_init4_q Z zC fS h B x a cs v0 c0 hR) := by
  have hz0 := hE.1.1
  refine Con.intro (ls := #[.val (.ref x), .val (.ref a), .val (.int (0 : Int32)), .val (.int cs.length.toInt32), .val .null, .unset]) (plainFor_of_name pn4) G.2.1 hE (fun m => by first | rfl | (simp [entryFrame, mkF, argsToLocals, Value.category]; done) | rfl) ?_
  intro pP eE sS mM blw mth cC T hs X
  refine W.aloadN (pc' := 1) X d_jdk_42_m149_0 rfl rfl rfl ?_
  refine W.initO (pc' := 4) (W := 0) X (w13 G) (w14 G) (w15 G) d_jdk_42_m149_1 rfl (by decide) (Nat.le_of_eq rfl) (by decide) rfl fun T X => ?_
  refine W.iloadN (pc' := 5) X d_jdk_42_m149_4 rfl rfl ?_
  refine W.ifT (pc' := 27) X d_jdk_42_m149_5 (XT.i0_ne_t (fun q => absurd ((eq32 (b := 0) (by omega) (by decide)).mp q) (by omega))) (by decide) (by decide) ?_
  refine W.getS (pc' := 30) (host := "") X (Or.inl (w49 G)) Via.refl G.2.2.1 d_jdk_42_m149_27 rfl fun T X => ?_
  refine W.ifF (pc' := 33) X d_jdk_42_m149_30 (XT.i0_eq_f G.2.2.2.1) rfl ?_
  refine W.aloadN (pc' := 34) X d_jdk_42_m149_33 rfl rfl rfl ?_
  refine W.iloadN (pc' := 35) X d_jdk_42_m149_34 rfl rfl ?_
  refine W.iloadN (pc' := 36) X d_jdk_42_m149_35 rfl rfl ?_
  have en1 := X.en
  refine W.callS (pc' := 39) (W := 0) (argsL := [(.ref a), (.int (0 : Int32)), (.int cs.length.toInt32)]) (st := []) (k' := 1) (n' := 6) X (c_cmp3 (a := a) (cs := cs) G X.en P3 P4 P6) (w55 G) (w56 G) (w58 G) (w57 G) (by decide) (by decide) (by decide) rfl (lenOf pd2 rfl) rfl rfl (Nat.le_of_eq rfl) d_jdk_42_m149_36 rfl (by decide) (by decide) (by decide) (by decide) (kr fun T h2 xr X z3 q4 => ?_)
  obtain ⟨a5, rfl, K6, g7, F8⟩ := q4
  have g9 : Z.heap.size ≤ a5 := Nat.le_trans (Nat.le_trans hz0 (Nat.le_refl _)) g7
  have nb10 : ¬ B a5 := fun q => absurd (en1.2 _ q) (Nat.not_lt.mpr g7)
  refine W.astore (pc' := 41) (ls' := #[.val (.ref x), .val (.ref a), .val (.int (0 : Int32)), .val (.int cs.length.toInt32), .val .null, .val (.ref a5)]) X d_jdk_42_m149_39 rfl rfl rfl ?_
  refine W.aloadN (pc' := 42) X d_jdk_42_m149_41 rfl rfl rfl ?_
  refine W.aload (pc' := 44) X d_jdk_42_m149_42 rfl rfl rfl ?_
  refine W.iloadN (pc' := 45) X d_jdk_42_m149_44 rfl rfl ?_
  refine W.callS (pc' := 48) (W := 1) (argsL := [(.ref a5), (.int cs.length.toInt32)]) (st := [(.ref x)]) (k' := 1) (n' := 6) X (c_codl (d := a5) (vs := (by8 cs)) (n := cs.length.toInt32) G X.en F8 (by simp)) (w62 G) (w63 G) (w64 G) (w57 G) (by decide) (by decide) (by decide) rfl (lenOf pd3 rfl) rfl rfl (Nat.le_of_eq rfl) d_jdk_42_m149_45 rfl (by decide) (by decide) (by decide) (by decide) (kp fun T X => ?_)
  have F11 := (P2.keep K6 nin0)
  have F12 := (P0.keep K6)
  refine W.putF (pc' := 51) X (w23 G) Via.refl F11 F12 (Or.inr ⟨(w19 G), rfl, rfl⟩) (w4 G) (ty := .byte) (by decide) (by decide) (by decide) P7 P8 d_jdk_42_m149_48 rfl fun T h13 X W14 => ?_
  have F15 := F11.same W14
  refine W.aloadN (pc' := 52) X d_jdk_42_m149_51 rfl rfl rfl ?_
  refine W.aload (pc' := 54) X d_jdk_42_m149_52 rfl rfl rfl ?_
  have F16 := ((P1.keep K6 nin0).other W14 (Or.inr (slot_ne (Or.inr (w18 G)) (Or.inr (w19 G)) (by decide) (t := (.array .byte)) (t' := .byte) (by decide) (by decide))))
  have F17 := (F12.wr W14)
  refine W.putF (pc' := 57) X (w22 G) Via.refl F16 F17 (Or.inr ⟨(w18 G), rfl, rfl⟩) (w4 G) (ty := (.array .byte)) (by decide) rfl rfl P7 P8 d_jdk_42_m149_54 rfl fun T h18 X W19 => ?_
  have F20 := F16.same W19
  have F21 := (F17.wr W19)
  have F22 := (F15.other W19 (Or.inr (slot_ne (Or.inr (w19 G)) (Or.inr (w18 G)) (by decide) (t := .byte) (t' := (.array .byte)) (by decide) (by decide))))
  have F23 := ((F8.keep (Keep.of_wr W14) (ninS (Nat.ne_of_gt (Nat.lt_of_lt_of_le P0.lt (Nat.le_trans (Nat.le_refl _) g7))) nin0)).keep (Keep.of_wr W19) (ninS (Nat.ne_of_gt (Nat.lt_of_lt_of_le P0.lt (Nat.le_trans (Nat.le_refl _) g7))) nin0))
  exact W.vreturn X d_jdk_42_m149_57 rfl (by decide) (by decide) ⟨rfl, rfl, ⟨a5, (Keep.wr (Keep.wr (Keep.trans (Keep.refl h [x]) K6 all0) W14 (Or.inl (List.mem_of_getElem? (i := 0) rfl))) W19 (Or.inl (List.mem_of_getElem? (i := 0) rfl))), (Nat.le_trans (Nat.le_refl _) g7), ⟨F21, F22, F20, F23, P4⟩⟩⟩
abbrev c_init1_q (Z : State) (zC : Int32) (fS : Value) (h : Heap) (B : Addr → Prop) (x a : Addr) (cs : List Int32) (v0 c0 : Value) (h' : Heap) : Prop := ∃ (t : Addr), Keep h h' [x] ∧ h.size ≤ t ∧ Str Z h' x t cs
def c_init1_rm : Room := { frames := 3, cells := 1, slots := 6, locals := 52 }
set_option maxRecDepth 65536 in
set_option maxHeartbeats 40000000 in
theorem c_init1 {l : Launch} {Z : State} {a0 : Array Value} {zC : Int32} {fS : Value} {h : Heap} {B : Addr → Prop} {x a : Addr} {cs : List Int32} {v0 c0 : Value} (G : Gl Z a0 zC fS) (hE : En Z B h) (P0 : Exa Z h x "java/lang/String") (P1 : Fld Z h x "java/lang/String" "value" "[B" v0) (P2 : Fld Z h x "java/lang/String" "coder" "B" c0) (P3 : Ar Z h a .char (cs.map Value.int)) (P4 : Lat cs) (P5 : 0 < cs.length) (P6 : cs.length ≤ 6) (P7 : Z.heap.size ≤ x) (P8 : ¬ B x) : Con l Z consts_1 [] (⟨"java/lang/String", "<init>", "([C)V"⟩ : MethodName) jdk_42_method_3_code 2 none c_init1_rm B h #[(.ref x), (.ref a)] (fun vR hR BR => vR = none ∧ BR = B ∧ c_init1_q Z zC fS h B x a cs v0 c0 hR) := by
  have hz0 := hE.1.1
  refine Con.intro (ls := #[.val (.ref x), .val (.ref a)]) (plainFor_of_name pn4) G.2.1 hE (fun m => by first | rfl | (simp [entryFrame, mkF, argsToLocals, Value.category]; done) | rfl) ?_
  intro pP eE sS mM blw mth cC T hs X
  refine W.aloadN (pc' := 1) X d_jdk_42_m3_0 rfl rfl rfl ?_
  refine W.aloadN (pc' := 2) X d_jdk_42_m3_1 rfl rfl rfl ?_
  refine W.iconst (pc' := 3) X (0 : Int32) d_jdk_42_m3_2 (by decide) rfl ?_
  refine W.aloadN (pc' := 4) X d_jdk_42_m3_3 rfl rfl rfl ?_
  refine W.alen (pc' := 5) (z := cs.length.toInt32) X P3 (by simp) d_jdk_42_m3_4 rfl ?_
  refine W.aconst_null (pc' := 6) X d_jdk_42_m3_5 rfl ?_
  have en1 := X.en
  refine W.callN (pc' := 9) (W := 0) (argsL := [(.ref a), (.int (0 : Int32)), (.int cs.length.toInt32), .null]) (st := []) (k' := 1) (n' := 6) (a := x) X (c_init4 (x := x) (a := a) (cs := cs) (v0 := v0) (c0 := c0) G X.en P0 P1 P2 P3 P4 P5 P6 P7 P8) rfl (w9 G) (w10 G) (w12 G) (w5 G) (by decide) (by decide) (by decide) rfl (lenOf pd5 rfl) rfl rfl (Nat.le_of_eq rfl) d_jdk_42_m3_6 rfl (by decide) (by decide) (by decide) (by decide) (kv fun T h2 X z3 q4 => ?_)
  obtain ⟨a5, K6, g7, F8⟩ := q4
  have g9 : Z.heap.size ≤ a5 := Nat.le_trans (Nat.le_trans hz0 (Nat.le_refl _)) g7
  have nb10 : ¬ B a5 := fun q => absurd (en1.2 _ q) (Nat.not_lt.mpr g7)
  exact W.vreturn X d_jdk_42_m3_9 rfl (by decide) (by decide) ⟨rfl, rfl, ⟨a5, (Keep.trans (Keep.refl h [x]) K6 (allS (Or.inl (List.mem_of_getElem? (i := 0) rfl)) all0)), (Nat.le_trans (Nat.le_refl _) g7), F8⟩⟩
abbrev c_init4e_q (Z : State) (zC : Int32) (fS : Value) (h : Heap) (B : Addr → Prop) (x a : Addr) (v0 c0 : Value) (h' : Heap) (B' : Addr → Prop) : Prop := ∃ (t : Addr), Keep h h' [x] ∧ Str Z h' x t ([] : List Int32)
def c_init4e_rm : Room := { frames := 1, cells := 4, slots := 8, locals := 12 }
set_option maxRecDepth 65536 in
set_option maxHeartbeats 40000000 in
theorem c_init4e {l : Launch} {Z : State} {a0 : Array Value} {zC : Int32} {fS : Value} {h : Heap} {B : Addr → Prop} {x a : Addr} {v0 c0 : Value} (G : Gl Z a0 zC fS) (hE : En Z B h) (P0 : Exa Z h x "java/lang/String") (P1 : Fld Z h x "java/lang/String" "value" "[B" v0) (P2 : Fld Z h x "java/lang/String" "coder" "B" c0) (P3 : Z.heap.size ≤ x) (P4 : ¬ B x) : Con l Z consts_1 [] (⟨"java/lang/String", "<init>", "([CIILjava/lang/Void;)V"⟩ : MethodName) jdk_42_method_149_code 6 none c_init4e_rm B h #[(.ref x), (.ref a), (.int (0 : Int32)), (.int (0 : Int32)), .null] (fun vR hR BR => vR = none ∧ c_init4e_q Z zC fS h B x a v0 c0 hR BR) := by
  have hz0 := hE.1.1
  refine Con.intro (ls := #[.val (.ref x), .val (.ref a), .val (.int (0 : Int32)), .val (.int (0 : Int32)), .val .null, .unset]) (plainFor_of_name pn4) G.2.1 hE (fun m => by first | rfl | (simp [entryFrame, mkF, argsToLocals, Value.category]; done) | rfl) ?_
  intro pP eE sS mM blw mth cC T hs X
  refine W.aloadN (pc' := 1) X d_jdk_42_m149_0 rfl rfl rfl ?_
  refine W.initO (pc' := 4) (W := 0) X (w13 G) (w14 G) (w15 G) d_jdk_42_m149_1 rfl (by decide) (Nat.le_of_eq rfl) (by decide) rfl fun T X => ?_
  refine W.iloadN (pc' := 5) X d_jdk_42_m149_4 rfl rfl ?_
  refine W.ifF (pc' := 8) X d_jdk_42_m149_5 (by decide) rfl ?_
  refine W.aloadN (pc' := 9) X d_jdk_42_m149_8 rfl rfl rfl ?_
  refine W.ldcR (pc' := 11) (k' := 2) (n' := 4) (cap := 0) (cs := []) X (by decide) (w16 G) (watoms G) G.2.1 ⟨by decide, by decide⟩ (by unfold Lat; decide) (by decide) d_jdk_42_m149_9 (by decide) (by decide) rfl (by decide) (by decide) (by decide) (by decide) fun T h1 B5 a2 a6 X K3 zb4 S7 ne8 => ?_
  have nb9 : ¬ B5 x := fun q => (zb4 _ q).elim P4 (fun r => absurd (Nat.lt_of_lt_of_le P0.lt (Nat.le_refl _)) (Nat.not_lt.mpr r))
  have ne10 := ne8 _ nb9
  refine W.getF (pc' := 14) X (w22 G) Via.refl S7.val d_jdk_42_m149_11 rfl fun T X => ?_
  have F11 := (P1.keep K3 nin0)
  have F12 := (P0.keep K3)
  refine W.putF (pc' := 17) X (w22 G) Via.refl F11 F12 (Or.inr ⟨(w18 G), rfl, rfl⟩) (w4 G) (ty := (.array .byte)) (by decide) rfl rfl P3 nb9 d_jdk_42_m149_14 rfl fun T h13 X W14 => ?_
  have F15 := F11.same W14
  refine W.aloadN (pc' := 18) X d_jdk_42_m149_17 rfl rfl rfl ?_
  refine W.ldcR (pc' := 20) (k' := 4) (n' := 8) (cap := 0) (cs := []) X (by decide) (w16 G) (watoms G) G.2.1 ⟨by decide, by decide⟩ (by unfold Lat; decide) (by decide) d_jdk_42_m149_18 (by decide) (by decide) rfl (by decide) (by decide) (by decide) (by decide) fun T h16 B20 a17 a21 X K18 zb19 S22 ne23 => ?_
  have nb24 : ¬ B20 x := fun q => (zb19 _ q).elim nb9 (fun r => absurd (Nat.lt_of_lt_of_le P0.lt (Nat.le_trans K3.1 (Nat.le_of_eq (Wr.size W14).symm))) (Nat.not_lt.mpr r))
  have ne25 := ne23 _ nb24
  refine W.getF (pc' := 23) X (w23 G) Via.refl S22.cod d_jdk_42_m149_20 rfl fun T X => ?_
  have F26 := (((P2.keep K3 nin0).other W14 (Or.inr (slot_ne (Or.inr (w19 G)) (Or.inr (w18 G)) (by decide) (t := .byte) (t' := (.array .byte)) (by decide) (by decide)))).keep K18 nin0)
  have F27 := ((F12.wr W14).keep K18)
  refine W.putF (pc' := 26) X (w23 G) Via.refl F26 F27 (Or.inr ⟨(w19 G), rfl, rfl⟩) (w4 G) (ty := .byte) (by decide) (by decide) (by decide) P3 nb24 d_jdk_42_m149_23 rfl fun T h28 X W29 => ?_
  have F30 := F26.same W29
  have F31 := (F27.wr W29)
  have F32 := ((F15.keep K18 nin0).other W29 (Or.inr (slot_ne (Or.inr (w18 G)) (Or.inr (w19 G)) (by decide) (t := (.array .byte)) (t' := .byte) (by decide) (by decide))))
  have F33 := (((S7.keep (Keep.of_wr W14) (ninS (Ne.symm ne10.1) nin0) (ninS (Ne.symm ne10.2) nin0)).keep K18 nin0 nin0).keep (Keep.of_wr W29) (ninS (Ne.symm ne10.1) nin0) (ninS (Ne.symm ne10.2) nin0))
  exact W.vreturn X d_jdk_42_m149_26 rfl (by decide) (by decide) ⟨rfl, ⟨a6, (Keep.wr (Keep.trans (Keep.wr (Keep.trans (Keep.refl h [x]) K3 all0) W14 (Or.inl (List.mem_of_getElem? (i := 0) rfl))) K18 all0) W29 (Or.inl (List.mem_of_getElem? (i := 0) rfl))), ⟨F31, F30, F32, F33.arr, (fun _ q => nomatch q)⟩⟩⟩
abbrev c_init1e_q (Z : State) (zC : Int32) (fS : Value) (h : Heap) (B : Addr → Prop) (x a : Addr) (v0 c0 : Value) (h' : Heap) (B' : Addr → Prop) : Prop := ∃ (t : Addr), Keep h h' [x] ∧ Str Z h' x t ([] : List Int32)
def c_init1e_rm : Room := { frames := 2, cells := 4, slots := 8, locals := 29 }
set_option maxRecDepth 65536 in
set_option maxHeartbeats 40000000 in
theorem c_init1e {l : Launch} {Z : State} {a0 : Array Value} {zC : Int32} {fS : Value} {h : Heap} {B : Addr → Prop} {x a : Addr} {v0 c0 : Value} (G : Gl Z a0 zC fS) (hE : En Z B h) (P0 : Exa Z h x "java/lang/String") (P1 : Fld Z h x "java/lang/String" "value" "[B" v0) (P2 : Fld Z h x "java/lang/String" "coder" "B" c0) (P3 : Ar Z h a .char ([])) (P4 : Z.heap.size ≤ x) (P5 : ¬ B x) : Con l Z consts_1 [] (⟨"java/lang/String", "<init>", "([C)V"⟩ : MethodName) jdk_42_method_3_code 2 none c_init1e_rm B h #[(.ref x), (.ref a)] (fun vR hR BR => vR = none ∧ c_init1e_q Z zC fS h B x a v0 c0 hR BR) := by
  have hz0 := hE.1.1
  refine Con.intro (ls := #[.val (.ref x), .val (.ref a)]) (plainFor_of_name pn4) G.2.1 hE (fun m => by first | rfl | (simp [entryFrame, mkF, argsToLocals, Value.category]; done) | rfl) ?_
  intro pP eE sS mM blw mth cC T hs X
  refine W.aloadN (pc' := 1) X d_jdk_42_m3_0 rfl rfl rfl ?_
  refine W.aloadN (pc' := 2) X d_jdk_42_m3_1 rfl rfl rfl ?_
  refine W.iconst (pc' := 3) X (0 : Int32) d_jdk_42_m3_2 (by decide) rfl ?_
  refine W.aloadN (pc' := 4) X d_jdk_42_m3_3 rfl rfl rfl ?_
  refine W.alen (pc' := 5) (z := (0 : Int32)) X P3 rfl d_jdk_42_m3_4 rfl ?_
  refine W.aconst_null (pc' := 6) X d_jdk_42_m3_5 rfl ?_
  refine W.callN (pc' := 9) (W := 0) (argsL := [(.ref a), (.int (0 : Int32)), (.int (0 : Int32)), .null]) (st := []) (k' := 4) (n' := 8) (a := x) X (c_init4e (x := x) (a := a) (v0 := v0) (c0 := c0) G X.en P0 P1 P2 P4 P5) rfl (w9 G) (w10 G) (w12 G) (w5 G) (by decide) (by decide) (by decide) rfl (lenOf pd5 rfl) rfl rfl (Nat.le_of_eq rfl) d_jdk_42_m3_6 rfl (by decide) (by decide) (by decide) (by decide) (kvi fun T h1 B4 X z2 zb5 q3 => ?_)
  obtain ⟨a6, K7, F8⟩ := q3
  exact W.vreturn X d_jdk_42_m3_9 rfl (by decide) (by decide) ⟨rfl, ⟨a6, (Keep.trans (Keep.refl h [x]) K7 (allS (Or.inl (List.mem_of_getElem? (i := 0) rfl)) all0)), F8⟩⟩
def c_coder_rm : Room := { frames := 0, cells := 0, slots := 0, locals := 0 }
set_option maxRecDepth 65536 in
set_option maxHeartbeats 40000000 in
theorem c_coder {l : Launch} {Z : State} {a0 : Array Value} {zC : Int32} {fS : Value} {h : Heap} {B : Addr → Prop} {a b : Addr} {cs : List Int32} (G : Gl Z a0 zC fS) (hE : En Z B h) (P0 : Str Z h a b cs) : Con l Z consts_1 [] (⟨"java/lang/String", "coder", "()B"⟩ : MethodName) jdk_42_method_152_code 1 (some .byte) c_coder_rm B h #[(.ref a)] (fun vR hR BR => vR = some (.int (0 : Int32)) ∧ hR = h ∧ BR = B) := by
  have hz0 := hE.1.1
  refine Con.intro (ls := #[.val (.ref a)]) (plainFor_of_name pn4) G.2.1 hE (fun m => by first | rfl | (simp [entryFrame, mkF, argsToLocals, Value.category]; done) | rfl) ?_
  intro pP eE sS mM blw mth cC T hs X
  refine W.getS (pc' := 3) (host := "") X (Or.inl (w49 G)) Via.refl G.2.2.1 d_jdk_42_m152_0 rfl fun T X => ?_
  refine W.ifF (pc' := 6) X d_jdk_42_m152_3 (XT.i0_eq_f G.2.2.2.1) rfl ?_
  refine W.aloadN (pc' := 7) X d_jdk_42_m152_6 rfl rfl rfl ?_
  refine W.getF (pc' := 10) X (w23 G) Via.refl P0.cod d_jdk_42_m152_7 rfl fun T X => ?_
  refine W.goto (pc' := 14) X d_jdk_42_m152_10 (by decide) (by decide) ?_
  exact W.ireturn X d_jdk_42_m152_14 rfl (by decide) (by decide) (by decide) (by decide) ⟨rfl, rfl, rfl⟩
def c_len_rm : Room := { frames := 1, cells := 0, slots := 0, locals := 13 }
set_option maxRecDepth 65536 in
set_option maxHeartbeats 40000000 in
theorem c_len {l : Launch} {Z : State} {a0 : Array Value} {zC : Int32} {fS : Value} {h : Heap} {B : Addr → Prop} {a b : Addr} {cs : List Int32} (G : Gl Z a0 zC fS) (hE : En Z B h) (P0 : Str Z h a b cs) : Con l Z consts_1 [] (⟨"java/lang/String", "length", "()I"⟩ : MethodName) jdk_42_method_54_code 1 (some .int) c_len_rm B h #[(.ref a)] (fun vR hR BR => vR = some (.int cs.length.toInt32) ∧ hR = h ∧ BR = B) := by
  have hz0 := hE.1.1
  refine Con.intro (ls := #[.val (.ref a)]) (plainFor_of_name pn4) G.2.1 hE (fun m => by first | rfl | (simp [entryFrame, mkF, argsToLocals, Value.category]; done) | rfl) ?_
  intro pP eE sS mM blw mth cC T hs X
  refine W.aloadN (pc' := 1) X d_jdk_42_m54_0 rfl rfl rfl ?_
  refine W.getF (pc' := 4) X (w22 G) Via.refl P0.val d_jdk_42_m54_1 rfl fun T X => ?_
  refine W.alen (pc' := 5) (z := (cs).length.toInt32) X P0.arr (by simp) d_jdk_42_m54_4 rfl ?_
  refine W.aloadN (pc' := 6) X d_jdk_42_m54_5 rfl rfl rfl ?_
  refine W.callV (pc' := 9) (W := 1) (argsL := []) (st := [(.int (cs).length.toInt32)]) (k' := 0) (n' := 0) (a := a) X (c_coder (a := a) (b := b) (cs := cs) G X.en P0) (w44 G) (w45 G) (nfM (z' := (⟨"java/lang/String", "startsWith", "(Ljava/lang/String;)Z"⟩ : MethodName)) rfl (w32 G)) (w47 G) (w46 G) P0.exa (w48 G) (w5 G) (by decide) (by decide) (by decide) rfl (lenOf pd6 rfl) rfl rfl (Nat.le_of_eq rfl) d_jdk_42_m54_6 rfl (by decide) (by decide) (by decide) (by decide) (kp fun T X => ?_)
  refine W.ishr (pc' := 10) (w := cs.length.toInt32) X d_jdk_42_m54_9 (shr0 _) rfl ?_
  exact W.ireturn X d_jdk_42_m54_10 rfl (by decide) rfl (by decide) (by decide) ⟨rfl, rfl, rfl⟩
def c_lat1_rm : Room := { frames := 0, cells := 0, slots := 0, locals := 0 }
set_option maxRecDepth 65536 in
set_option maxHeartbeats 40000000 in
theorem c_lat1 {l : Launch} {Z : State} {a0 : Array Value} {zC : Int32} {fS : Value} {h : Heap} {B : Addr → Prop} {a b : Addr} {cs : List Int32} (G : Gl Z a0 zC fS) (hE : En Z B h) (P0 : Str Z h a b cs) : Con l Z consts_1 [] (⟨"java/lang/String", "isLatin1", "()Z"⟩ : MethodName) jdk_42_method_154_code 1 (some .boolean) c_lat1_rm B h #[(.ref a)] (fun vR hR BR => vR = some (.int (1 : Int32)) ∧ hR = h ∧ BR = B) := by
  have hz0 := hE.1.1
  refine Con.intro (ls := #[.val (.ref a)]) (plainFor_of_name pn4) G.2.1 hE (fun m => by first | rfl | (simp [entryFrame, mkF, argsToLocals, Value.category]; done) | rfl) ?_
  intro pP eE sS mM blw mth cC T hs X
  refine W.getS (pc' := 3) (host := "") X (Or.inl (w49 G)) Via.refl G.2.2.1 d_jdk_42_m154_0 rfl fun T X => ?_
  refine W.ifF (pc' := 6) X d_jdk_42_m154_3 (XT.i0_eq_f G.2.2.2.1) rfl ?_
  refine W.aloadN (pc' := 7) X d_jdk_42_m154_6 rfl rfl rfl ?_
  refine W.getF (pc' := 10) X (w23 G) Via.refl P0.cod d_jdk_42_m154_7 rfl fun T X => ?_
  refine W.ifF (pc' := 13) X d_jdk_42_m154_10 (by decide) rfl ?_
  refine W.iconst (pc' := 14) X (1 : Int32) d_jdk_42_m154_13 (by decide) rfl ?_
  refine W.goto (pc' := 18) X d_jdk_42_m154_14 (by decide) (by decide) ?_
  exact W.ireturn X d_jdk_42_m154_18 rfl (by decide) (by decide) (by decide) (by decide) ⟨rfl, rfl, rfl⟩
def c_chk_rm : Room := { frames := 0, cells := 0, slots := 0, locals := 0 }
set_option maxRecDepth 65536 in
set_option maxHeartbeats 40000000 in
theorem c_chk {l : Launch} {Z : State} {a0 : Array Value} {zC : Int32} {fS : Value} {h : Heap} {B : Addr → Prop} {i n : Int32} {f : Value} (G : Gl Z a0 zC fS) (hE : En Z B h) (P0 : ¬ i < 0) (P1 : i < n) (P2 : f.isRef = true) : Con l Z consts_1 [] (⟨"jdk/internal/util/Preconditions", "checkIndex", "(IILjava/util/function/BiFunction;)I"⟩ : MethodName) jdk_41_method_11_code 3 (some .int) c_chk_rm B h #[(.int i), (.int n), f] (fun vR hR BR => vR = some (.int i) ∧ hR = h ∧ BR = B) := by
  have hz0 := hE.1.1
  refine Con.intro (ls := #[.val (.int i), .val (.int n), .val f]) (plainFor_of_name pn7) G.2.1 hE (fun m => by cases f <;> first | rfl | (exact absurd P2 (by simp [Value.isRef])) | first | rfl | (simp [entryFrame, mkF, argsToLocals, Value.category]; done) | rfl) ?_
  intro pP eE sS mM blw mth cC T hs X
  refine W.iloadN (pc' := 1) X d_jdk_41_m11_0 rfl rfl ?_
  refine W.ifF (pc' := 4) X d_jdk_41_m11_1 (XT.i0_lt_f P0) rfl ?_
  refine W.iloadN (pc' := 5) X d_jdk_41_m11_4 rfl rfl ?_
  refine W.iloadN (pc' := 6) X d_jdk_41_m11_5 rfl rfl ?_
  refine W.icT (pc' := 16) X d_jdk_41_m11_6 (XT.ii_lt_t P1) (by decide) (by decide) ?_
  refine W.iloadN (pc' := 17) X d_jdk_41_m11_16 rfl rfl ?_
  exact W.ireturn X d_jdk_41_m11_17 rfl (by decide) rfl (by decide) (by decide) ⟨rfl, rfl, rfl⟩
def c_schk_rm : Room := { frames := 1, cells := 0, slots := 0, locals := 14 }
set_option maxRecDepth 65536 in
set_option maxHeartbeats 40000000 in
theorem c_schk {l : Launch} {Z : State} {a0 : Array Value} {zC : Int32} {fS : Value} {h : Heap} {B : Addr → Prop} {i n : Int32} (G : Gl Z a0 zC fS) (hE : En Z B h) (P0 : ¬ i < 0) (P1 : i < n) : Con l Z consts_1 [] (⟨"java/lang/String", "checkIndex", "(II)V"⟩ : MethodName) jdk_42_method_155_code 2 none c_schk_rm B h #[(.int i), (.int n)] (fun vR hR BR => vR = none ∧ hR = h ∧ BR = B) := by
  have hz0 := hE.1.1
  refine Con.intro (ls := #[.val (.int i), .val (.int n)]) (plainFor_of_name pn4) G.2.1 hE (fun m => by first | rfl | (simp [entryFrame, mkF, argsToLocals, Value.category]; done) | rfl) ?_
  intro pP eE sS mM blw mth cC T hs X
  refine W.iloadN (pc' := 1) X d_jdk_42_m155_0 rfl rfl ?_
  refine W.iloadN (pc' := 2) X d_jdk_42_m155_1 rfl rfl ?_
  refine W.getS (pc' := 5) (host := "") X (Or.inl (w86 G)) Via.refl G.2.2.2.2.1 d_jdk_42_m155_2 rfl fun T X => ?_
  refine W.callS (pc' := 8) (W := 0) (argsL := [(.int i), (.int n), fS]) (st := []) (k' := 0) (n' := 0) X (c_chk (i := i) (n := n) (f := fS) G X.en P0 P1 G.2.2.2.2.2.1) (w88 G) (w89 G) (w90 G) (w87 G) (by decide) (by decide) (by decide) rfl (lenOf pd8 rfl) rfl rfl (Nat.le_of_eq rfl) d_jdk_42_m155_5 rfl (by decide) (by decide) (by decide) (by decide) (kp fun T X => ?_)
  refine W.popV (pc' := 9) X d_jdk_42_m155_8 rfl rfl ?_
  exact W.vreturn X d_jdk_42_m155_9 rfl (by decide) (by decide) ⟨rfl, rfl, rfl⟩
def c_l1ch_rm : Room := { frames := 2, cells := 0, slots := 0, locals := 27 }
set_option maxRecDepth 65536 in
set_option maxHeartbeats 40000000 in
theorem c_l1ch {l : Launch} {Z : State} {a0 : Array Value} {zC : Int32} {fS : Value} {h : Heap} {B : Addr → Prop} {b : Addr} {cs : List Int32} {i : Nat} (G : Gl Z a0 zC fS) (hE : En Z B h) (P0 : Ar Z h b .byte (by8 cs)) (P1 : Lat cs) (P2 : i < cs.length) : Con l Z consts_1 [] (⟨"java/lang/StringLatin1", "charAt", "([BI)C"⟩ : MethodName) jdk_43_method_2_code 2 (some .char) c_l1ch_rm B h #[(.ref b), (.int i.toInt32)] (fun vR hR BR => vR = some (.int (cs.getD i 0)) ∧ hR = h ∧ BR = B) := by
  have hz0 := hE.1.1
  refine Con.intro (ls := #[.val (.ref b), .val (.int i.toInt32)]) (plainFor_of_name pn10) G.2.1 hE (fun m => by first | rfl | (simp [entryFrame, mkF, argsToLocals, Value.category]; done) | rfl) ?_
  intro pP eE sS mM blw mth cC T hs X
  have hL := P0.len_lt; rw [List.length_map] at hL
  refine W.iloadN (pc' := 1) X d_jdk_43_m2_0 rfl rfl ?_
  refine W.aloadN (pc' := 2) X d_jdk_43_m2_1 rfl rfl rfl ?_
  refine W.alen (pc' := 3) (z := cs.length.toInt32) X P0 (by simp) d_jdk_43_m2_2 rfl ?_
  refine W.callS (pc' := 6) (W := 0) (argsL := [(.int i.toInt32), (.int cs.length.toInt32)]) (st := []) (k' := 0) (n' := 0) X (c_schk (i := i.toInt32) (n := cs.length.toInt32) G X.en (len32 (by omega)).1 ((lt32 (by omega) hL).mpr P2)) (w83 G) (w84 G) (w85 G) (w5 G) (by decide) (by decide) (by decide) rfl (lenOf pd9 rfl) rfl rfl (Nat.le_of_eq rfl) d_jdk_43_m2_3 rfl (by decide) (by decide) (by decide) (by decide) (kpv fun T X => ?_)
  refine W.aloadN (pc' := 7) X d_jdk_43_m2_6 rfl rfl rfl ?_
  refine W.iloadN (pc' := 8) X d_jdk_43_m2_7 rfl rfl ?_
  refine W.baload (pc' := 9) (v := (.int (cs.getD i 0).toInt8.toInt32)) X P0 (len32 (by omega)).1 (by8_get P2 hL) d_jdk_43_m2_8 rfl ?_
  refine W.sipush (pc' := 12) X (255 : Int32) d_jdk_43_m2_9 (by decide) rfl ?_
  refine W.iand (pc' := 13) (w := (cs.getD i 0)) X d_jdk_43_m2_12 (lo8m (P1.at P2)) rfl ?_
  refine W.i2c (pc' := 14) (w := (cs.getD i 0)) X d_jdk_43_m2_13 (i2cx (to16 (P1.at P2))) rfl ?_
  exact W.ireturn X d_jdk_43_m2_14 rfl (by decide) (narc (to16 (P1.at P2))) (by decide) (by decide) ⟨rfl, rfl, rfl⟩
def c_ch_rm : Room := { frames := 3, cells := 0, slots := 0, locals := 40 }
set_option maxRecDepth 65536 in
set_option maxHeartbeats 40000000 in
theorem c_ch {l : Launch} {Z : State} {a0 : Array Value} {zC : Int32} {fS : Value} {h : Heap} {B : Addr → Prop} {a b : Addr} {cs : List Int32} {i : Nat} (G : Gl Z a0 zC fS) (hE : En Z B h) (P0 : Str Z h a b cs) (P1 : i < cs.length) : Con l Z consts_1 [] (⟨"java/lang/String", "charAt", "(I)C"⟩ : MethodName) jdk_42_method_56_code 2 (some .char) c_ch_rm B h #[(.ref a), (.int i.toInt32)] (fun vR hR BR => vR = some (.int (cs.getD i 0)) ∧ hR = h ∧ BR = B) := by
  have hz0 := hE.1.1
  refine Con.intro (ls := #[.val (.ref a), .val (.int i.toInt32)]) (plainFor_of_name pn4) G.2.1 hE (fun m => by first | rfl | (simp [entryFrame, mkF, argsToLocals, Value.category]; done) | rfl) ?_
  intro pP eE sS mM blw mth cC T hs X
  refine W.aloadN (pc' := 1) X d_jdk_42_m56_0 rfl rfl rfl ?_
  refine W.callV (pc' := 4) (W := 0) (argsL := []) (st := []) (k' := 0) (n' := 0) (a := a) X (c_lat1 (a := a) (b := b) (cs := cs) G X.en P0) (w74 G) (w75 G) (nfM (z' := (⟨"java/lang/String", "startsWith", "(Ljava/lang/String;)Z"⟩ : MethodName)) rfl (w32 G)) (w77 G) (w76 G) P0.exa (w78 G) (w5 G) (by decide) (by decide) (by decide) rfl (lenOf pd11 rfl) rfl rfl (Nat.le_of_eq rfl) d_jdk_42_m56_1 rfl (by decide) (by decide) (by decide) (by decide) (kp fun T X => ?_)
  refine W.ifF (pc' := 7) X d_jdk_42_m56_4 (by decide) rfl ?_
  refine W.aloadN (pc' := 8) X d_jdk_42_m56_7 rfl rfl rfl ?_
  refine W.getF (pc' := 11) X (w22 G) Via.refl P0.val d_jdk_42_m56_8 rfl fun T X => ?_
  refine W.iloadN (pc' := 12) X d_jdk_42_m56_11 rfl rfl ?_
  refine W.callS (pc' := 15) (W := 0) (argsL := [(.ref b), (.int i.toInt32)]) (st := []) (k' := 0) (n' := 0) X (c_l1ch (b := b) (cs := cs) (i := i) G X.en P0.arr P0.lat P1) (w79 G) (w80 G) (w82 G) (w81 G) (by decide) (by decide) (by decide) rfl (lenOf pd12 rfl) rfl rfl (Nat.le_of_eq rfl) d_jdk_42_m56_12 rfl (by decide) (by decide) (by decide) (by decide) (kp fun T X => ?_)
  exact W.ireturn X d_jdk_42_m56_15 rfl (by decide) (narc (to16 (P0.lat.at P1))) (by decide) (by decide) ⟨rfl, rfl, rfl⟩
def c_coderU_rm : Room := { frames := 0, cells := 0, slots := 0, locals := 0 }
set_option maxRecDepth 65536 in
set_option maxHeartbeats 40000000 in
theorem c_coderU {l : Launch} {Z : State} {a0 : Array Value} {zC : Int32} {fS : Value} {h : Heap} {B : Addr → Prop} {r rb : Addr} {cs : List Int32} (G : Gl Z a0 zC fS) (hE : En Z B h) (P0 : Su Z h r rb cs) : Con l Z consts_1 [] (⟨"java/lang/String", "coder", "()B"⟩ : MethodName) jdk_42_method_152_code 1 (some .byte) c_coderU_rm B h #[(.ref r)] (fun vR hR BR => vR = some (.int (1 : Int32)) ∧ hR = h ∧ BR = B) := by
  have hz0 := hE.1.1
  refine Con.intro (ls := #[.val (.ref r)]) (plainFor_of_name pn4) G.2.1 hE (fun m => by first | rfl | (simp [entryFrame, mkF, argsToLocals, Value.category]; done) | rfl) ?_
  intro pP eE sS mM blw mth cC T hs X
  refine W.getS (pc' := 3) (host := "") X (Or.inl (w49 G)) Via.refl G.2.2.1 d_jdk_42_m152_0 rfl fun T X => ?_
  refine W.ifF (pc' := 6) X d_jdk_42_m152_3 (XT.i0_eq_f G.2.2.2.1) rfl ?_
  refine W.aloadN (pc' := 7) X d_jdk_42_m152_6 rfl rfl rfl ?_
  refine W.getF (pc' := 10) X (w23 G) Via.refl P0.cod d_jdk_42_m152_7 rfl fun T X => ?_
  refine W.goto (pc' := 14) X d_jdk_42_m152_10 (by decide) (by decide) ?_
  exact W.ireturn X d_jdk_42_m152_14 rfl (by decide) (by decide) (by decide) (by decide) ⟨rfl, rfl, rfl⟩
def c_lat1U_rm : Room := { frames := 0, cells := 0, slots := 0, locals := 0 }
set_option maxRecDepth 65536 in
set_option maxHeartbeats 40000000 in
theorem c_lat1U {l : Launch} {Z : State} {a0 : Array Value} {zC : Int32} {fS : Value} {h : Heap} {B : Addr → Prop} {r rb : Addr} {cs : List Int32} (G : Gl Z a0 zC fS) (hE : En Z B h) (P0 : Su Z h r rb cs) : Con l Z consts_1 [] (⟨"java/lang/String", "isLatin1", "()Z"⟩ : MethodName) jdk_42_method_154_code 1 (some .boolean) c_lat1U_rm B h #[(.ref r)] (fun vR hR BR => vR = some (.int (0 : Int32)) ∧ hR = h ∧ BR = B) := by
  have hz0 := hE.1.1
  refine Con.intro (ls := #[.val (.ref r)]) (plainFor_of_name pn4) G.2.1 hE (fun m => by first | rfl | (simp [entryFrame, mkF, argsToLocals, Value.category]; done) | rfl) ?_
  intro pP eE sS mM blw mth cC T hs X
  refine W.getS (pc' := 3) (host := "") X (Or.inl (w49 G)) Via.refl G.2.2.1 d_jdk_42_m154_0 rfl fun T X => ?_
  refine W.ifF (pc' := 6) X d_jdk_42_m154_3 (XT.i0_eq_f G.2.2.2.1) rfl ?_
  refine W.aloadN (pc' := 7) X d_jdk_42_m154_6 rfl rfl rfl ?_
  refine W.getF (pc' := 10) X (w23 G) Via.refl P0.cod d_jdk_42_m154_7 rfl fun T X => ?_
  refine W.ifT (pc' := 17) X d_jdk_42_m154_10 (by decide) (by decide) (by decide) ?_
  refine W.iconst (pc' := 18) X (0 : Int32) d_jdk_42_m154_17 (by decide) rfl ?_
  exact W.ireturn X d_jdk_42_m154_18 rfl (by decide) (by decide) (by decide) (by decide) ⟨rfl, rfl, rfl⟩
def c_lenX_rm : Room := { frames := 1, cells := 0, slots := 0, locals := 13 }
set_option maxRecDepth 65536 in
set_option maxHeartbeats 40000000 in
theorem c_lenX {l : Launch} {Z : State} {a0 : Array Value} {zC : Int32} {fS : Value} {h : Heap} {B : Addr → Prop} {r rb : Addr} {cs : List Int32} (G : Gl Z a0 zC fS) (hE : En Z B h) (P0 : Sx Z h r rb cs) : Con l Z consts_1 [] (⟨"java/lang/String", "length", "()I"⟩ : MethodName) jdk_42_method_54_code 1 (some .int) c_lenX_rm B h #[(.ref r)] (fun vR hR BR => vR = some (.int cs.length.toInt32) ∧ hR = h ∧ BR = B) := by
  have hz0 := hE.1.1
  refine Con.intro (ls := #[.val (.ref r)]) (plainFor_of_name pn4) G.2.1 hE (fun m => by first | rfl | (simp [entryFrame, mkF, argsToLocals, Value.category]; done) | rfl) ?_
  intro pP eE sS mM blw mth cC T hs X
  rcases P0 with P0 | P0
  · skip
    refine W.aloadN (pc' := 1) X d_jdk_42_m54_0 rfl rfl rfl ?_
    refine W.getF (pc' := 4) X (w22 G) Via.refl P0.val d_jdk_42_m54_1 rfl fun T X => ?_
    refine W.alen (pc' := 5) (z := (cs).length.toInt32) X P0.arr (by simp) d_jdk_42_m54_4 rfl ?_
    refine W.aloadN (pc' := 6) X d_jdk_42_m54_5 rfl rfl rfl ?_
    refine W.callV (pc' := 9) (W := 1) (argsL := []) (st := [(.int (cs).length.toInt32)]) (k' := 0) (n' := 0) (a := r) X (c_coder (a := r) (b := rb) (cs := cs) G X.en P0) (w44 G) (w45 G) (nfM (z' := (⟨"java/lang/String", "startsWith", "(Ljava/lang/String;)Z"⟩ : MethodName)) rfl (w32 G)) (w47 G) (w46 G) P0.exa (w48 G) (w5 G) (by decide) (by decide) (by decide) rfl (lenOf pd6 rfl) rfl rfl (Nat.le_of_eq rfl) d_jdk_42_m54_6 rfl (by decide) (by decide) (by decide) (by decide) (kp fun T X => ?_)
    refine W.ishr (pc' := 10) (w := cs.length.toInt32) X d_jdk_42_m54_9 (shr0 _) rfl ?_
    exact W.ireturn X d_jdk_42_m54_10 rfl (by decide) rfl (by decide) (by decide) ⟨rfl, rfl, rfl⟩
  · skip
    refine W.aloadN (pc' := 1) X d_jdk_42_m54_0 rfl rfl rfl ?_
    refine W.getF (pc' := 4) X (w22 G) Via.refl P0.val d_jdk_42_m54_1 rfl fun T X => ?_
    refine W.alen (pc' := 5) (z := (2 * cs.length).toInt32) X P0.arr (by rw [len16]) d_jdk_42_m54_4 rfl ?_
    refine W.aloadN (pc' := 6) X d_jdk_42_m54_5 rfl rfl rfl ?_
    refine W.callV (pc' := 9) (W := 1) (argsL := []) (st := [(.int (2 * cs.length).toInt32)]) (k' := 0) (n' := 0) (a := r) X (c_coderU (r := r) (rb := rb) (cs := cs) G X.en P0) (w44 G) (w45 G) (nfM (z' := (⟨"java/lang/String", "startsWith", "(Ljava/lang/String;)Z"⟩ : MethodName)) rfl (w32 G)) (w47 G) (w46 G) P0.exa (w48 G) (w5 G) (by decide) (by decide) (by decide) rfl (lenOf pd6 rfl) rfl rfl (Nat.le_of_eq rfl) d_jdk_42_m54_6 rfl (by decide) (by decide) (by decide) (by decide) (kp fun T X => ?_)
    refine W.ishr (pc' := 10) (w := cs.length.toInt32) X d_jdk_42_m54_9 (shr1 P0.len2) rfl ?_
    exact W.ireturn X d_jdk_42_m54_10 rfl (by decide) rfl (by decide) (by decide) ⟨rfl, rfl, rfl⟩
def c_getC_rm : Room := { frames := 0, cells := 0, slots := 0, locals := 0 }
set_option maxRecDepth 65536 in
set_option maxHeartbeats 40000000 in
theorem c_getC {l : Launch} {Z : State} {a0 : Array Value} {zC : Int32} {fS : Value} {h : Heap} {B : Addr → Prop} {d : Addr} {cs : List Int32} {i : Nat} (G : Gl Z a0 zC fS) (hE : En Z B h) (P0 : Ar Z h d .byte (by16 cs)) (P1 : C16 cs) (P2 : i < cs.length) : Con l Z consts_1 [] (⟨"java/lang/StringUTF16", "getChar", "([BI)C"⟩ : MethodName) jdk_52_method_5_code 2 (some .char) c_getC_rm B h #[(.ref d), (.int i.toInt32)] (fun vR hR BR => vR = some (.int (cs.getD i 0)) ∧ hR = h ∧ BR = B) := by
  have hz0 := hE.1.1
  refine Con.intro (ls := #[.val (.ref d), .val (.int i.toInt32)]) (plainFor_of_name pn0) G.2.1 hE (fun m => by first | rfl | (simp [entryFrame, mkF, argsToLocals, Value.category]; done) | rfl) ?_
  intro pP eE sS mM blw mth cC T hs X
  have hL := P0.len_lt; rw [len16] at hL
  refine W.getS (pc' := 3) (host := "") X (Or.inl (w113 G)) Via.refl G.2.2.2.2.2.2.1 d_jdk_52_m5_0 rfl fun T X => ?_
  refine W.ifT (pc' := 28) X d_jdk_52_m5_3 (by decide) (by decide) (by decide) ?_
  refine W.iloadN (pc' := 29) X d_jdk_52_m5_28 rfl rfl ?_
  refine W.iconst (pc' := 30) X (1 : Int32) d_jdk_52_m5_29 (by decide) rfl ?_
  refine W.ishl (pc' := 31) (w := (2 * i).toInt32) X d_jdk_52_m5_30 (shl1 (by omega)) rfl ?_
  refine W.istoreN (pc' := 32) (ls' := #[.val (.ref d), .val (.int (2 * i).toInt32)]) X d_jdk_52_m5_31 rfl rfl ?_
  refine W.aloadN (pc' := 33) X d_jdk_52_m5_32 rfl rfl rfl ?_
  refine W.iloadN (pc' := 34) X d_jdk_52_m5_33 rfl rfl ?_
  refine W.iinc (pc' := 37) (ls' := #[.val (.ref d), .val (.int (2 * i + 1).toInt32)]) X (1 : Int32) (w := (2 * i + 1).toInt32) d_jdk_52_m5_34 (by decide) rfl (t32s _) rfl rfl ?_
  refine W.baload (pc' := 38) (v := (.int (cs.getD i 0).toInt8.toInt32)) X P0 (len32 (by omega)).1 (by16_lo P2 hL) d_jdk_52_m5_37 rfl ?_
  refine W.sipush (pc' := 41) X (255 : Int32) d_jdk_52_m5_38 (by decide) rfl ?_
  refine W.iand (pc' := 42) (w := (((cs.getD i 0).toInt8.toInt32) &&& (255 : Int32))) X d_jdk_52_m5_41 rfl rfl ?_
  refine W.getS (pc' := 45) (host := "") X (Or.inl (w114 G)) Via.refl G.2.2.2.2.2.2.2.1 d_jdk_52_m5_42 rfl fun T X => ?_
  refine W.ishl (pc' := 46) (w := ((((cs.getD i 0).toInt8.toInt32) &&& (255 : Int32)) <<< ((0 : Int32) &&& 31))) X d_jdk_52_m5_45 rfl rfl ?_
  refine W.aloadN (pc' := 47) X d_jdk_52_m5_46 rfl rfl rfl ?_
  refine W.iloadN (pc' := 48) X d_jdk_52_m5_47 rfl rfl ?_
  refine W.baload (pc' := 49) (v := (.int ((cs.getD i 0) >>> ((8 : Int32) &&& 31)).toInt8.toInt32)) X P0 (len32 (by omega)).1 (by16_hi P2 hL) d_jdk_52_m5_48 rfl ?_
  refine W.sipush (pc' := 52) X (255 : Int32) d_jdk_52_m5_49 (by decide) rfl ?_
  refine W.iand (pc' := 53) (w := ((((cs.getD i 0) >>> ((8 : Int32) &&& 31)).toInt8.toInt32) &&& (255 : Int32))) X d_jdk_52_m5_52 rfl rfl ?_
  refine W.getS (pc' := 56) (host := "") X (Or.inl (w115 G)) Via.refl G.2.2.2.2.2.2.2.2.1 d_jdk_52_m5_53 rfl fun T X => ?_
  refine W.ishl (pc' := 57) (w := (((((cs.getD i 0) >>> ((8 : Int32) &&& 31)).toInt8.toInt32) &&& (255 : Int32)) <<< ((8 : Int32) &&& 31))) X d_jdk_52_m5_56 rfl rfl ?_
  refine W.ior (pc' := 58) (w := (((((cs.getD i 0).toInt8.toInt32) &&& (255 : Int32)) <<< ((0 : Int32) &&& 31)) ||| (((((cs.getD i 0) >>> ((8 : Int32) &&& 31)).toInt8.toInt32) &&& (255 : Int32)) <<< ((8 : Int32) &&& 31)))) X d_jdk_52_m5_57 rfl rfl ?_
  refine W.i2c (pc' := 59) (w := (cs.getD i 0)) X d_jdk_52_m5_58 (dec16 (P1.at P2)) rfl ?_
  exact W.ireturn X d_jdk_52_m5_59 rfl (by decide) (narc (P1.at P2)) (by decide) (by decide) ⟨rfl, rfl, rfl⟩
def c_u16l_rm : Room := { frames := 0, cells := 0, slots := 0, locals := 0 }
set_option maxRecDepth 65536 in
set_option maxHeartbeats 40000000 in
theorem c_u16l {l : Launch} {Z : State} {a0 : Array Value} {zC : Int32} {fS : Value} {h : Heap} {B : Addr → Prop} {d : Addr} {cs : List Int32} (G : Gl Z a0 zC fS) (hE : En Z B h) (P0 : Ar Z h d .byte (by16 cs)) : Con l Z consts_1 [] (⟨"java/lang/StringUTF16", "length", "([B)I"⟩ : MethodName) jdk_52_method_6_code 1 (some .int) c_u16l_rm B h #[(.ref d)] (fun vR hR BR => vR = some (.int cs.length.toInt32) ∧ hR = h ∧ BR = B) := by
  have hz0 := hE.1.1
  refine Con.intro (ls := #[.val (.ref d)]) (plainFor_of_name pn0) G.2.1 hE (fun m => by first | rfl | (simp [entryFrame, mkF, argsToLocals, Value.category]; done) | rfl) ?_
  intro pP eE sS mM blw mth cC T hs X
  have hL := P0.len_lt; rw [len16] at hL
  refine W.aloadN (pc' := 1) X d_jdk_52_m6_0 rfl rfl rfl ?_
  refine W.alen (pc' := 2) (z := (2 * cs.length).toInt32) X P0 (by rw [len16]) d_jdk_52_m6_1 rfl ?_
  refine W.iconst (pc' := 3) X (1 : Int32) d_jdk_52_m6_2 (by decide) rfl ?_
  refine W.ishr (pc' := 4) (w := cs.length.toInt32) X d_jdk_52_m6_3 (shr1 hL) rfl ?_
  exact W.ireturn X d_jdk_52_m6_4 rfl (by decide) rfl (by decide) (by decide) ⟨rfl, rfl, rfl⟩
def c_u16k_rm : Room := { frames := 2, cells := 0, slots := 0, locals := 27 }
set_option maxRecDepth 65536 in
set_option maxHeartbeats 40000000 in
theorem c_u16k {l : Launch} {Z : State} {a0 : Array Value} {zC : Int32} {fS : Value} {h : Heap} {B : Addr → Prop} {d : Addr} {cs : List Int32} {i : Nat} (G : Gl Z a0 zC fS) (hE : En Z B h) (P0 : Ar Z h d .byte (by16 cs)) (P1 : i < cs.length) : Con l Z consts_1 [] (⟨"java/lang/StringUTF16", "checkIndex", "(I[B)V"⟩ : MethodName) jdk_52_method_91_code 2 none c_u16k_rm B h #[(.int i.toInt32), (.ref d)] (fun vR hR BR => vR = none ∧ hR = h ∧ BR = B) := by
  have hz0 := hE.1.1
  refine Con.intro (ls := #[.val (.int i.toInt32), .val (.ref d)]) (plainFor_of_name pn0) G.2.1 hE (fun m => by first | rfl | (simp [entryFrame, mkF, argsToLocals, Value.category]; done) | rfl) ?_
  intro pP eE sS mM blw mth cC T hs X
  have hL := P0.len_lt; rw [len16] at hL
  refine W.iloadN (pc' := 1) X d_jdk_52_m91_0 rfl rfl ?_
  refine W.aloadN (pc' := 2) X d_jdk_52_m91_1 rfl rfl rfl ?_
  refine W.callS (pc' := 5) (W := 1) (argsL := [(.ref d)]) (st := [(.int i.toInt32)]) (k' := 0) (n' := 0) X (c_u16l (d := d) (cs := cs) G X.en P0) (w126 G) (w127 G) (w128 G) (w57 G) (by decide) (by decide) (by decide) rfl (lenOf pd13 rfl) rfl rfl (Nat.le_of_eq rfl) d_jdk_52_m91_2 rfl (by decide) (by decide) (by decide) (by decide) (kp fun T X => ?_)
  refine W.callS (pc' := 8) (W := 0) (argsL := [(.int i.toInt32), (.int cs.length.toInt32)]) (st := []) (k' := 0) (n' := 0) X (c_schk (i := i.toInt32) (n := cs.length.toInt32) G X.en (len32 (by omega)).1 ((lt32 (by omega) (by omega)).mpr P1)) (w129 G) (w84 G) (w85 G) (w5 G) (by decide) (by decide) (by decide) rfl (lenOf pd9 rfl) rfl rfl (Nat.le_of_eq rfl) d_jdk_52_m91_5 rfl (by decide) (by decide) (by decide) (by decide) (kpv fun T X => ?_)
  exact W.vreturn X d_jdk_52_m91_8 rfl (by decide) (by decide) ⟨rfl, rfl, rfl⟩
def c_u16ch_rm : Room := { frames := 3, cells := 0, slots := 0, locals := 40 }
set_option maxRecDepth 65536 in
set_option maxHeartbeats 40000000 in
theorem c_u16ch {l : Launch} {Z : State} {a0 : Array Value} {zC : Int32} {fS : Value} {h : Heap} {B : Addr → Prop} {d : Addr} {cs : List Int32} {i : Nat} (G : Gl Z a0 zC fS) (hE : En Z B h) (P0 : Ar Z h d .byte (by16 cs)) (P1 : C16 cs) (P2 : i < cs.length) : Con l Z consts_1 [] (⟨"java/lang/StringUTF16", "charAt", "([BI)C"⟩ : MethodName) jdk_52_method_83_code 2 (some .char) c_u16ch_rm B h #[(.ref d), (.int i.toInt32)] (fun vR hR BR => vR = some (.int (cs.getD i 0)) ∧ hR = h ∧ BR = B) := by
  have hz0 := hE.1.1
  refine Con.intro (ls := #[.val (.ref d), .val (.int i.toInt32)]) (plainFor_of_name pn0) G.2.1 hE (fun m => by first | rfl | (simp [entryFrame, mkF, argsToLocals, Value.category]; done) | rfl) ?_
  intro pP eE sS mM blw mth cC T hs X
  refine W.iloadN (pc' := 1) X d_jdk_52_m83_0 rfl rfl ?_
  refine W.aloadN (pc' := 2) X d_jdk_52_m83_1 rfl rfl rfl ?_
  refine W.callS (pc' := 5) (W := 0) (argsL := [(.int i.toInt32), (.ref d)]) (st := []) (k' := 0) (n' := 0) X (c_u16k (d := d) (cs := cs) (i := i) G X.en P0 P2) (w123 G) (w124 G) (w125 G) (w57 G) (by decide) (by decide) (by decide) rfl (lenOf pd14 rfl) rfl rfl (Nat.le_of_eq rfl) d_jdk_52_m83_2 rfl (by decide) (by decide) (by decide) (by decide) (kpv fun T X => ?_)
  refine W.aloadN (pc' := 6) X d_jdk_52_m83_5 rfl rfl rfl ?_
  refine W.iloadN (pc' := 7) X d_jdk_52_m83_6 rfl rfl ?_
  refine W.callS (pc' := 10) (W := 0) (argsL := [(.ref d), (.int i.toInt32)]) (st := []) (k' := 0) (n' := 0) X (c_getC (d := d) (cs := cs) (i := i) G X.en P0 P1 P2) (w116 G) (w117 G) (w118 G) (w57 G) (by decide) (by decide) (by decide) rfl (lenOf pd12 rfl) rfl rfl (Nat.le_of_eq rfl) d_jdk_52_m83_7 rfl (by decide) (by decide) (by decide) (by decide) (kp fun T X => ?_)
  exact W.ireturn X d_jdk_52_m83_10 rfl (by decide) (narc (P1.at P2)) (by decide) (by decide) ⟨rfl, rfl, rfl⟩
def c_chX_rm : Room := { frames := 4, cells := 0, slots := 0, locals := 53 }
set_option maxRecDepth 65536 in
set_option maxHeartbeats 40000000 in
theorem c_chX {l : Launch} {Z : State} {a0 : Array Value} {zC : Int32} {fS : Value} {h : Heap} {B : Addr → Prop} {r rb : Addr} {cs : List Int32} {i : Nat} (G : Gl Z a0 zC fS) (hE : En Z B h) (P0 : Sx Z h r rb cs) (P1 : i < cs.length) : Con l Z consts_1 [] (⟨"java/lang/String", "charAt", "(I)C"⟩ : MethodName) jdk_42_method_56_code 2 (some .char) c_chX_rm B h #[(.ref r), (.int i.toInt32)] (fun vR hR BR => vR = some (.int (cs.getD i 0)) ∧ hR = h ∧ BR = B) := by
  have hz0 := hE.1.1
  refine Con.intro (ls := #[.val (.ref r), .val (.int i.toInt32)]) (plainFor_of_name pn4) G.2.1 hE (fun m => by first | rfl | (simp [entryFrame, mkF, argsToLocals, Value.category]; done) | rfl) ?_
  intro pP eE sS mM blw mth cC T hs X
  rcases P0 with P0 | P0
  · skip
    refine W.aloadN (pc' := 1) X d_jdk_42_m56_0 rfl rfl rfl ?_
    refine W.callV (pc' := 4) (W := 0) (argsL := []) (st := []) (k' := 0) (n' := 0) (a := r) X (c_lat1 (a := r) (b := rb) (cs := cs) G X.en P0) (w74 G) (w75 G) (nfM (z' := (⟨"java/lang/String", "startsWith", "(Ljava/lang/String;)Z"⟩ : MethodName)) rfl (w32 G)) (w77 G) (w76 G) P0.exa (w78 G) (w5 G) (by decide) (by decide) (by decide) rfl (lenOf pd11 rfl) rfl rfl (Nat.le_of_eq rfl) d_jdk_42_m56_1 rfl (by decide) (by decide) (by decide) (by decide) (kp fun T X => ?_)
    refine W.ifF (pc' := 7) X d_jdk_42_m56_4 (by decide) rfl ?_
    refine W.aloadN (pc' := 8) X d_jdk_42_m56_7 rfl rfl rfl ?_
    refine W.getF (pc' := 11) X (w22 G) Via.refl P0.val d_jdk_42_m56_8 rfl fun T X => ?_
    refine W.iloadN (pc' := 12) X d_jdk_42_m56_11 rfl rfl ?_
    refine W.callS (pc' := 15) (W := 0) (argsL := [(.ref rb), (.int i.toInt32)]) (st := []) (k' := 0) (n' := 0) X (c_l1ch (b := rb) (cs := cs) (i := i) G X.en P0.arr P0.lat P1) (w79 G) (w80 G) (w82 G) (w81 G) (by decide) (by decide) (by decide) rfl (lenOf pd12 rfl) rfl rfl (Nat.le_of_eq rfl) d_jdk_42_m56_12 rfl (by decide) (by decide) (by decide) (by decide) (kp fun T X => ?_)
    exact W.ireturn X d_jdk_42_m56_15 rfl (by decide) (narc (to16 (P0.lat.at P1))) (by decide) (by decide) ⟨rfl, rfl, rfl⟩
  · skip
    refine W.aloadN (pc' := 1) X d_jdk_42_m56_0 rfl rfl rfl ?_
    refine W.callV (pc' := 4) (W := 0) (argsL := []) (st := []) (k' := 0) (n' := 0) (a := r) X (c_lat1U (r := r) (rb := rb) (cs := cs) G X.en P0) (w74 G) (w75 G) (nfM (z' := (⟨"java/lang/String", "startsWith", "(Ljava/lang/String;)Z"⟩ : MethodName)) rfl (w32 G)) (w77 G) (w76 G) P0.exa (w78 G) (w5 G) (by decide) (by decide) (by decide) rfl (lenOf pd11 rfl) rfl rfl (Nat.le_of_eq rfl) d_jdk_42_m56_1 rfl (by decide) (by decide) (by decide) (by decide) (kp fun T X => ?_)
    refine W.ifT (pc' := 16) X d_jdk_42_m56_4 (by decide) (by decide) (by decide) ?_
    refine W.aloadN (pc' := 17) X d_jdk_42_m56_16 rfl rfl rfl ?_
    refine W.getF (pc' := 20) X (w22 G) Via.refl P0.val d_jdk_42_m56_17 rfl fun T X => ?_
    refine W.iloadN (pc' := 21) X d_jdk_42_m56_20 rfl rfl ?_
    refine W.callS (pc' := 24) (W := 0) (argsL := [(.ref rb), (.int i.toInt32)]) (st := []) (k' := 0) (n' := 0) X (c_u16ch (d := rb) (cs := cs) (i := i) G X.en P0.arr P0.c16 P1) (w120 G) (w121 G) (w122 G) (w57 G) (by decide) (by decide) (by decide) rfl (lenOf pd12 rfl) rfl rfl (Nat.le_of_eq rfl) d_jdk_42_m56_21 rfl (by decide) (by decide) (by decide) (by decide) (kp fun T X => ?_)
    exact W.ireturn X d_jdk_42_m56_24 rfl (by decide) (narc (P0.c16.at P1)) (by decide) (by decide) ⟨rfl, rfl, rfl⟩
def c_nbl_rm : Room := { frames := 0, cells := 0, slots := 0, locals := 0 }
set_option maxRecDepth 65536 in
set_option maxHeartbeats 40000000 in
theorem c_nbl {l : Launch} {Z : State} {a0 : Array Value} {zC : Int32} {fS : Value} {h : Heap} {B : Addr → Prop} {n : Nat} (G : Gl Z a0 zC fS) (hE : En Z B h) (P0 : n ≤ 6) : Con l Z consts_1 [] (⟨"java/lang/StringUTF16", "newBytesLength", "(I)I"⟩ : MethodName) jdk_52_method_3_code 1 (some .int) c_nbl_rm B h #[(.int n.toInt32)] (fun vR hR BR => vR = some (.int (2 * n).toInt32) ∧ hR = h ∧ BR = B) := by
  have hz0 := hE.1.1
  refine Con.intro (ls := #[.val (.int n.toInt32)]) (plainFor_of_name pn0) G.2.1 hE (fun m => by first | rfl | (simp [entryFrame, mkF, argsToLocals, Value.category]; done) | rfl) ?_
  intro pP eE sS mM blw mth cC T hs X
  refine W.iloadN (pc' := 1) X d_jdk_52_m3_0 rfl rfl ?_
  refine W.ifT (pc' := 12) X d_jdk_52_m3_1 (XT.i0_ge_t (len32 (by omega)).1) (by decide) (by decide) ?_
  refine W.iloadN (pc' := 13) X d_jdk_52_m3_12 rfl rfl ?_
  refine W.ldcI (pc' := 15) X (w109 G) d_jdk_52_m3_13 rfl ?_
  refine W.icT (pc' := 55) X d_jdk_52_m3_15 (XT.ii_lt_t (by rw [Int32.lt_iff_toInt_lt, (len32 (by omega)).2.2]; have e : (1073741823 : Int32).toInt = 1073741823 := rfl; omega)) (by decide) (by decide) ?_
  refine W.iloadN (pc' := 56) X d_jdk_52_m3_55 rfl rfl ?_
  refine W.iconst (pc' := 57) X (1 : Int32) d_jdk_52_m3_56 (by decide) rfl ?_
  refine W.ishl (pc' := 58) (w := (2 * n).toInt32) X d_jdk_52_m3_57 (shl1 (by omega)) rfl ?_
  exact W.ireturn X d_jdk_52_m3_58 rfl (by decide) rfl (by decide) (by decide) ⟨rfl, rfl, rfl⟩
abbrev c_nbf_q (Z : State) (zC : Int32) (fS : Value) (h : Heap) (B : Addr → Prop) (n : Nat) (xR : Value) (h' : Heap) : Prop := ∃ (t : Addr), xR = (.ref t) ∧ Keep h h' [] ∧ h.size ≤ t ∧ Ar Z h' t .byte (List.replicate (2 * n) (.int (0 : Int32)))
def c_nbf_rm : Room := { frames := 1, cells := 1, slots := 12, locals := 12 }
set_option maxRecDepth 65536 in
set_option maxHeartbeats 40000000 in
theorem c_nbf {l : Launch} {Z : State} {a0 : Array Value} {zC : Int32} {fS : Value} {h : Heap} {B : Addr → Prop} {n : Nat} (G : Gl Z a0 zC fS) (hE : En Z B h) (P0 : n ≤ 6) : Con l Z consts_1 [] (⟨"java/lang/StringUTF16", "newBytesFor", "(I)[B"⟩ : MethodName) jdk_52_method_2_code 1 (some (.array .byte)) c_nbf_rm B h #[(.int n.toInt32)] (fun vR hR BR => ∃ xR, vR = some xR ∧ BR = B ∧ c_nbf_q Z zC fS h B n xR hR) := by
  have hz0 := hE.1.1
  refine Con.intro (ls := #[.val (.int n.toInt32)]) (plainFor_of_name pn0) G.2.1 hE (fun m => by first | rfl | (simp [entryFrame, mkF, argsToLocals, Value.category]; done) | rfl) ?_
  intro pP eE sS mM blw mth cC T hs X
  refine W.iloadN (pc' := 1) X d_jdk_52_m2_0 rfl rfl ?_
  refine W.callS (pc' := 4) (W := 0) (argsL := [(.int n.toInt32)]) (st := []) (k' := 0) (n' := 0) X (c_nbl (n := n) G X.en P0) (w106 G) (w107 G) (w108 G) (w57 G) (by decide) (by decide) (by decide) rfl (lenOf pd15 rfl) rfl rfl (Nat.le_of_eq rfl) d_jdk_52_m2_1 rfl (by decide) (by decide) (by decide) (by decide) (kp fun T X => ?_)
  refine W.newA (aty := .byte) (pc' := 6) (k' := 1) (n' := 12) (cap := 12) X (w17 G) d_jdk_52_m2_4 (len32 (by omega)).1 (by rw [(len32 (by omega)).2.1]; omega) (by decide) rfl (by decide) (by decide) (by decide) (by decide) fun T h1 a2 X K3 g4 g5 nb6 A7 => ?_
  have A7 : Ar Z h1 a2 .byte (List.replicate (2 * n) (.int (0 : Int32))) := by have q := A7; rw [(len32 (by omega)).2.1] at q; exact q
  exact W.areturn X d_jdk_52_m2_6 rfl rfl rfl rfl (by decide) (by decide) ⟨_, rfl, rfl, ⟨a2, rfl, (Keep.trans (Keep.refl h []) K3 all0), (Nat.le_trans (Nat.le_refl _) g4), A7⟩⟩
abbrev c_putC_q (Z : State) (zC : Int32) (fS : Value) (h : Heap) (B : Addr → Prop) (d : Addr) (us : List Value) (i : Nat) (x : Int32) (h' : Heap) : Prop := Keep h h' [d] ∧ Ar Z h' d .byte ((us.set (2 * i) (.int x.toInt8.toInt32)).set (2 * i + 1) (.int (x >>> ((8 : Int32) &&& 31)).toInt8.toInt32))
def c_putC_rm : Room := { frames := 0, cells := 0, slots := 0, locals := 0 }
set_option maxRecDepth 65536 in
set_option maxHeartbeats 40000000 in
theorem c_putC {l : Launch} {Z : State} {a0 : Array Value} {zC : Int32} {fS : Value} {h : Heap} {B : Addr → Prop} {d : Addr} {us : List Value} {i : Nat} {x : Int32} (G : Gl Z a0 zC fS) (hE : En Z B h) (P0 : Ar Z h d .byte us) (P1 : 2 * i + 1 < us.length) (P2 : Z.heap.size ≤ d) (P3 : ¬ B d) : Con l Z consts_1 [] (⟨"java/lang/StringUTF16", "putChar", "([BII)V"⟩ : MethodName) jdk_52_method_4_code 3 none c_putC_rm B h #[(.ref d), (.int i.toInt32), (.int x)] (fun vR hR BR => vR = none ∧ BR = B ∧ c_putC_q Z zC fS h B d us i x hR) := by
  have hz0 := hE.1.1
  refine Con.intro (ls := #[.val (.ref d), .val (.int i.toInt32), .val (.int x)]) (plainFor_of_name pn0) G.2.1 hE (fun m => by first | rfl | (simp [entryFrame, mkF, argsToLocals, Value.category]; done) | rfl) ?_
  intro pP eE sS mM blw mth cC T hs X
  have hL := P0.len_lt
  refine W.getS (pc' := 3) (host := "") X (Or.inl (w113 G)) Via.refl G.2.2.2.2.2.2.1 d_jdk_52_m4_0 rfl fun T X => ?_
  refine W.ifT (pc' := 28) X d_jdk_52_m4_3 (by decide) (by decide) (by decide) ?_
  refine W.iloadN (pc' := 29) X d_jdk_52_m4_28 rfl rfl ?_
  refine W.iconst (pc' := 30) X (1 : Int32) d_jdk_52_m4_29 (by decide) rfl ?_
  refine W.ishl (pc' := 31) (w := (2 * i).toInt32) X d_jdk_52_m4_30 (shl1 (by omega)) rfl ?_
  refine W.istoreN (pc' := 32) (ls' := #[.val (.ref d), .val (.int (2 * i).toInt32), .val (.int x)]) X d_jdk_52_m4_31 rfl rfl ?_
  refine W.aloadN (pc' := 33) X d_jdk_52_m4_32 rfl rfl rfl ?_
  refine W.iloadN (pc' := 34) X d_jdk_52_m4_33 rfl rfl ?_
  refine W.iinc (pc' := 37) (ls' := #[.val (.ref d), .val (.int (2 * i + 1).toInt32), .val (.int x)]) X (1 : Int32) (w := (2 * i + 1).toInt32) d_jdk_52_m4_34 (by decide) rfl (t32s _) rfl rfl ?_
  refine W.iloadN (pc' := 38) X d_jdk_52_m4_37 rfl rfl ?_
  refine W.getS (pc' := 41) (host := "") X (Or.inl (w114 G)) Via.refl G.2.2.2.2.2.2.2.1 d_jdk_52_m4_38 rfl fun T X => ?_
  refine W.ishr (pc' := 42) (w := x) X d_jdk_52_m4_41 (shr0 _) rfl ?_
  refine W.i2b (pc' := 43) (w := x.toInt8.toInt32) X d_jdk_52_m4_42 rfl rfl ?_
  refine W.bastore (pc' := 44) (i := (2 * i)) X P0 (len32 (by omega)).1 (len32 (by omega)).2.1 (by omega) (lo8_lo8 _) P2 P3 d_jdk_52_m4_43 rfl fun T h1 X K2 A3 => ?_
  refine W.aloadN (pc' := 45) X d_jdk_52_m4_44 rfl rfl rfl ?_
  refine W.iloadN (pc' := 46) X d_jdk_52_m4_45 rfl rfl ?_
  refine W.iloadN (pc' := 47) X d_jdk_52_m4_46 rfl rfl ?_
  refine W.getS (pc' := 50) (host := "") X (Or.inl (w115 G)) Via.refl G.2.2.2.2.2.2.2.2.1 d_jdk_52_m4_47 rfl fun T X => ?_
  refine W.ishr (pc' := 51) (w := (x >>> ((8 : Int32) &&& 31))) X d_jdk_52_m4_50 rfl rfl ?_
  refine W.i2b (pc' := 52) (w := (x >>> ((8 : Int32) &&& 31)).toInt8.toInt32) X d_jdk_52_m4_51 rfl rfl ?_
  refine W.bastore (pc' := 53) (i := (2 * i + 1)) X A3 (len32 (by omega)).1 (len32 (by omega)).2.1 (by rw [List.length_set]; omega) (lo8_lo8 _) P2 P3 d_jdk_52_m4_52 rfl fun T h4 X K5 A6 => ?_
  exact W.vreturn X d_jdk_52_m4_53 rfl (by decide) (by decide) ⟨rfl, rfl, ⟨(Keep.trans (Keep.trans (Keep.refl h [d]) K2 (allS (Or.inl (List.mem_of_getElem? (i := 0) rfl)) all0)) K5 (allS (Or.inl (List.mem_of_getElem? (i := 0) rfl)) all0)), A6⟩⟩
abbrev c_toB_q (Z : State) (zC : Int32) (fS : Value) (h : Heap) (B : Addr → Prop) (a : Addr) (cs : List Int32) (xR : Value) (h' : Heap) : Prop := ∃ (t : Addr), xR = (.ref t) ∧ Keep h h' [] ∧ h.size ≤ t ∧ Ar Z h' t .byte (by16 cs)
def c_toB_rm : Room := { frames := 2, cells := 1, slots := 12, locals := 24 }
set_option maxRecDepth 65536 in
set_option maxHeartbeats 40000000 in
theorem c_toB {l : Launch} {Z : State} {a0 : Array Value} {zC : Int32} {fS : Value} {h : Heap} {B : Addr → Prop} {a : Addr} {cs : List Int32} (G : Gl Z a0 zC fS) (hE : En Z B h) (P0 : Ar Z h a .char (cs.map Value.int)) (P1 : cs.length ≤ 6) : Con l Z consts_1 [] (⟨"java/lang/StringUTF16", "toBytes", "([CII)[B"⟩ : MethodName) jdk_52_method_14_code 5 (some (.array .byte)) c_toB_rm B h #[(.ref a), (.int (0 : Int32)), (.int cs.length.toInt32)] (fun vR hR BR => ∃ xR, vR = some xR ∧ BR = B ∧ c_toB_q Z zC fS h B a cs xR hR) := by
  have hz0 := hE.1.1
  refine Con.intro (ls := #[.val (.ref a), .val (.int (0 : Int32)), .val (.int cs.length.toInt32), .unset, .unset]) (plainFor_of_name pn0) G.2.1 hE (fun m => by first | rfl | (simp [entryFrame, mkF, argsToLocals, Value.category]; done) | rfl) ?_
  intro pP eE sS mM blw mth cC T hs X
  refine W.iloadN (pc' := 1) X d_jdk_52_m14_0 rfl rfl ?_
  have en1 := X.en
  refine W.callS (pc' := 4) (W := 0) (argsL := [(.int cs.length.toInt32)]) (st := []) (k' := 1) (n' := 12) X (c_nbf (n := cs.length) G X.en P1) (w103 G) (w104 G) (w105 G) (w57 G) (by decide) (by decide) (by decide) rfl (lenOf pd16 rfl) rfl rfl (Nat.le_of_eq rfl) d_jdk_52_m14_1 rfl (by decide) (by decide) (by decide) (by decide) (kr fun T h2 xr X z3 q4 => ?_)
  obtain ⟨a5, rfl, K6, g7, F8⟩ := q4
  have g9 : Z.heap.size ≤ a5 := Nat.le_trans (Nat.le_trans hz0 (Nat.le_refl _)) g7
  have nb10 : ¬ B a5 := fun q => absurd (en1.2 _ q) (Nat.not_lt.mpr g7)
  refine W.astoreN (pc' := 5) (ls' := #[.val (.ref a), .val (.int (0 : Int32)), .val (.int cs.length.toInt32), .val (.ref a5), .unset]) X d_jdk_52_m14_4 rfl rfl rfl ?_
  refine W.iconst (pc' := 6) X (0 : Int32) d_jdk_52_m14_5 (by decide) rfl ?_
  refine W.istore (pc' := 8) (ls' := #[.val (.ref a), .val (.int (0 : Int32)), .val (.int cs.length.toInt32), .val (.ref a5), .val (.int (0 : Int32))]) X d_jdk_52_m14_6 rfl rfl ?_
  have F11 := (P0.keep K6 nin0)
  have loop : ∀ (k i : Nat) (T : State) (hq : Heap), i + k = cs.length → Wk l Z consts_1 (⟨"java/lang/StringUTF16", "toBytes", "([CII)[B"⟩ : MethodName) jdk_52_method_14_code 5 (some (.array .byte)) c_toB_rm B pP eE sS mM #[(.ref a), (.int (0 : Int32)), (.int cs.length.toInt32)] blw mth cC B T hq 1 12 → Keep h2 hq [a5] → Ar Z hq a .char (cs.map Value.int) → Ar Z hq a5 .byte (by16 (cs.take i) ++ List.replicate (2 * (cs.length - i)) (.int (0 : Int32))) → Go l Z consts_1 c_toB_rm B (fun vR hR BR => ∃ xR, vR = some xR ∧ BR = B ∧ c_toB_q Z zC fS h B a cs xR hR) pP eE sS mM blw T 8 #[.val (.ref a), .val (.int i.toInt32), .val (.int cs.length.toInt32), .val (.ref a5), .val (.int i.toInt32)] [] := by
    intro k
    induction k with
    | zero =>
      intro i T hq hi X KL AL DL
      obtain rfl : i = cs.length := by omega
      have DM : Ar Z hq a5 .byte (by16 cs) := by simpa using DL
      refine W.iload (pc' := 10) X d_jdk_52_m14_8 rfl rfl ?_
      refine W.iloadN (pc' := 11) X d_jdk_52_m14_10 rfl rfl ?_
      refine W.icT (pc' := 32) X d_jdk_52_m14_11 (XT.ii_ge_t (fun q => by rw [Int32.lt_iff_toInt_lt] at q; omega)) (by decide) (by decide) ?_
      refine W.aloadN (pc' := 33) X d_jdk_52_m14_32 rfl rfl rfl ?_
      exact W.areturn X d_jdk_52_m14_33 rfl rfl rfl rfl (by decide) (by decide) ⟨_, rfl, rfl, ⟨a5, rfl, (Keep.trans (Keep.trans (Keep.refl h []) K6 all0) KL (allS (Or.inr (Nat.le_trans (Nat.le_refl _) g7)) all0)), (Nat.le_trans (Nat.le_refl _) g7), DM⟩⟩
    | succ k ih =>
      intro i T hq hi X KL AL DL
      have hi' : i < cs.length := by omega
      refine W.iload (pc' := 10) X d_jdk_52_m14_8 rfl rfl ?_
      refine W.iloadN (pc' := 11) X d_jdk_52_m14_10 rfl rfl ?_
      refine W.icF (pc' := 14) X d_jdk_52_m14_11 (XT.ii_ge_f ((lt32 (by omega) (by omega)).mpr hi')) rfl ?_
      refine W.aloadN (pc' := 15) X d_jdk_52_m14_14 rfl rfl rfl ?_
      refine W.iload (pc' := 17) X d_jdk_52_m14_15 rfl rfl ?_
      refine W.aloadN (pc' := 18) X d_jdk_52_m14_17 rfl rfl rfl ?_
      refine W.iloadN (pc' := 19) X d_jdk_52_m14_18 rfl rfl ?_
      refine W.caload (pc' := 20) (v := (.int (cs.getD i 0))) X AL (len32 (by omega)).1 (ch_get hi' (by omega)) d_jdk_52_m14_19 rfl ?_
      refine W.callS (pc' := 23) (W := 0) (argsL := [(.ref a5), (.int i.toInt32), (.int (cs.getD i 0))]) (st := []) (k' := 1) (n' := 12) X (c_putC (d := a5) (us := (by16 (cs.take i) ++ List.replicate (2 * (cs.length - i)) (.int (0 : Int32)))) (i := i) (x := (cs.getD i 0)) G X.en DL (by rw [List.length_append, len16, List.length_take, List.length_replicate]; omega) g9 nb10) (w110 G) (w111 G) (w112 G) (w57 G) (by decide) (by decide) (by decide) rfl (lenOf pd17 rfl) rfl rfl (Nat.le_of_eq rfl) d_jdk_52_m14_20 rfl (by decide) (by decide) (by decide) (by decide) (kv fun T h12 X z13 q14 => ?_)
      obtain ⟨K15, F16⟩ := q14
      refine W.iinc (pc' := 26) (ls' := #[.val (.ref a), .val (.int (i + 1).toInt32), .val (.int cs.length.toInt32), .val (.ref a5), .val (.int i.toInt32)]) X (1 : Int32) (w := (i + 1).toInt32) d_jdk_52_m14_23 (by decide) rfl (t32s i) rfl rfl ?_
      refine W.iinc (pc' := 29) (ls' := #[.val (.ref a), .val (.int (i + 1).toInt32), .val (.int cs.length.toInt32), .val (.ref a5), .val (.int (i + 1).toInt32)]) X (1 : Int32) (w := (i + 1).toInt32) d_jdk_52_m14_26 (by decide) rfl (t32s i) rfl rfl ?_
      refine W.goto (pc' := 8) X d_jdk_52_m14_29 (by decide) (by decide) ?_
      have F17 := (AL.keep K15 (ninS (Nat.ne_of_lt (Nat.lt_of_lt_of_le P0.lt (Nat.le_trans (Nat.le_refl _) g7))) nin0))
      have DN := F16; rw [put_set hi'] at DN
      exact ih (i + 1) T h12 (by omega) X (KL.trans K15 (allS (Or.inl (List.mem_of_getElem? (i := 0) rfl)) all0)) F17 DN
  exact loop cs.length 0 T h2 (by omega) X (Keep.refl _ _) F11 (by simpa [by16] using F8)
abbrev c_cmp5u_q (Z : State) (zC : Int32) (fS : Value) (h : Heap) (B : Addr → Prop) (a d : Addr) (cs : List Int32) (vs : List Value) (xR : Value) (h' : Heap) : Prop := ∃ (j : Nat) (us : List Value), xR = (.int j.toInt32) ∧ Keep h h' [d] ∧ Ar Z h' d .byte us ∧ (j < cs.length) ∧ ((255 : Int32) < cs.getD j 0)
def c_cmp5u_rm : Room := { frames := 0, cells := 0, slots := 0, locals := 0 }
set_option maxRecDepth 65536 in
set_option maxHeartbeats 40000000 in
theorem c_cmp5u {l : Launch} {Z : State} {a0 : Array Value} {zC : Int32} {fS : Value} {h : Heap} {B : Addr → Prop} {a d : Addr} {cs : List Int32} {vs : List Value} (G : Gl Z a0 zC fS) (hE : En Z B h) (P0 : Ar Z h a .char (cs.map Value.int)) (P1 : Ar Z h d .byte vs) (P2 : ¬ Lat cs) (P3 : C16 cs) (P4 : vs.length = cs.length) (P5 : Z.heap.size ≤ d) (P6 : ¬ B d) : Con l Z consts_1 [] (⟨"java/lang/StringUTF16", "compress", "([CI[BII)I"⟩ : MethodName) jdk_52_method_21_code 7 (some .int) c_cmp5u_rm B h #[(.ref a), (.int (0 : Int32)), (.ref d), (.int (0 : Int32)), (.int cs.length.toInt32)] (fun vR hR BR => ∃ xR, vR = some xR ∧ BR = B ∧ c_cmp5u_q Z zC fS h B a d cs vs xR hR) := by
  have hz0 := hE.1.1
  refine Con.intro (ls := #[.val (.ref a), .val (.int (0 : Int32)), .val (.ref d), .val (.int (0 : Int32)), .val (.int cs.length.toInt32), .unset, .unset]) (plainFor_of_name pn0) G.2.1 hE (fun m => by first | rfl | (simp [entryFrame, mkF, argsToLocals, Value.category]; done) | rfl) ?_
  intro pP eE sS mM blw mth cC T hs X
  have hL := P0.len_lt; rw [List.length_map] at hL
  have hne : a ≠ d := ar_ne P0 P1 (by decide)
  have loop : ∀ (k i : Nat) (us : List Value) (T : State) (hq : Heap) (o : Slot), i + k = cs.length → us.length = cs.length → (∀ x ∈ cs.take i, x.toInt ≤ 255) → (o = .unset ∨ ∃ x, o = .val (.int x)) → Wk l Z consts_1 (⟨"java/lang/StringUTF16", "compress", "([CI[BII)I"⟩ : MethodName) jdk_52_method_21_code 7 (some .int) c_cmp5u_rm B pP eE sS mM #[(.ref a), (.int (0 : Int32)), (.ref d), (.int (0 : Int32)), (.int cs.length.toInt32)] blw mth cC B T hq 0 0 → Keep h hq [d] → Ar Z hq a .char (cs.map Value.int) → Ar Z hq d .byte us → Go l Z consts_1 c_cmp5u_rm B (fun vR hR BR => ∃ xR, vR = some xR ∧ BR = B ∧ c_cmp5u_q Z zC fS h B a d cs vs xR hR) pP eE sS mM blw T 3 #[.val (.ref a), .val (.int i.toInt32), .val (.ref d), .val (.int i.toInt32), .val (.int cs.length.toInt32), .val (.int i.toInt32), o] [] := by
    intro k
    induction k with
    | zero =>
      intro i us T hq o hi hu hall ho X KL AL DL
      exact absurd (fun x hx => ⟨(P3 x hx).1, hall x (by rw [List.take_of_length_le (by omega)]; exact hx)⟩) P2
    | succ k ih =>
      intro i us T hq o hi hu hall ho X KL AL DL
      have hi' : i < cs.length := by omega
      rcases ho with rfl | ⟨x0, rfl⟩
      all_goals
        refine W.iload (pc' := 5) X d_jdk_52_m21_3 rfl rfl ?_
        refine W.iload (pc' := 7) X d_jdk_52_m21_5 rfl rfl ?_
        refine W.icF (pc' := 10) X d_jdk_52_m21_7 (XT.ii_ge_f ((lt32 (by omega) hL).mpr hi')) rfl ?_
        refine W.aloadN (pc' := 11) X d_jdk_52_m21_10 rfl rfl rfl ?_
        refine W.iloadN (pc' := 12) X d_jdk_52_m21_11 rfl rfl ?_
        refine W.caload (pc' := 13) (v := (.int (cs.getD i 0))) X AL (len32 (by omega)).1 (ch_get hi' (by omega)) d_jdk_52_m21_12 rfl ?_
        refine W.istore (pc' := 15) (ls' := #[.val (.ref a), .val (.int i.toInt32), .val (.ref d), .val (.int i.toInt32), .val (.int cs.length.toInt32), .val (.int i.toInt32), .val (.int (cs.getD i 0))]) X d_jdk_52_m21_13 rfl rfl ?_
        refine W.iload (pc' := 17) X d_jdk_52_m21_15 rfl rfl ?_
        refine W.sipush (pc' := 20) X (255 : Int32) d_jdk_52_m21_17 (by decide) rfl ?_
        by_cases hc1 : (255 : Int32) < (cs.getD i 0)
        · skip
          refine W.icF (pc' := 23) X d_jdk_52_m21_20 (XT.ii_le_f hc1) rfl ?_
          refine W.iload (pc' := 25) X d_jdk_52_m21_23 rfl rfl ?_
          exact W.ireturn X d_jdk_52_m21_25 rfl (by decide) rfl (by decide) (by decide) ⟨_, rfl, rfl, ⟨i, us, rfl, (Keep.trans (Keep.refl h [d]) KL (allS (Or.inl (List.mem_of_getElem? (i := 0) rfl)) all0)), DL, hi', hc1⟩⟩
        · skip
          refine W.icT (pc' := 26) X d_jdk_52_m21_20 (XT.ii_le_t hc1) (by decide) (by decide) ?_
          refine W.aloadN (pc' := 27) X d_jdk_52_m21_26 rfl rfl rfl ?_
          refine W.iloadN (pc' := 28) X d_jdk_52_m21_27 rfl rfl ?_
          refine W.iload (pc' := 30) X d_jdk_52_m21_28 rfl rfl ?_
          refine W.i2b (pc' := 31) (w := (cs.getD i 0).toInt8.toInt32) X d_jdk_52_m21_30 rfl rfl ?_
          refine W.bastore (pc' := 32) (i := i) X DL (len32 (by omega)).1 (len32 (by omega)).2.1 (by omega) (lo8_lo8 _) P5 P6 d_jdk_52_m21_31 rfl fun T h1 X K2 A3 => ?_
          refine W.iinc (pc' := 35) (ls' := #[.val (.ref a), .val (.int (i + 1).toInt32), .val (.ref d), .val (.int i.toInt32), .val (.int cs.length.toInt32), .val (.int i.toInt32), .val (.int (cs.getD i 0))]) X (1 : Int32) (w := (i + 1).toInt32) d_jdk_52_m21_32 (by decide) rfl (t32s i) rfl rfl ?_
          refine W.iinc (pc' := 38) (ls' := #[.val (.ref a), .val (.int (i + 1).toInt32), .val (.ref d), .val (.int (i + 1).toInt32), .val (.int cs.length.toInt32), .val (.int i.toInt32), .val (.int (cs.getD i 0))]) X (1 : Int32) (w := (i + 1).toInt32) d_jdk_52_m21_35 (by decide) rfl (t32s i) rfl rfl ?_
          refine W.iinc (pc' := 41) (ls' := #[.val (.ref a), .val (.int (i + 1).toInt32), .val (.ref d), .val (.int (i + 1).toInt32), .val (.int cs.length.toInt32), .val (.int (i + 1).toInt32), .val (.int (cs.getD i 0))]) X (1 : Int32) (w := (i + 1).toInt32) d_jdk_52_m21_38 (by decide) rfl (t32s i) rfl rfl ?_
          refine W.goto (pc' := 3) X d_jdk_52_m21_41 (by decide) (by decide) ?_
          have F4 := (AL.keep K2 (ninS hne nin0))
          exact ih (i + 1) _ T h1 _ (by omega) (by rw [List.length_set]; exact hu) (all_step hi' hall hc1) (Or.inr ⟨_, rfl⟩) X (KL.trans K2 (allS (Or.inl (List.mem_of_getElem? (i := 0) rfl)) all0)) F4 A3
  refine W.iconst (pc' := 1) X (0 : Int32) d_jdk_52_m21_0 (by decide) rfl ?_
  refine W.istore (pc' := 3) (ls' := #[.val (.ref a), .val (.int (0 : Int32)), .val (.ref d), .val (.int (0 : Int32)), .val (.int cs.length.toInt32), .val (.int (0 : Int32)), .unset]) X d_jdk_52_m21_1 rfl rfl ?_
  exact loop cs.length 0 vs T h .unset (by omega) P4 (fun x q => by simp at q) (Or.inl rfl) X (Keep.refl _ _) P0 P1
abbrev c_cmp3u_q (Z : State) (zC : Int32) (fS : Value) (h : Heap) (B : Addr → Prop) (a : Addr) (cs : List Int32) (xR : Value) (h' : Heap) : Prop := ∃ (t : Addr), xR = (.ref t) ∧ Keep h h' [] ∧ h.size ≤ t ∧ Ar Z h' t .byte (by16 cs)
def c_cmp3u_rm : Room := { frames := 3, cells := 2, slots := 18, locals := 40 }
set_option maxRecDepth 65536 in
set_option maxHeartbeats 40000000 in
theorem c_cmp3u {l : Launch} {Z : State} {a0 : Array Value} {zC : Int32} {fS : Value} {h : Heap} {B : Addr → Prop} {a : Addr} {cs : List Int32} (G : Gl Z a0 zC fS) (hE : En Z B h) (P0 : Ar Z h a .char (cs.map Value.int)) (P1 : ¬ Lat cs) (P2 : C16 cs) (P3 : cs.length ≤ 6) : Con l Z consts_1 [] (⟨"java/lang/StringUTF16", "compress", "([CII)[B"⟩ : MethodName) jdk_52_method_16_code 6 (some (.array .byte)) c_cmp3u_rm B h #[(.ref a), (.int (0 : Int32)), (.int cs.length.toInt32)] (fun vR hR BR => ∃ xR, vR = some xR ∧ BR = B ∧ c_cmp3u_q Z zC fS h B a cs xR hR) := by
  have hz0 := hE.1.1
  refine Con.intro (ls := #[.val (.ref a), .val (.int (0 : Int32)), .val (.int cs.length.toInt32), .unset, .unset, .unset]) (plainFor_of_name pn0) G.2.1 hE (fun m => by first | rfl | (simp [entryFrame, mkF, argsToLocals, Value.category]; done) | rfl) ?_
  intro pP eE sS mM blw mth cC T hs X
  refine W.iloadN (pc' := 1) X d_jdk_52_m16_0 rfl rfl ?_
  refine W.newA (aty := .byte) (pc' := 3) (k' := 1) (n' := 6) (cap := 6) X (w17 G) d_jdk_52_m16_1 (len32 (by omega)).1 (by rw [(len32 (by omega)).2.1]; exact P3) (by decide) rfl (by decide) (by decide) (by decide) (by decide) fun T h1 a2 X K3 g4 g5 nb6 A7 => ?_
  have A7 : Ar Z h1 a2 .byte (List.replicate cs.length (.int (0 : Int32))) := by have q := A7; rw [(len32 (by omega)).2.1] at q; exact q
  refine W.astoreN (pc' := 4) (ls' := #[.val (.ref a), .val (.int (0 : Int32)), .val (.int cs.length.toInt32), .val (.ref a2), .unset, .unset]) X d_jdk_52_m16_3 rfl rfl rfl ?_
  refine W.aloadN (pc' := 5) X d_jdk_52_m16_4 rfl rfl rfl ?_
  refine W.iloadN (pc' := 6) X d_jdk_52_m16_5 rfl rfl ?_
  refine W.aloadN (pc' := 7) X d_jdk_52_m16_6 rfl rfl rfl ?_
  refine W.iconst (pc' := 8) X (0 : Int32) d_jdk_52_m16_7 (by decide) rfl ?_
  refine W.iloadN (pc' := 9) X d_jdk_52_m16_8 rfl rfl ?_
  have F8 := (P0.keep K3 nin0)
  refine W.callS (pc' := 12) (W := 0) (argsL := [(.ref a), (.int (0 : Int32)), (.ref a2), (.int (0 : Int32)), (.int cs.length.toInt32)]) (st := []) (k' := 1) (n' := 6) X (c_cmp5u (a := a) (d := a2) (cs := cs) (vs := (List.replicate cs.length (.int (0 : Int32)))) G X.en F8 A7 P1 P2 (by simp) g5 nb6) (w59 G) (w60 G) (w61 G) (w57 G) (by decide) (by decide) (by decide) rfl (lenOf pd1 rfl) rfl rfl (Nat.le_of_eq rfl) d_jdk_52_m16_9 rfl (by decide) (by decide) (by decide) (by decide) (kr fun T h9 xr X z10 q11 => ?_)
  obtain ⟨e12, e13, rfl, K14, F15, F16, F17⟩ := q11
  refine W.istore (pc' := 14) (ls' := #[.val (.ref a), .val (.int (0 : Int32)), .val (.int cs.length.toInt32), .val (.ref a2), .val (.int e12.toInt32), .unset]) X d_jdk_52_m16_12 rfl rfl ?_
  refine W.iload (pc' := 16) X d_jdk_52_m16_14 rfl rfl ?_
  refine W.iloadN (pc' := 17) X d_jdk_52_m16_16 rfl rfl ?_
  refine W.icF (pc' := 20) X d_jdk_52_m16_17 (XT.ii_eq_f (fun q => by have hj := F16; have hj2 := (eq32 (by omega) (by omega)).mp q; omega)) rfl ?_
  refine W.aloadN (pc' := 21) X d_jdk_52_m16_20 rfl rfl rfl ?_
  refine W.iloadN (pc' := 22) X d_jdk_52_m16_21 rfl rfl ?_
  refine W.iloadN (pc' := 23) X d_jdk_52_m16_22 rfl rfl ?_
  have F18 := (F8.keep K14 (ninS (Nat.ne_of_lt (Nat.lt_of_lt_of_le P0.lt (Nat.le_trans (Nat.le_refl _) g4))) nin0))
  have en19 := X.en
  refine W.callS (pc' := 26) (W := 0) (argsL := [(.ref a), (.int (0 : Int32)), (.int cs.length.toInt32)]) (st := []) (k' := 2) (n' := 18) X (c_toB (a := a) (cs := cs) G X.en F18 P3) (w100 G) (w101 G) (w102 G) (w57 G) (by decide) (by decide) (by decide) rfl (lenOf pd2 rfl) rfl rfl (Nat.le_of_eq rfl) d_jdk_52_m16_23 rfl (by decide) (by decide) (by decide) (by decide) (kr fun T h20 xr X z21 q22 => ?_)
  obtain ⟨a23, rfl, K24, g25, F26⟩ := q22
  have g27 : Z.heap.size ≤ a23 := Nat.le_trans (Nat.le_trans hz0 (Nat.le_trans K3.1 K14.1)) g25
  have nb28 : ¬ B a23 := fun q => absurd (en19.2 _ q) (Nat.not_lt.mpr g25)
  refine W.astore (pc' := 28) (ls' := #[.val (.ref a), .val (.int (0 : Int32)), .val (.int cs.length.toInt32), .val (.ref a2), .val (.int e12.toInt32), .val (.ref a23)]) X d_jdk_52_m16_26 rfl rfl rfl ?_
  refine W.aload (pc' := 30) X d_jdk_52_m16_28 rfl rfl rfl ?_
  refine W.iload (pc' := 32) X d_jdk_52_m16_30 rfl rfl ?_
  refine W.callS (pc' := 35) (W := 0) (argsL := [(.ref a23), (.int e12.toInt32)]) (st := []) (k' := 2) (n' := 18) X (c_getC (d := a23) (cs := cs) (i := e12) G X.en F26 P2 F16) (w116 G) (w117 G) (w118 G) (w57 G) (by decide) (by decide) (by decide) rfl (lenOf pd12 rfl) rfl rfl (Nat.le_of_eq rfl) d_jdk_52_m16_32 rfl (by decide) (by decide) (by decide) (by decide) (kp fun T X => ?_)
  refine W.sipush (pc' := 38) X (255 : Int32) d_jdk_52_m16_35 (by decide) rfl ?_
  refine W.icT (pc' := 54) X d_jdk_52_m16_38 (XT.ii_gt_t F17) (by decide) (by decide) ?_
  refine W.aload (pc' := 56) X d_jdk_52_m16_54 rfl rfl rfl ?_
  exact W.areturn X d_jdk_52_m16_56 rfl rfl rfl rfl (by decide) (by decide) ⟨_, rfl, rfl, ⟨a23, rfl, (Keep.trans (Keep.trans (Keep.trans (Keep.refl h []) K3 all0) K14 (allS (Or.inr (Nat.le_trans (Nat.le_refl _) g4)) all0)) K24 all0), (Nat.le_trans (Nat.le_trans K3.1 K14.1) g25), F26⟩⟩
def c_codlU_rm : Room := { frames := 0, cells := 0, slots := 0, locals := 0 }
set_option maxRecDepth 65536 in
set_option maxHeartbeats 40000000 in
theorem c_codlU {l : Launch} {Z : State} {a0 : Array Value} {zC : Int32} {fS : Value} {h : Heap} {B : Addr → Prop} {d : Addr} {cs : List Int32} (G : Gl Z a0 zC fS) (hE : En Z B h) (P0 : Ar Z h d .byte (by16 cs)) (P1 : 0 < cs.length) (P2 : cs.length ≤ 6) : Con l Z consts_1 [] (⟨"java/lang/StringUTF16", "coderFromArrayLen", "([BI)B"⟩ : MethodName) jdk_52_method_15_code 2 (some .byte) c_codlU_rm B h #[(.ref d), (.int cs.length.toInt32)] (fun vR hR BR => vR = some (.int (1 : Int32)) ∧ hR = h ∧ BR = B) := by
  have hz0 := hE.1.1
  refine Con.intro (ls := #[.val (.ref d), .val (.int cs.length.toInt32)]) (plainFor_of_name pn0) G.2.1 hE (fun m => by first | rfl | (simp [entryFrame, mkF, argsToLocals, Value.category]; done) | rfl) ?_
  intro pP eE sS mM blw mth cC T hs X
  refine W.iloadN (pc' := 1) X d_jdk_52_m15_0 rfl rfl ?_
  refine W.aloadN (pc' := 2) X d_jdk_52_m15_1 rfl rfl rfl ?_
  refine W.alen (pc' := 3) (z := (2 * cs.length).toInt32) X P0 (by rw [len16]) d_jdk_52_m15_2 rfl ?_
  refine W.isub (pc' := 4) (w := (cs.length.toInt32 - ((2 * cs.length).toInt32))) X d_jdk_52_m15_3 rfl rfl ?_
  refine W.bipush (pc' := 6) X (31 : Int32) d_jdk_52_m15_4 (by decide) rfl ?_
  refine W.iushr (pc' := 7) (w := (1 : Int32)) X d_jdk_52_m15_6 (cod31 P1 (by omega)) rfl ?_
  refine W.i2b (pc' := 8) (w := (1 : Int32)) X d_jdk_52_m15_7 (by decide) rfl ?_
  exact W.ireturn X d_jdk_52_m15_8 rfl (by decide) (by decide) (by decide) (by decide) ⟨rfl, rfl, rfl⟩
abbrev c_init4u_q (Z : State) (zC : Int32) (fS : Value) (h : Heap) (B : Addr → Prop) (x a : Addr) (cs : List Int32) (v0 c0 : Value) (h' : Heap) : Prop := ∃ (t : Addr), Keep h h' [x] ∧ h.size ≤ t ∧ Su Z h' x t cs
def c_init4u_rm : Room := { frames := 4, cells := 2, slots := 18, locals := 57 }
set_option maxRecDepth 65536 in
set_option maxHeartbeats 40000000 in
theorem c_init4u {l : Launch} {Z : State} {a0 : Array Value} {zC : Int32} {fS : Value} {h : Heap} {B : Addr → Prop} {x a : Addr} {cs : List Int32} {v0 c0 : Value} (G : Gl Z a0 zC fS) (hE : En Z B h) (P0 : Exa Z h x "java/lang/String") (P1 : Fld Z h x "java/lang/String" "value" "[B" v0) (P2 : Fld Z h x "java/lang/String" "coder" "B" c0) (P3 : Ar Z h a .char (cs.map Value.int)) (P4 : ¬ Lat cs) (P5 : C16 cs) (P6 : 0 < cs.length) (P7 : cs.length ≤ 6) (P8 : Z.heap.size ≤ x) (P9 : ¬ B x) : Con l Z consts_1 [] (⟨"java/lang/String", "<init>", "([CIILjava/lang/Void;)V"⟩ : MethodName) jdk_42_method_149_code 6 none c_init4u_rm B h #[(.ref x), (.ref a), (.int (0 : Int32)), (.int cs.length.toInt32), .null] (fun vR hR BR => vR = none ∧ BR = B ∧ c_init4u_q Z zC fS h B x a cs v0 c0 hR) := by
  have hz0 := hE.1.1
  refine Con.intro (ls := #[.val (.ref x), .val (.ref a), .val (.int (0 : Int32)), .val (.int cs.length.toInt32), .val .null, .unset]) (plainFor_of_name pn4) G.2.1 hE (fun m => by first | rfl | (simp [entryFrame, mkF, argsToLocals, Value.category]; done) | rfl) ?_
  intro pP eE sS mM blw mth cC T hs X
  refine W.aloadN (pc' := 1) X d_jdk_42_m149_0 rfl rfl rfl ?_
  refine W.initO (pc' := 4) (W := 0) X (w13 G) (w14 G) (w15 G) d_jdk_42_m149_1 rfl (by decide) (Nat.le_of_eq rfl) (by decide) rfl fun T X => ?_
  refine W.iloadN (pc' := 5) X d_jdk_42_m149_4 rfl rfl ?_
  refine W.ifT (pc' := 27) X d_jdk_42_m149_5 (XT.i0_ne_t (fun q => absurd ((eq32 (b := 0) (by omega) (by decide)).mp q) (by omega))) (by decide) (by decide) ?_
  refine W.getS (pc' := 30) (host := "") X (Or.inl (w49 G)) Via.refl G.2.2.1 d_jdk_42_m149_27 rfl fun T X => ?_
  refine W.ifF (pc' := 33) X d_jdk_42_m149_30 (XT.i0_eq_f G.2.2.2.1) rfl ?_
  refine W.aloadN (pc' := 34) X d_jdk_42_m149_33 rfl rfl rfl ?_
  refine W.iloadN (pc' := 35) X d_jdk_42_m149_34 rfl rfl ?_
  refine W.iloadN (pc' := 36) X d_jdk_42_m149_35 rfl rfl ?_
  have en1 := X.en
  refine W.callS (pc' := 39) (W := 0) (argsL := [(.ref a), (.int (0 : Int32)), (.int cs.length.toInt32)]) (st := []) (k' := 2) (n' := 18) X (c_cmp3u (a := a) (cs := cs) G X.en P3 P4 P5 P7) (w55 G) (w56 G) (w58 G) (w57 G) (by decide) (by decide) (by decide) rfl (lenOf pd2 rfl) rfl rfl (Nat.le_of_eq rfl) d_jdk_42_m149_36 rfl (by decide) (by decide) (by decide) (by decide) (kr fun T h2 xr X z3 q4 => ?_)
  obtain ⟨a5, rfl, K6, g7, F8⟩ := q4
  have g9 : Z.heap.size ≤ a5 := Nat.le_trans (Nat.le_trans hz0 (Nat.le_refl _)) g7
  have nb10 : ¬ B a5 := fun q => absurd (en1.2 _ q) (Nat.not_lt.mpr g7)
  refine W.astore (pc' := 41) (ls' := #[.val (.ref x), .val (.ref a), .val (.int (0 : Int32)), .val (.int cs.length.toInt32), .val .null, .val (.ref a5)]) X d_jdk_42_m149_39 rfl rfl rfl ?_
  refine W.aloadN (pc' := 42) X d_jdk_42_m149_41 rfl rfl rfl ?_
  refine W.aload (pc' := 44) X d_jdk_42_m149_42 rfl rfl rfl ?_
  refine W.iloadN (pc' := 45) X d_jdk_42_m149_44 rfl rfl ?_
  refine W.callS (pc' := 48) (W := 1) (argsL := [(.ref a5), (.int cs.length.toInt32)]) (st := [(.ref x)]) (k' := 2) (n' := 18) X (c_codlU (d := a5) (cs := cs) G X.en F8 P6 P7) (w62 G) (w63 G) (w64 G) (w57 G) (by decide) (by decide) (by decide) rfl (lenOf pd3 rfl) rfl rfl (Nat.le_of_eq rfl) d_jdk_42_m149_45 rfl (by decide) (by decide) (by decide) (by decide) (kp fun T X => ?_)
  have F11 := (P2.keep K6 nin0)
  have F12 := (P0.keep K6)
  refine W.putF (pc' := 51) X (w23 G) Via.refl F11 F12 (Or.inr ⟨(w19 G), rfl, rfl⟩) (w4 G) (ty := .byte) (by decide) (by decide) (by decide) P8 P9 d_jdk_42_m149_48 rfl fun T h13 X W14 => ?_
  have F15 := F11.same W14
  refine W.aloadN (pc' := 52) X d_jdk_42_m149_51 rfl rfl rfl ?_
  refine W.aload (pc' := 54) X d_jdk_42_m149_52 rfl rfl rfl ?_
  have F16 := ((P1.keep K6 nin0).other W14 (Or.inr (slot_ne (Or.inr (w18 G)) (Or.inr (w19 G)) (by decide) (t := (.array .byte)) (t' := .byte) (by decide) (by decide))))
  have F17 := (F12.wr W14)
  refine W.putF (pc' := 57) X (w22 G) Via.refl F16 F17 (Or.inr ⟨(w18 G), rfl, rfl⟩) (w4 G) (ty := (.array .byte)) (by decide) rfl rfl P8 P9 d_jdk_42_m149_54 rfl fun T h18 X W19 => ?_
  have F20 := F16.same W19
  have F21 := (F17.wr W19)
  have F22 := (F15.other W19 (Or.inr (slot_ne (Or.inr (w19 G)) (Or.inr (w18 G)) (by decide) (t := .byte) (t' := (.array .byte)) (by decide) (by decide))))
  have F23 := ((F8.keep (Keep.of_wr W14) (ninS (Nat.ne_of_gt (Nat.lt_of_lt_of_le P0.lt (Nat.le_trans (Nat.le_refl _) g7))) nin0)).keep (Keep.of_wr W19) (ninS (Nat.ne_of_gt (Nat.lt_of_lt_of_le P0.lt (Nat.le_trans (Nat.le_refl _) g7))) nin0))
  exact W.vreturn X d_jdk_42_m149_57 rfl (by decide) (by decide) ⟨rfl, rfl, ⟨a5, (Keep.wr (Keep.wr (Keep.trans (Keep.refl h [x]) K6 all0) W14 (Or.inl (List.mem_of_getElem? (i := 0) rfl))) W19 (Or.inl (List.mem_of_getElem? (i := 0) rfl))), (Nat.le_trans (Nat.le_refl _) g7), ⟨F21, F22, F20, F23, P5⟩⟩⟩
abbrev c_init1u_q (Z : State) (zC : Int32) (fS : Value) (h : Heap) (B : Addr → Prop) (x a : Addr) (cs : List Int32) (v0 c0 : Value) (h' : Heap) : Prop := ∃ (t : Addr), Keep h h' [x] ∧ h.size ≤ t ∧ Su Z h' x t cs
def c_init1u_rm : Room := { frames := 5, cells := 2, slots := 18, locals := 74 }
set_option maxRecDepth 65536 in
set_option maxHeartbeats 40000000 in
theorem c_init1u {l : Launch} {Z : State} {a0 : Array Value} {zC : Int32} {fS : Value} {h : Heap} {B : Addr → Prop} {x a : Addr} {cs : List Int32} {v0 c0 : Value} (G : Gl Z a0 zC fS) (hE : En Z B h) (P0 : Exa Z h x "java/lang/String") (P1 : Fld Z h x "java/lang/String" "value" "[B" v0) (P2 : Fld Z h x "java/lang/String" "coder" "B" c0) (P3 : Ar Z h a .char (cs.map Value.int)) (P4 : ¬ Lat cs) (P5 : C16 cs) (P6 : 0 < cs.length) (P7 : cs.length ≤ 6) (P8 : Z.heap.size ≤ x) (P9 : ¬ B x) : Con l Z consts_1 [] (⟨"java/lang/String", "<init>", "([C)V"⟩ : MethodName) jdk_42_method_3_code 2 none c_init1u_rm B h #[(.ref x), (.ref a)] (fun vR hR BR => vR = none ∧ BR = B ∧ c_init1u_q Z zC fS h B x a cs v0 c0 hR) := by
  have hz0 := hE.1.1
  refine Con.intro (ls := #[.val (.ref x), .val (.ref a)]) (plainFor_of_name pn4) G.2.1 hE (fun m => by first | rfl | (simp [entryFrame, mkF, argsToLocals, Value.category]; done) | rfl) ?_
  intro pP eE sS mM blw mth cC T hs X
  refine W.aloadN (pc' := 1) X d_jdk_42_m3_0 rfl rfl rfl ?_
  refine W.aloadN (pc' := 2) X d_jdk_42_m3_1 rfl rfl rfl ?_
  refine W.iconst (pc' := 3) X (0 : Int32) d_jdk_42_m3_2 (by decide) rfl ?_
  refine W.aloadN (pc' := 4) X d_jdk_42_m3_3 rfl rfl rfl ?_
  refine W.alen (pc' := 5) (z := cs.length.toInt32) X P3 (by simp) d_jdk_42_m3_4 rfl ?_
  refine W.aconst_null (pc' := 6) X d_jdk_42_m3_5 rfl ?_
  have en1 := X.en
  refine W.callN (pc' := 9) (W := 0) (argsL := [(.ref a), (.int (0 : Int32)), (.int cs.length.toInt32), .null]) (st := []) (k' := 2) (n' := 18) (a := x) X (c_init4u (x := x) (a := a) (cs := cs) (v0 := v0) (c0 := c0) G X.en P0 P1 P2 P3 P4 P5 P6 P7 P8 P9) rfl (w9 G) (w10 G) (w12 G) (w5 G) (by decide) (by decide) (by decide) rfl (lenOf pd5 rfl) rfl rfl (Nat.le_of_eq rfl) d_jdk_42_m3_6 rfl (by decide) (by decide) (by decide) (by decide) (kv fun T h2 X z3 q4 => ?_)
  obtain ⟨a5, K6, g7, F8⟩ := q4
  have g9 : Z.heap.size ≤ a5 := Nat.le_trans (Nat.le_trans hz0 (Nat.le_refl _)) g7
  have nb10 : ¬ B a5 := fun q => absurd (en1.2 _ q) (Nat.not_lt.mpr g7)
  exact W.vreturn X d_jdk_42_m3_9 rfl (by decide) (by decide) ⟨rfl, rfl, ⟨a5, (Keep.trans (Keep.refl h [x]) K6 (allS (Or.inl (List.mem_of_getElem? (i := 0) rfl)) all0)), (Nat.le_trans (Nat.le_refl _) g7), F8⟩⟩
def c_mis_rm : Room := { frames := 0, cells := 0, slots := 0, locals := 0 }
set_option maxRecDepth 65536 in
set_option maxHeartbeats 40000000 in
theorem c_mis {l : Launch} {Z : State} {a0 : Array Value} {zC : Int32} {fS : Value} {h : Heap} {B : Addr → Prop} {v u : Addr} {cs : List Int32} (G : Gl Z a0 zC fS) (hE : En Z B h) (P0 : Ar Z h v .byte (by8 cs)) (P1 : Ar Z h u .byte (by8 [(45 : Int32)])) (P2 : Lat cs) (P3 : 0 < cs.length) : Con l Z consts_1 [] (⟨"jdk/internal/util/ArraysSupport", "mismatch", "([BI[BII)I"⟩ : MethodName) jdk_48_method_14_code 8 (some .int) c_mis_rm B h #[(.ref v), (.int (0 : Int32)), (.ref u), (.int (0 : Int32)), (.int (1 : Int32))] (fun vR hR BR => vR = some (.int (b2m (decide (cs.getD 0 0 = 45)))) ∧ hR = h ∧ BR = B) := by
  have hz0 := hE.1.1
  refine Con.intro (ls := #[.val (.ref v), .val (.int (0 : Int32)), .val (.ref u), .val (.int (0 : Int32)), .val (.int (1 : Int32)), .unset, .unset, .unset]) (plainFor_of_name pn18) G.2.1 hE (fun m => by first | (simp [entryFrame, mkF, argsToLocals, Value.category]; done) | rfl) ?_
  intro pP eE sS mM blw mth cC T hs X
  have hL := P0.len_lt; rw [List.length_map] at hL
  refine W.iconst (pc' := 1) X (0 : Int32) d_jdk_48_m14_0 (by decide) rfl ?_
  refine W.istore (pc' := 3) (ls' := #[.val (.ref v), .val (.int (0 : Int32)), .val (.ref u), .val (.int (0 : Int32)), .val (.int (1 : Int32)), .val (.int (0 : Int32)), .unset, .unset]) X d_jdk_48_m14_1 rfl rfl ?_
  refine W.iload (pc' := 5) X d_jdk_48_m14_3 rfl rfl ?_
  refine W.bipush (pc' := 7) X (7 : Int32) d_jdk_48_m14_5 (by decide) rfl ?_
  refine W.icT (pc' := 70) X d_jdk_48_m14_7 (by decide) (by decide) (by decide) ?_
  refine W.iload (pc' := 72) X d_jdk_48_m14_70 rfl rfl ?_
  refine W.iload (pc' := 74) X d_jdk_48_m14_72 rfl rfl ?_
  refine W.icF (pc' := 77) X d_jdk_48_m14_74 (by decide) rfl ?_
  refine W.aloadN (pc' := 78) X d_jdk_48_m14_77 rfl rfl rfl ?_
  refine W.iloadN (pc' := 79) X d_jdk_48_m14_78 rfl rfl ?_
  refine W.iload (pc' := 81) X d_jdk_48_m14_79 rfl rfl ?_
  refine W.iadd (pc' := 82) (w := (0 : Int32)) X d_jdk_48_m14_81 (by decide) rfl ?_
  refine W.baload (pc' := 83) (v := (.int (cs.getD 0 0).toInt8.toInt32)) X P0 (by decide) (by8_get (i := 0) P3 hL) d_jdk_48_m14_82 rfl ?_
  refine W.aloadN (pc' := 84) X d_jdk_48_m14_83 rfl rfl rfl ?_
  refine W.iloadN (pc' := 85) X d_jdk_48_m14_84 rfl rfl ?_
  refine W.iload (pc' := 87) X d_jdk_48_m14_85 rfl rfl ?_
  refine W.iadd (pc' := 88) (w := (0 : Int32)) X d_jdk_48_m14_87 (by decide) rfl ?_
  refine W.baload (pc' := 89) (v := (.int (45 : Int32).toInt8.toInt32)) X P1 (by decide) rfl d_jdk_48_m14_88 rfl ?_
  by_cases hc1 : (cs.getD 0 0).toInt8.toInt32 = (45 : Int32).toInt8.toInt32
  · skip
    refine W.icT (pc' := 95) X d_jdk_48_m14_89 (XT.ii_eq_t hc1) (by decide) (by decide) ?_
    refine W.iinc (pc' := 98) (ls' := #[.val (.ref v), .val (.int (0 : Int32)), .val (.ref u), .val (.int (0 : Int32)), .val (.int (1 : Int32)), .val (.int (1 : Int32)), .unset, .unset]) X (1 : Int32) (w := (1 : Int32)) d_jdk_48_m14_95 (by decide) rfl (by decide) rfl rfl ?_
    refine W.goto (pc' := 70) X d_jdk_48_m14_98 (by decide) (by decide) ?_
    refine W.iload (pc' := 72) X d_jdk_48_m14_70 rfl rfl ?_
    refine W.iload (pc' := 74) X d_jdk_48_m14_72 rfl rfl ?_
    refine W.icT (pc' := 101) X d_jdk_48_m14_74 (by decide) (by decide) (by decide) ?_
    refine W.iconst (pc' := 102) X (-1 : Int32) d_jdk_48_m14_101 (by decide) rfl ?_
    exact W.ireturn X d_jdk_48_m14_102 rfl (by decide) rfl (by decide) (by decide) ⟨(sm1 (decide_eq_true (lo8_inj (P2.at P3) ⟨by decide, by decide⟩ hc1))), rfl, rfl⟩
  · skip
    refine W.icF (pc' := 92) X d_jdk_48_m14_89 (XT.ii_eq_f hc1) rfl ?_
    refine W.iload (pc' := 94) X d_jdk_48_m14_92 rfl rfl ?_
    exact W.ireturn X d_jdk_48_m14_94 rfl (by decide) rfl (by decide) (by decide) ⟨(sm0 (decide_eq_false fun z => hc1 (by rw [z]))), rfl, rfl⟩
def c_sw2_rm : Room := { frames := 2, cells := 0, slots := 0, locals := 27 }
set_option maxRecDepth 65536 in
set_option maxHeartbeats 40000000 in
theorem c_sw2 {l : Launch} {Z : State} {a0 : Array Value} {zC : Int32} {fS : Value} {h : Heap} {B : Addr → Prop} {r rb u ub : Addr} {cs : List Int32} (G : Gl Z a0 zC fS) (hE : En Z B h) (P0 : Sx Z h r rb cs) (P1 : Str Z h u ub ([(45 : Int32)])) : Con l Z consts_1 [] (⟨"java/lang/String", "startsWith", "(Ljava/lang/String;I)Z"⟩ : MethodName) jdk_42_method_75_code 8 (some .boolean) c_sw2_rm B h #[(.ref r), (.ref u), (.int (0 : Int32))] (fun vR hR BR => vR = some (.int (b2i (decide (cs.head? = some 45)))) ∧ hR = h ∧ BR = B) := by
  have hz0 := hE.1.1
  refine Con.intro (ls := #[.val (.ref r), .val (.ref u), .val (.int (0 : Int32)), .unset, .unset, .unset, .unset, .unset]) (plainFor_of_name pn4) G.2.1 hE (fun m => by first | (simp [entryFrame, mkF, argsToLocals, Value.category]; done) | rfl) ?_
  intro pP eE sS mM blw mth cC T hs X
  have hL := P0.len_lt
  rcases P0 with P0 | P0
  · skip
    refine W.iloadN (pc' := 1) X d_jdk_42_m75_0 rfl rfl ?_
    refine W.ifF (pc' := 4) X d_jdk_42_m75_1 (by decide) rfl ?_
    refine W.iloadN (pc' := 5) X d_jdk_42_m75_4 rfl rfl ?_
    refine W.aloadN (pc' := 6) X d_jdk_42_m75_5 rfl rfl rfl ?_
    have F1 : Sx Z h r rb cs := Or.inl P0
    refine W.callV (pc' := 9) (W := 1) (argsL := []) (st := [(.int (0 : Int32))]) (k' := 0) (n' := 0) (a := r) X (c_lenX (r := r) (rb := rb) (cs := cs) G X.en F1) (w39 G) (w40 G) (nfM (z' := (⟨"java/lang/String", "startsWith", "(Ljava/lang/String;)Z"⟩ : MethodName)) rfl (w32 G)) (w42 G) (w41 G) P0.exa (w43 G) (w5 G) (by decide) (by decide) (by decide) rfl (lenOf pd19 rfl) rfl rfl (Nat.le_of_eq rfl) d_jdk_42_m75_6 rfl (by decide) (by decide) (by decide) (by decide) (kp fun T X => ?_)
    refine W.aloadN (pc' := 10) X d_jdk_42_m75_9 rfl rfl rfl ?_
    have F2 : Sx Z h u ub ([(45 : Int32)]) := Or.inl P1
    refine W.callV (pc' := 13) (W := 2) (argsL := []) (st := [(.int cs.length.toInt32), (.int (0 : Int32))]) (k' := 0) (n' := 0) (a := u) X (c_lenX (r := u) (rb := ub) (cs := [(45 : Int32)]) G X.en F2) (w39 G) (w40 G) (nfM (z' := (⟨"java/lang/String", "startsWith", "(Ljava/lang/String;)Z"⟩ : MethodName)) rfl (w32 G)) (w42 G) (w41 G) P1.exa (w43 G) (w5 G) (by decide) (by decide) (by decide) rfl (lenOf pd19 rfl) rfl rfl (Nat.le_of_eq rfl) d_jdk_42_m75_10 rfl (by decide) (by decide) (by decide) (by decide) (kp fun T X => ?_)
    refine W.isub (pc' := 14) (w := (cs.length.toInt32 - (1 : Int32))) X d_jdk_42_m75_13 rfl rfl ?_
    by_cases hc1 : (cs.length.toInt32 - (1 : Int32)) < (0 : Int32)
    · skip
      refine W.icF (pc' := 17) X d_jdk_42_m75_14 (XT.ii_le_f hc1) rfl ?_
      refine W.iconst (pc' := 18) X (0 : Int32) d_jdk_42_m75_17 (by decide) rfl ?_
      exact W.ireturn X d_jdk_42_m75_18 rfl (by decide) (by decide) (by decide) (by decide) ⟨(sv0 (decide_eq_false (hd_no hL hc1))), rfl, rfl⟩
    · skip
      refine W.icT (pc' := 19) X d_jdk_42_m75_14 (XT.ii_le_t hc1) (by decide) (by decide) ?_
      have hpos := hd_yes hc1
      refine W.aloadN (pc' := 20) X d_jdk_42_m75_19 rfl rfl rfl ?_
      refine W.getF (pc' := 23) X (w22 G) Via.refl P0.val d_jdk_42_m75_20 rfl fun T X => ?_
      refine W.astoreN (pc' := 24) (ls' := #[.val (.ref r), .val (.ref u), .val (.int (0 : Int32)), .val (.ref rb), .unset, .unset, .unset, .unset]) X d_jdk_42_m75_23 rfl rfl rfl ?_
      refine W.aloadN (pc' := 25) X d_jdk_42_m75_24 rfl rfl rfl ?_
      refine W.getF (pc' := 28) X (w22 G) Via.refl P1.val d_jdk_42_m75_25 rfl fun T X => ?_
      refine W.astore (pc' := 30) (ls' := #[.val (.ref r), .val (.ref u), .val (.int (0 : Int32)), .val (.ref rb), .val (.ref ub), .unset, .unset, .unset]) X d_jdk_42_m75_28 rfl rfl rfl ?_
      refine W.iconst (pc' := 31) X (0 : Int32) d_jdk_42_m75_30 (by decide) rfl ?_
      refine W.istore (pc' := 33) (ls' := #[.val (.ref r), .val (.ref u), .val (.int (0 : Int32)), .val (.ref rb), .val (.ref ub), .val (.int (0 : Int32)), .unset, .unset]) X d_jdk_42_m75_31 rfl rfl ?_
      refine W.aload (pc' := 35) X d_jdk_42_m75_33 rfl rfl rfl ?_
      refine W.alen (pc' := 36) (z := (1 : Int32)) X P1.arr rfl d_jdk_42_m75_35 rfl ?_
      refine W.istore (pc' := 38) (ls' := #[.val (.ref r), .val (.ref u), .val (.int (0 : Int32)), .val (.ref rb), .val (.ref ub), .val (.int (0 : Int32)), .val (.int (1 : Int32)), .unset]) X d_jdk_42_m75_36 rfl rfl ?_
      refine W.aloadN (pc' := 39) X d_jdk_42_m75_38 rfl rfl rfl ?_
      refine W.callV (pc' := 42) (W := 0) (argsL := []) (st := []) (k' := 0) (n' := 0) (a := r) X (c_coder (a := r) (b := rb) (cs := cs) G X.en P0) (w44 G) (w45 G) (nfM (z' := (⟨"java/lang/String", "startsWith", "(Ljava/lang/String;)Z"⟩ : MethodName)) rfl (w32 G)) (w47 G) (w46 G) F1.exa (w48 G) (w5 G) (by decide) (by decide) (by decide) rfl (lenOf pd6 rfl) rfl rfl (Nat.le_of_eq rfl) d_jdk_42_m75_39 rfl (by decide) (by decide) (by decide) (by decide) (kp fun T X => ?_)
      refine W.istore (pc' := 44) (ls' := #[.val (.ref r), .val (.ref u), .val (.int (0 : Int32)), .val (.ref rb), .val (.ref ub), .val (.int (0 : Int32)), .val (.int (1 : Int32)), .val (.int (0 : Int32))]) X d_jdk_42_m75_42 rfl rfl ?_
      refine W.iload (pc' := 46) X d_jdk_42_m75_44 rfl rfl ?_
      refine W.aloadN (pc' := 47) X d_jdk_42_m75_46 rfl rfl rfl ?_
      refine W.callV (pc' := 50) (W := 1) (argsL := []) (st := [(.int (0 : Int32))]) (k' := 0) (n' := 0) (a := u) X (c_coder (a := u) (b := ub) (cs := [(45 : Int32)]) G X.en P1) (w44 G) (w45 G) (nfM (z' := (⟨"java/lang/String", "startsWith", "(Ljava/lang/String;)Z"⟩ : MethodName)) rfl (w32 G)) (w47 G) (w46 G) F2.exa (w48 G) (w5 G) (by decide) (by decide) (by decide) rfl (lenOf pd6 rfl) rfl rfl (Nat.le_of_eq rfl) d_jdk_42_m75_47 rfl (by decide) (by decide) (by decide) (by decide) (kp fun T X => ?_)
      refine W.icF (pc' := 53) X d_jdk_42_m75_50 (by decide) rfl ?_
      refine W.iload (pc' := 55) X d_jdk_42_m75_53 rfl rfl ?_
      refine W.iconst (pc' := 56) X (1 : Int32) d_jdk_42_m75_55 (by decide) rfl ?_
      refine W.icT (pc' := 63) X d_jdk_42_m75_56 (by decide) (by decide) (by decide) ?_
      refine W.aloadN (pc' := 64) X d_jdk_42_m75_63 rfl rfl rfl ?_
      refine W.iloadN (pc' := 65) X d_jdk_42_m75_64 rfl rfl ?_
      refine W.aload (pc' := 67) X d_jdk_42_m75_65 rfl rfl rfl ?_
      refine W.iconst (pc' := 68) X (0 : Int32) d_jdk_42_m75_67 (by decide) rfl ?_
      refine W.iload (pc' := 70) X d_jdk_42_m75_68 rfl rfl ?_
      refine W.callS (pc' := 73) (W := 0) (argsL := [(.ref rb), (.int (0 : Int32)), (.ref ub), (.int (0 : Int32)), (.int (1 : Int32))]) (st := []) (k' := 0) (n' := 0) X (c_mis (v := rb) (u := ub) (cs := cs) G X.en P0.arr P1.arr P0.lat hpos) (w65 G) (w66 G) (w68 G) (w67 G) (by decide) (by decide) (by decide) rfl (lenOf pd20 rfl) rfl rfl (Nat.le_of_eq rfl) d_jdk_42_m75_70 rfl (by decide) (by decide) (by decide) (by decide) (kp fun T X => ?_)
      by_cases hc2 : (b2m (decide (cs.getD 0 0 = 45))) < (0 : Int32)
      · skip
        refine W.ifF (pc' := 76) X d_jdk_42_m75_73 (XT.i0_ge_f hc2) rfl ?_
        refine W.iconst (pc' := 77) X (1 : Int32) d_jdk_42_m75_76 (by decide) rfl ?_
        refine W.goto (pc' := 81) X d_jdk_42_m75_77 (by decide) (by decide) ?_
        exact W.ireturn X d_jdk_42_m75_81 rfl (by decide) (by decide) (by decide) (by decide) ⟨(sv1 (decide_eq_true ((hd_eq hpos).mpr (of_decide_eq_true (b2m1 hc2))))), rfl, rfl⟩
      · skip
        refine W.ifT (pc' := 80) X d_jdk_42_m75_73 (XT.i0_ge_t hc2) (by decide) (by decide) ?_
        refine W.iconst (pc' := 81) X (0 : Int32) d_jdk_42_m75_80 (by decide) rfl ?_
        exact W.ireturn X d_jdk_42_m75_81 rfl (by decide) (by decide) (by decide) (by decide) ⟨(sv0 (decide_eq_false fun z => of_decide_eq_false (b2m0 hc2) ((hd_eq hpos).mp z))), rfl, rfl⟩
  · skip
    refine W.iloadN (pc' := 1) X d_jdk_42_m75_0 rfl rfl ?_
    refine W.ifF (pc' := 4) X d_jdk_42_m75_1 (by decide) rfl ?_
    refine W.iloadN (pc' := 5) X d_jdk_42_m75_4 rfl rfl ?_
    refine W.aloadN (pc' := 6) X d_jdk_42_m75_5 rfl rfl rfl ?_
    have F3 : Sx Z h r rb cs := Or.inr P0
    refine W.callV (pc' := 9) (W := 1) (argsL := []) (st := [(.int (0 : Int32))]) (k' := 0) (n' := 0) (a := r) X (c_lenX (r := r) (rb := rb) (cs := cs) G X.en F3) (w39 G) (w40 G) (nfM (z' := (⟨"java/lang/String", "startsWith", "(Ljava/lang/String;)Z"⟩ : MethodName)) rfl (w32 G)) (w42 G) (w41 G) P0.exa (w43 G) (w5 G) (by decide) (by decide) (by decide) rfl (lenOf pd19 rfl) rfl rfl (Nat.le_of_eq rfl) d_jdk_42_m75_6 rfl (by decide) (by decide) (by decide) (by decide) (kp fun T X => ?_)
    refine W.aloadN (pc' := 10) X d_jdk_42_m75_9 rfl rfl rfl ?_
    have F4 : Sx Z h u ub ([(45 : Int32)]) := Or.inl P1
    refine W.callV (pc' := 13) (W := 2) (argsL := []) (st := [(.int cs.length.toInt32), (.int (0 : Int32))]) (k' := 0) (n' := 0) (a := u) X (c_lenX (r := u) (rb := ub) (cs := [(45 : Int32)]) G X.en F4) (w39 G) (w40 G) (nfM (z' := (⟨"java/lang/String", "startsWith", "(Ljava/lang/String;)Z"⟩ : MethodName)) rfl (w32 G)) (w42 G) (w41 G) P1.exa (w43 G) (w5 G) (by decide) (by decide) (by decide) rfl (lenOf pd19 rfl) rfl rfl (Nat.le_of_eq rfl) d_jdk_42_m75_10 rfl (by decide) (by decide) (by decide) (by decide) (kp fun T X => ?_)
    refine W.isub (pc' := 14) (w := (cs.length.toInt32 - (1 : Int32))) X d_jdk_42_m75_13 rfl rfl ?_
    by_cases hc1 : (cs.length.toInt32 - (1 : Int32)) < (0 : Int32)
    · skip
      refine W.icF (pc' := 17) X d_jdk_42_m75_14 (XT.ii_le_f hc1) rfl ?_
      refine W.iconst (pc' := 18) X (0 : Int32) d_jdk_42_m75_17 (by decide) rfl ?_
      exact W.ireturn X d_jdk_42_m75_18 rfl (by decide) (by decide) (by decide) (by decide) ⟨(sv0 (decide_eq_false (hd_no hL hc1))), rfl, rfl⟩
    · skip
      refine W.icT (pc' := 19) X d_jdk_42_m75_14 (XT.ii_le_t hc1) (by decide) (by decide) ?_
      have hpos := hd_yes hc1
      refine W.aloadN (pc' := 20) X d_jdk_42_m75_19 rfl rfl rfl ?_
      refine W.getF (pc' := 23) X (w22 G) Via.refl P0.val d_jdk_42_m75_20 rfl fun T X => ?_
      refine W.astoreN (pc' := 24) (ls' := #[.val (.ref r), .val (.ref u), .val (.int (0 : Int32)), .val (.ref rb), .unset, .unset, .unset, .unset]) X d_jdk_42_m75_23 rfl rfl rfl ?_
      refine W.aloadN (pc' := 25) X d_jdk_42_m75_24 rfl rfl rfl ?_
      refine W.getF (pc' := 28) X (w22 G) Via.refl P1.val d_jdk_42_m75_25 rfl fun T X => ?_
      refine W.astore (pc' := 30) (ls' := #[.val (.ref r), .val (.ref u), .val (.int (0 : Int32)), .val (.ref rb), .val (.ref ub), .unset, .unset, .unset]) X d_jdk_42_m75_28 rfl rfl rfl ?_
      refine W.iconst (pc' := 31) X (0 : Int32) d_jdk_42_m75_30 (by decide) rfl ?_
      refine W.istore (pc' := 33) (ls' := #[.val (.ref r), .val (.ref u), .val (.int (0 : Int32)), .val (.ref rb), .val (.ref ub), .val (.int (0 : Int32)), .unset, .unset]) X d_jdk_42_m75_31 rfl rfl ?_
      refine W.aload (pc' := 35) X d_jdk_42_m75_33 rfl rfl rfl ?_
      refine W.alen (pc' := 36) (z := (1 : Int32)) X P1.arr rfl d_jdk_42_m75_35 rfl ?_
      refine W.istore (pc' := 38) (ls' := #[.val (.ref r), .val (.ref u), .val (.int (0 : Int32)), .val (.ref rb), .val (.ref ub), .val (.int (0 : Int32)), .val (.int (1 : Int32)), .unset]) X d_jdk_42_m75_36 rfl rfl ?_
      refine W.aloadN (pc' := 39) X d_jdk_42_m75_38 rfl rfl rfl ?_
      refine W.callV (pc' := 42) (W := 0) (argsL := []) (st := []) (k' := 0) (n' := 0) (a := r) X (c_coderU (r := r) (rb := rb) (cs := cs) G X.en P0) (w44 G) (w45 G) (nfM (z' := (⟨"java/lang/String", "startsWith", "(Ljava/lang/String;)Z"⟩ : MethodName)) rfl (w32 G)) (w47 G) (w46 G) P0.exa (w48 G) (w5 G) (by decide) (by decide) (by decide) rfl (lenOf pd6 rfl) rfl rfl (Nat.le_of_eq rfl) d_jdk_42_m75_39 rfl (by decide) (by decide) (by decide) (by decide) (kp fun T X => ?_)
      refine W.istore (pc' := 44) (ls' := #[.val (.ref r), .val (.ref u), .val (.int (0 : Int32)), .val (.ref rb), .val (.ref ub), .val (.int (0 : Int32)), .val (.int (1 : Int32)), .val (.int (1 : Int32))]) X d_jdk_42_m75_42 rfl rfl ?_
      refine W.iload (pc' := 46) X d_jdk_42_m75_44 rfl rfl ?_
      refine W.aloadN (pc' := 47) X d_jdk_42_m75_46 rfl rfl rfl ?_
      refine W.callV (pc' := 50) (W := 1) (argsL := []) (st := [(.int (1 : Int32))]) (k' := 0) (n' := 0) (a := u) X (c_coder (a := u) (b := ub) (cs := [(45 : Int32)]) G X.en P1) (w44 G) (w45 G) (nfM (z' := (⟨"java/lang/String", "startsWith", "(Ljava/lang/String;)Z"⟩ : MethodName)) rfl (w32 G)) (w47 G) (w46 G) F4.exa (w48 G) (w5 G) (by decide) (by decide) (by decide) rfl (lenOf pd6 rfl) rfl rfl (Nat.le_of_eq rfl) d_jdk_42_m75_47 rfl (by decide) (by decide) (by decide) (by decide) (kp fun T X => ?_)
      refine W.icT (pc' := 82) X d_jdk_42_m75_50 (by decide) (by decide) (by decide) ?_
      refine W.iload (pc' := 84) X d_jdk_42_m75_82 rfl rfl ?_
      refine W.ifT (pc' := 89) X d_jdk_42_m75_84 (by decide) (by decide) (by decide) ?_
      refine W.iload (pc' := 91) X d_jdk_42_m75_89 rfl rfl ?_
      refine W.iload (pc' := 93) X d_jdk_42_m75_91 rfl rfl ?_
      refine W.icF (pc' := 96) X d_jdk_42_m75_93 (by decide) rfl ?_
      refine W.aloadN (pc' := 97) X d_jdk_42_m75_96 rfl rfl rfl ?_
      refine W.iloadN (pc' := 98) X d_jdk_42_m75_97 rfl rfl ?_
      refine W.iinc (pc' := 101) (ls' := #[.val (.ref r), .val (.ref u), .val (.int (1 : Int32)), .val (.ref rb), .val (.ref ub), .val (.int (0 : Int32)), .val (.int (1 : Int32)), .val (.int (1 : Int32))]) X (1 : Int32) (w := (1 : Int32)) d_jdk_42_m75_98 (by decide) rfl (by decide) rfl rfl ?_
      refine W.callS (pc' := 104) (W := 0) (argsL := [(.ref rb), (.int (0 : Int32))]) (st := []) (k' := 0) (n' := 0) X (c_getC (d := rb) (cs := cs) (i := 0) G X.en P0.arr P0.c16 hpos) (w119 G) (w117 G) (w118 G) (w57 G) (by decide) (by decide) (by decide) rfl (lenOf pd12 rfl) rfl rfl (Nat.le_of_eq rfl) d_jdk_42_m75_101 rfl (by decide) (by decide) (by decide) (by decide) (kp fun T X => ?_)
      refine W.aload (pc' := 106) X d_jdk_42_m75_104 rfl rfl rfl ?_
      refine W.iload (pc' := 108) X d_jdk_42_m75_106 rfl rfl ?_
      refine W.iinc (pc' := 111) (ls' := #[.val (.ref r), .val (.ref u), .val (.int (1 : Int32)), .val (.ref rb), .val (.ref ub), .val (.int (1 : Int32)), .val (.int (1 : Int32)), .val (.int (1 : Int32))]) X (1 : Int32) (w := (1 : Int32)) d_jdk_42_m75_108 (by decide) rfl (by decide) rfl rfl ?_
      refine W.baload (pc' := 112) (v := (.int (45 : Int32).toInt8.toInt32)) X P1.arr (by decide) rfl d_jdk_42_m75_111 rfl ?_
      refine W.sipush (pc' := 115) X (255 : Int32) d_jdk_42_m75_112 (by decide) rfl ?_
      refine W.iand (pc' := 116) (w := (45 : Int32)) X d_jdk_42_m75_115 (by decide) rfl ?_
      by_cases hc3 : (cs.getD 0 0) = (45 : Int32)
      · skip
        refine W.icT (pc' := 89) X d_jdk_42_m75_116 (XT.ii_eq_t hc3) (by decide) (by decide) ?_
        refine W.iload (pc' := 91) X d_jdk_42_m75_89 rfl rfl ?_
        refine W.iload (pc' := 93) X d_jdk_42_m75_91 rfl rfl ?_
        refine W.icT (pc' := 121) X d_jdk_42_m75_93 (by decide) (by decide) (by decide) ?_
        refine W.iconst (pc' := 122) X (1 : Int32) d_jdk_42_m75_121 (by decide) rfl ?_
        exact W.ireturn X d_jdk_42_m75_122 rfl (by decide) (by decide) (by decide) (by decide) ⟨(sv1 (decide_eq_true ((hd_eq hpos).mpr hc3))), rfl, rfl⟩
      · skip
        refine W.icF (pc' := 119) X d_jdk_42_m75_116 (XT.ii_eq_f hc3) rfl ?_
        refine W.iconst (pc' := 120) X (0 : Int32) d_jdk_42_m75_119 (by decide) rfl ?_
        exact W.ireturn X d_jdk_42_m75_120 rfl (by decide) (by decide) (by decide) (by decide) ⟨(sv0 (decide_eq_false fun z => hc3 ((hd_eq hpos).mp z))), rfl, rfl⟩
def c_sw1_rm : Room := { frames := 3, cells := 0, slots := 0, locals := 46 }
set_option maxRecDepth 65536 in
set_option maxHeartbeats 40000000 in
theorem c_sw1 {l : Launch} {Z : State} {a0 : Array Value} {zC : Int32} {fS : Value} {h : Heap} {B : Addr → Prop} {r rb u ub : Addr} {cs : List Int32} (G : Gl Z a0 zC fS) (hE : En Z B h) (P0 : Sx Z h r rb cs) (P1 : Str Z h u ub ([(45 : Int32)])) : Con l Z consts_1 [] (⟨"java/lang/String", "startsWith", "(Ljava/lang/String;)Z"⟩ : MethodName) jdk_42_method_76_code 2 (some .boolean) c_sw1_rm B h #[(.ref r), (.ref u)] (fun vR hR BR => vR = some (.int (b2i (decide (cs.head? = some 45)))) ∧ hR = h ∧ BR = B) := by
  have hz0 := hE.1.1
  refine Con.intro (ls := #[.val (.ref r), .val (.ref u)]) (plainFor_of_name pn4) G.2.1 hE (fun m => by first | rfl | (simp [entryFrame, mkF, argsToLocals, Value.category]; done) | rfl) ?_
  intro pP eE sS mM blw mth cC T hs X
  refine W.aloadN (pc' := 1) X d_jdk_42_m76_0 rfl rfl rfl ?_
  refine W.aloadN (pc' := 2) X d_jdk_42_m76_1 rfl rfl rfl ?_
  refine W.iconst (pc' := 3) X (0 : Int32) d_jdk_42_m76_2 (by decide) rfl ?_
  refine W.callV (pc' := 6) (W := 0) (argsL := [(.ref u), (.int (0 : Int32))]) (st := []) (k' := 0) (n' := 0) (a := r) X (c_sw2 (r := r) (rb := rb) (u := u) (ub := ub) (cs := cs) G X.en P0 P1) (w34 G) (w35 G) (nfM (z' := (⟨"java/lang/String", "startsWith", "(Ljava/lang/String;)Z"⟩ : MethodName)) rfl (w32 G)) (w37 G) (w36 G) P0.exa (w38 G) (w5 G) (by decide) (by decide) (by decide) rfl (lenOf pd21 rfl) rfl rfl (Nat.le_of_eq rfl) d_jdk_42_m76_3 rfl (by decide) (by decide) (by decide) (by decide) (kp fun T X => ?_)
  exact W.ireturn X d_jdk_42_m76_6 rfl (by decide) (narB _) (by decide) (by decide) ⟨rfl, rfl, rfl⟩
def c_isD_rm : Room := { frames := 0, cells := 0, slots := 0, locals := 0 }
set_option maxRecDepth 65536 in
set_option maxHeartbeats 40000000 in
theorem c_isD {l : Launch} {Z : State} {a0 : Array Value} {zC : Int32} {fS : Value} {h : Heap} {B : Addr → Prop} {x : Int32} (G : Gl Z a0 zC fS) (hE : En Z B h)  : Con l Z consts_1 [] (⟨"com/example/compendio/compendio/io/TermFileIsDecimalPinLaw", "isD", "(C)Z"⟩ : MethodName) method_3_code 1 (some .boolean) c_isD_rm B h #[(.int x)] (fun vR hR BR => vR = some (.int (b2i (decide (cl x = 1)))) ∧ hR = h ∧ BR = B) := by
  have hz0 := hE.1.1
  refine Con.intro (ls := #[.val (.int x)]) (plainFor_of_name pn22) G.2.1 hE (fun m => by first | rfl | (simp [entryFrame, mkF, argsToLocals, Value.category]; done) | rfl) ?_
  intro pP eE sS mM blw mth cC T hs X
  refine W.iloadN (pc' := 1) X d_m3_0 rfl rfl ?_
  refine W.bipush (pc' := 3) X (48 : Int32) d_m3_1 (by decide) rfl ?_
  by_cases hc1 : x < (48 : Int32)
  · skip
    refine W.icT (pc' := 16) X d_m3_3 (XT.ii_lt_t hc1) (by decide) (by decide) ?_
    refine W.iconst (pc' := 17) X (0 : Int32) d_m3_16 (by decide) rfl ?_
    exact W.ireturn X d_m3_17 rfl (by decide) (by decide) (by decide) (by decide) ⟨(sv0 (decide_eq_false fun z => by have y := (cl_d x).mp z; first | exact y.1 hc1 | exact y.2 hc2)), rfl, rfl⟩
  · skip
    refine W.icF (pc' := 6) X d_m3_3 (XT.ii_lt_f hc1) rfl ?_
    refine W.iloadN (pc' := 7) X d_m3_6 rfl rfl ?_
    refine W.bipush (pc' := 9) X (57 : Int32) d_m3_7 (by decide) rfl ?_
    by_cases hc2 : (57 : Int32) < x
    · skip
      refine W.icT (pc' := 16) X d_m3_9 (XT.ii_gt_t hc2) (by decide) (by decide) ?_
      refine W.iconst (pc' := 17) X (0 : Int32) d_m3_16 (by decide) rfl ?_
      exact W.ireturn X d_m3_17 rfl (by decide) (by decide) (by decide) (by decide) ⟨(sv0 (decide_eq_false fun z => by have y := (cl_d x).mp z; first | exact y.1 hc1 | exact y.2 hc2)), rfl, rfl⟩
    · skip
      refine W.icF (pc' := 12) X d_m3_9 (XT.ii_gt_f hc2) rfl ?_
      refine W.iconst (pc' := 13) X (1 : Int32) d_m3_12 (by decide) rfl ?_
      refine W.goto (pc' := 17) X d_m3_13 (by decide) (by decide) ?_
      exact W.ireturn X d_m3_17 rfl (by decide) (by decide) (by decide) (by decide) ⟨(sv1 (decide_eq_true ((cl_d x).mpr ⟨hc1, hc2⟩))), rfl, rfl⟩
def c_all_rm : Room := { frames := 1, cells := 0, slots := 0, locals := 12 }
set_option maxRecDepth 65536 in
set_option maxHeartbeats 40000000 in
theorem c_all {l : Launch} {Z : State} {a0 : Array Value} {zC : Int32} {fS : Value} {h : Heap} {B : Addr → Prop} {a : Addr} {fs : List Int32} {n q i : Nat} (G : Gl Z a0 zC fS) (hE : En Z B h) (P0 : Ar Z h a .char (fs.map Value.int)) (P1 : fs.length = 6) (P2 : n ≤ 6) (P3 : q ≤ 1) (P4 : i < 6) : Con l Z consts_1 [] (⟨"com/example/compendio/compendio/io/TermFileIsDecimalPinLaw", "allowed", "([CIII)Z"⟩ : MethodName) method_4_code 4 (some .boolean) c_all_rm B h #[(.ref a), (.int n.toInt32), (.int q.toInt32), (.int i.toInt32)] (fun vR hR BR => vR = some (.int (b2i (alw (fs.map cl) n q i))) ∧ hR = h ∧ BR = B) := by
  have hz0 := hE.1.1
  refine Con.intro (ls := #[.val (.ref a), .val (.int n.toInt32), .val (.int q.toInt32), .val (.int i.toInt32)]) (plainFor_of_name pn22) G.2.1 hE (fun m => by first | rfl | (simp [entryFrame, mkF, argsToLocals, Value.category]; done) | rfl) ?_
  intro pP eE sS mM blw mth cC T hs X
  refine W.iloadN (pc' := 1) X d_m4_0 rfl rfl ?_
  refine W.iloadN (pc' := 2) X d_m4_1 rfl rfl ?_
  by_cases hc1 : i.toInt32 < q.toInt32
  · skip
    refine W.icT (pc' := 27) X d_m4_2 (XT.ii_lt_t hc1) (by decide) (by decide) ?_
    refine W.iconst (pc' := 28) X (1 : Int32) d_m4_27 (by decide) rfl ?_
    refine W.goto (pc' := 32) X d_m4_28 (by decide) (by decide) ?_
    exact W.ireturn X d_m4_32 rfl (by decide) (by decide) (by decide) (by decide) ⟨(sv1 (alw_t (by omega) (by first | exact Or.inr (Or.inr (Or.inr hc4)) | exact Or.inr (Or.inr (Or.inl (of_decide_eq_true (b2i1 hc3)))) | exact Or.inr (Or.inl (Nat.le_of_not_lt fun z => hc2 ((lt32 (by omega) (by omega)).mpr z))) | exact Or.inl ((lt32 (by omega) (by omega)).mp hc1)))), rfl, rfl⟩
  · skip
    refine W.icF (pc' := 5) X d_m4_2 (XT.ii_lt_f hc1) rfl ?_
    refine W.iloadN (pc' := 6) X d_m4_5 rfl rfl ?_
    refine W.iloadN (pc' := 7) X d_m4_6 rfl rfl ?_
    by_cases hc2 : i.toInt32 < n.toInt32
    · skip
      refine W.icF (pc' := 10) X d_m4_7 (XT.ii_ge_f hc2) rfl ?_
      refine W.aloadN (pc' := 11) X d_m4_10 rfl rfl rfl ?_
      refine W.iloadN (pc' := 12) X d_m4_11 rfl rfl ?_
      refine W.caload (pc' := 13) (v := (.int (fs.getD i 0))) X P0 (len32 (by omega)).1 (ch_get (by omega) (by omega)) d_m4_12 rfl ?_
      refine W.callS (pc' := 16) (W := 0) (argsL := [(.int (fs.getD i 0))]) (st := []) (k' := 0) (n' := 0) X (c_isD (x := (fs.getD i 0)) G X.en) (w94 G) (w95 G) (w96 G) (w53 G) (by decide) (by decide) (by decide) rfl (lenOf pd23 rfl) rfl rfl (Nat.le_of_eq rfl) d_m4_13 rfl (by decide) (by decide) (by decide) (by decide) (kp fun T X => ?_)
      by_cases hc3 : (b2i (decide (cl (fs.getD i 0) = 1))) = (0 : Int32)
      · skip
        refine W.ifF (pc' := 19) X d_m4_16 (XT.i0_ne_f hc3) rfl ?_
        refine W.aloadN (pc' := 20) X d_m4_19 rfl rfl rfl ?_
        refine W.iloadN (pc' := 21) X d_m4_20 rfl rfl ?_
        refine W.caload (pc' := 22) (v := (.int (fs.getD i 0))) X P0 (len32 (by omega)).1 (ch_get (by omega) (by omega)) d_m4_21 rfl ?_
        refine W.bipush (pc' := 24) X (46 : Int32) d_m4_22 (by decide) rfl ?_
        by_cases hc4 : (fs.getD i 0) = (46 : Int32)
        · skip
          refine W.icF (pc' := 27) X d_m4_24 (XT.ii_ne_f hc4) rfl ?_
          refine W.iconst (pc' := 28) X (1 : Int32) d_m4_27 (by decide) rfl ?_
          refine W.goto (pc' := 32) X d_m4_28 (by decide) (by decide) ?_
          exact W.ireturn X d_m4_32 rfl (by decide) (by decide) (by decide) (by decide) ⟨(sv1 (alw_t (by omega) (by first | exact Or.inr (Or.inr (Or.inr hc4)) | exact Or.inr (Or.inr (Or.inl (of_decide_eq_true (b2i1 hc3)))) | exact Or.inr (Or.inl (Nat.le_of_not_lt fun z => hc2 ((lt32 (by omega) (by omega)).mpr z))) | exact Or.inl ((lt32 (by omega) (by omega)).mp hc1)))), rfl, rfl⟩
        · skip
          refine W.icT (pc' := 31) X d_m4_24 (XT.ii_ne_t hc4) (by decide) (by decide) ?_
          refine W.iconst (pc' := 32) X (0 : Int32) d_m4_31 (by decide) rfl ?_
          exact W.ireturn X d_m4_32 rfl (by decide) (by decide) (by decide) (by decide) ⟨(sv0 (alw_f (by omega) (fun z => hc1 ((lt32 (by omega) (by omega)).mpr z)) (fun z => absurd ((lt32 (by omega) (by omega)).mp hc2) (by omega)) (of_decide_eq_false (b2i0 hc3)) hc4)), rfl, rfl⟩
      · skip
        refine W.ifT (pc' := 27) X d_m4_16 (XT.i0_ne_t hc3) (by decide) (by decide) ?_
        refine W.iconst (pc' := 28) X (1 : Int32) d_m4_27 (by decide) rfl ?_
        refine W.goto (pc' := 32) X d_m4_28 (by decide) (by decide) ?_
        exact W.ireturn X d_m4_32 rfl (by decide) (by decide) (by decide) (by decide) ⟨(sv1 (alw_t (by omega) (by first | exact Or.inr (Or.inr (Or.inr hc4)) | exact Or.inr (Or.inr (Or.inl (of_decide_eq_true (b2i1 hc3)))) | exact Or.inr (Or.inl (Nat.le_of_not_lt fun z => hc2 ((lt32 (by omega) (by omega)).mpr z))) | exact Or.inl ((lt32 (by omega) (by omega)).mp hc1)))), rfl, rfl⟩
    · skip
      refine W.icT (pc' := 27) X d_m4_7 (XT.ii_ge_t hc2) (by decide) (by decide) ?_
      refine W.iconst (pc' := 28) X (1 : Int32) d_m4_27 (by decide) rfl ?_
      refine W.goto (pc' := 32) X d_m4_28 (by decide) (by decide) ?_
      exact W.ireturn X d_m4_32 rfl (by decide) (by decide) (by decide) (by decide) ⟨(sv1 (alw_t (by omega) (by first | exact Or.inr (Or.inr (Or.inr hc4)) | exact Or.inr (Or.inr (Or.inl (of_decide_eq_true (b2i1 hc3)))) | exact Or.inr (Or.inl (Nat.le_of_not_lt fun z => hc2 ((lt32 (by omega) (by omega)).mpr z))) | exact Or.inl ((lt32 (by omega) (by omega)).mp hc1)))), rfl, rfl⟩
def c_pt_rm : Room := { frames := 0, cells := 0, slots := 0, locals := 0 }
set_option maxRecDepth 65536 in
set_option maxHeartbeats 40000000 in
theorem c_pt {l : Launch} {Z : State} {a0 : Array Value} {zC : Int32} {fS : Value} {h : Heap} {B : Addr → Prop} {a : Addr} {fs : List Int32} {n q i : Nat} (G : Gl Z a0 zC fS) (hE : En Z B h) (P0 : Ar Z h a .char (fs.map Value.int)) (P1 : fs.length = 6) (P2 : n ≤ 6) (P3 : q ≤ 1) (P4 : i < 6) : Con l Z consts_1 [] (⟨"com/example/compendio/compendio/io/TermFileIsDecimalPinLaw", "pt", "([CIII)I"⟩ : MethodName) method_5_code 4 (some .int) c_pt_rm B h #[(.ref a), (.int n.toInt32), (.int q.toInt32), (.int i.toInt32)] (fun vR hR BR => vR = some (.int (b2i (ptw (fs.map cl) n q i))) ∧ hR = h ∧ BR = B) := by
  have hz0 := hE.1.1
  refine Con.intro (ls := #[.val (.ref a), .val (.int n.toInt32), .val (.int q.toInt32), .val (.int i.toInt32)]) (plainFor_of_name pn22) G.2.1 hE (fun m => by first | rfl | (simp [entryFrame, mkF, argsToLocals, Value.category]; done) | rfl) ?_
  intro pP eE sS mM blw mth cC T hs X
  refine W.iloadN (pc' := 1) X d_m5_0 rfl rfl ?_
  refine W.iloadN (pc' := 2) X d_m5_1 rfl rfl ?_
  by_cases hc1 : i.toInt32 < q.toInt32
  · skip
    refine W.icT (pc' := 22) X d_m5_2 (XT.ii_lt_t hc1) (by decide) (by decide) ?_
    refine W.iconst (pc' := 23) X (0 : Int32) d_m5_22 (by decide) rfl ?_
    exact W.ireturn X d_m5_23 rfl (by decide) rfl (by decide) (by decide) ⟨(sv0 (ptw_f (by omega) (by first | exact Or.inr (Or.inr hc3) | exact Or.inr (Or.inl (Nat.le_of_not_lt fun z => hc2 ((lt32 (by omega) (by omega)).mpr z))) | exact Or.inl ((lt32 (by omega) (by omega)).mp hc1)))), rfl, rfl⟩
  · skip
    refine W.icF (pc' := 5) X d_m5_2 (XT.ii_lt_f hc1) rfl ?_
    refine W.iloadN (pc' := 6) X d_m5_5 rfl rfl ?_
    refine W.iloadN (pc' := 7) X d_m5_6 rfl rfl ?_
    by_cases hc2 : i.toInt32 < n.toInt32
    · skip
      refine W.icF (pc' := 10) X d_m5_7 (XT.ii_ge_f hc2) rfl ?_
      refine W.aloadN (pc' := 11) X d_m5_10 rfl rfl rfl ?_
      refine W.iloadN (pc' := 12) X d_m5_11 rfl rfl ?_
      refine W.caload (pc' := 13) (v := (.int (fs.getD i 0))) X P0 (len32 (by omega)).1 (ch_get (by omega) (by omega)) d_m5_12 rfl ?_
      refine W.bipush (pc' := 15) X (46 : Int32) d_m5_13 (by decide) rfl ?_
      by_cases hc3 : (fs.getD i 0) = (46 : Int32)
      · skip
        refine W.icF (pc' := 18) X d_m5_15 (XT.ii_ne_f hc3) rfl ?_
        refine W.iconst (pc' := 19) X (1 : Int32) d_m5_18 (by decide) rfl ?_
        refine W.goto (pc' := 23) X d_m5_19 (by decide) (by decide) ?_
        exact W.ireturn X d_m5_23 rfl (by decide) rfl (by decide) (by decide) ⟨(sv1 (ptw_t (by omega) (fun z => hc1 ((lt32 (by omega) (by omega)).mpr z)) (fun z => absurd ((lt32 (by omega) (by omega)).mp hc2) (by omega)) hc3)), rfl, rfl⟩
      · skip
        refine W.icT (pc' := 22) X d_m5_15 (XT.ii_ne_t hc3) (by decide) (by decide) ?_
        refine W.iconst (pc' := 23) X (0 : Int32) d_m5_22 (by decide) rfl ?_
        exact W.ireturn X d_m5_23 rfl (by decide) rfl (by decide) (by decide) ⟨(sv0 (ptw_f (by omega) (by first | exact Or.inr (Or.inr hc3) | exact Or.inr (Or.inl (Nat.le_of_not_lt fun z => hc2 ((lt32 (by omega) (by omega)).mpr z))) | exact Or.inl ((lt32 (by omega) (by omega)).mp hc1)))), rfl, rfl⟩
    · skip
      refine W.icT (pc' := 22) X d_m5_7 (XT.ii_ge_t hc2) (by decide) (by decide) ?_
      refine W.iconst (pc' := 23) X (0 : Int32) d_m5_22 (by decide) rfl ?_
      exact W.ireturn X d_m5_23 rfl (by decide) rfl (by decide) (by decide) ⟨(sv0 (ptw_f (by omega) (by first | exact Or.inr (Or.inr hc3) | exact Or.inr (Or.inl (Nat.le_of_not_lt fun z => hc2 ((lt32 (by omega) (by omega)).mpr z))) | exact Or.inl ((lt32 (by omega) (by omega)).mp hc1)))), rfl, rfl⟩
def c_exp_rm : Room := { frames := 2, cells := 0, slots := 0, locals := 27 }
set_option maxRecDepth 65536 in
set_option maxHeartbeats 40000000 in
theorem c_exp {l : Launch} {Z : State} {a0 : Array Value} {zC : Int32} {fS : Value} {h : Heap} {B : Addr → Prop} {a : Addr} {fs : List Int32} {n : Nat} (G : Gl Z a0 zC fS) (hE : En Z B h) (P0 : Ar Z h a .char (fs.map Value.int)) (P1 : fs.length = 6) (P2 : n ≤ 6) : Con l Z consts_1 [] (⟨"com/example/compendio/compendio/io/TermFileIsDecimalPinLaw", "expected", "([CI)Z"⟩ : MethodName) method_6_code 5 (some .boolean) c_exp_rm B h #[(.ref a), (.int n.toInt32)] (fun vR hR BR => vR = some (.int (b2i (expC (fs.map cl) n))) ∧ hR = h ∧ BR = B) := by
  have hz0 := hE.1.1
  refine Con.intro (ls := #[.val (.ref a), .val (.int n.toInt32), .unset, .unset, .unset]) (plainFor_of_name pn22) G.2.1 hE (fun m => by first | rfl | (simp [entryFrame, mkF, argsToLocals, Value.category]; done) | rfl) ?_
  intro pP eE sS mM blw mth cC T hs X
  have s92 : ∀ (q : Nat) (ok : Bool) (T : State), sgn (fs.map cl) n = q → q ≤ 1 → ¬ n ≤ q → ok = alls (fs.map cl) n q → Wk l Z consts_1 (⟨"com/example/compendio/compendio/io/TermFileIsDecimalPinLaw", "expected", "([CI)Z"⟩ : MethodName) method_6_code 5 (some .boolean) c_exp_rm B pP eE sS mM #[(.ref a), (.int n.toInt32)] blw mth cC B T h 0 0 → Go l Z consts_1 c_exp_rm B (fun vR hR BR => vR = some (.int (b2i (expC (fs.map cl) n))) ∧ hR = h ∧ BR = B) pP eE sS mM blw T 92 #[.val (.ref a), .val (.int n.toInt32), .val (.int q.toInt32), .val (.int (b2i ok)), .unset] [] := by
    intro q ok T hq hq1 hnq hok X
    refine W.aloadN (pc' := 93) X d_m6_92 rfl rfl rfl ?_
    refine W.iloadN (pc' := 94) X d_m6_93 rfl rfl ?_
    refine W.iloadN (pc' := 95) X d_m6_94 rfl rfl ?_
    refine W.iconst (pc' := 96) X (0 : Int32) d_m6_95 (by decide) rfl ?_
    refine W.callS (pc' := 99) (W := 0) (argsL := [(.ref a), (.int n.toInt32), (.int q.toInt32), (.int (0 : Int32))]) (st := []) (k' := 0) (n' := 0) X (c_pt (a := a) (fs := fs) (n := n) (q := q) (i := 0) G X.en P0 P1 P2 hq1 (by decide)) (w97 G) (w98 G) (w99 G) (w53 G) (by decide) (by decide) (by decide) rfl (lenOf pd24 rfl) rfl rfl (Nat.le_of_eq rfl) d_m6_96 rfl (by decide) (by decide) (by decide) (by decide) (kp fun T X => ?_)
    refine W.aloadN (pc' := 100) X d_m6_99 rfl rfl rfl ?_
    refine W.iloadN (pc' := 101) X d_m6_100 rfl rfl ?_
    refine W.iloadN (pc' := 102) X d_m6_101 rfl rfl ?_
    refine W.iconst (pc' := 103) X (1 : Int32) d_m6_102 (by decide) rfl ?_
    refine W.callS (pc' := 106) (W := 1) (argsL := [(.ref a), (.int n.toInt32), (.int q.toInt32), (.int (1 : Int32))]) (st := [(.int (b2i (ptw (fs.map cl) n q 0)))]) (k' := 0) (n' := 0) X (c_pt (a := a) (fs := fs) (n := n) (q := q) (i := 1) G X.en P0 P1 P2 hq1 (by decide)) (w97 G) (w98 G) (w99 G) (w53 G) (by decide) (by decide) (by decide) rfl (lenOf pd24 rfl) rfl rfl (Nat.le_of_eq rfl) d_m6_103 rfl (by decide) (by decide) (by decide) (by decide) (kp fun T X => ?_)
    refine W.iadd (pc' := 107) (w := ((b2i (ptw (fs.map cl) n q 0)) + (b2i (ptw (fs.map cl) n q 1)))) X d_m6_106 rfl rfl ?_
    refine W.aloadN (pc' := 108) X d_m6_107 rfl rfl rfl ?_
    refine W.iloadN (pc' := 109) X d_m6_108 rfl rfl ?_
    refine W.iloadN (pc' := 110) X d_m6_109 rfl rfl ?_
    refine W.iconst (pc' := 111) X (2 : Int32) d_m6_110 (by decide) rfl ?_
    refine W.callS (pc' := 114) (W := 1) (argsL := [(.ref a), (.int n.toInt32), (.int q.toInt32), (.int (2 : Int32))]) (st := [(.int ((b2i (ptw (fs.map cl) n q 0)) + (b2i (ptw (fs.map cl) n q 1))))]) (k' := 0) (n' := 0) X (c_pt (a := a) (fs := fs) (n := n) (q := q) (i := 2) G X.en P0 P1 P2 hq1 (by decide)) (w97 G) (w98 G) (w99 G) (w53 G) (by decide) (by decide) (by decide) rfl (lenOf pd24 rfl) rfl rfl (Nat.le_of_eq rfl) d_m6_111 rfl (by decide) (by decide) (by decide) (by decide) (kp fun T X => ?_)
    refine W.iadd (pc' := 115) (w := (((b2i (ptw (fs.map cl) n q 0)) + (b2i (ptw (fs.map cl) n q 1))) + (b2i (ptw (fs.map cl) n q 2)))) X d_m6_114 rfl rfl ?_
    refine W.aloadN (pc' := 116) X d_m6_115 rfl rfl rfl ?_
    refine W.iloadN (pc' := 117) X d_m6_116 rfl rfl ?_
    refine W.iloadN (pc' := 118) X d_m6_117 rfl rfl ?_
    refine W.iconst (pc' := 119) X (3 : Int32) d_m6_118 (by decide) rfl ?_
    refine W.callS (pc' := 122) (W := 1) (argsL := [(.ref a), (.int n.toInt32), (.int q.toInt32), (.int (3 : Int32))]) (st := [(.int (((b2i (ptw (fs.map cl) n q 0)) + (b2i (ptw (fs.map cl) n q 1))) + (b2i (ptw (fs.map cl) n q 2))))]) (k' := 0) (n' := 0) X (c_pt (a := a) (fs := fs) (n := n) (q := q) (i := 3) G X.en P0 P1 P2 hq1 (by decide)) (w97 G) (w98 G) (w99 G) (w53 G) (by decide) (by decide) (by decide) rfl (lenOf pd24 rfl) rfl rfl (Nat.le_of_eq rfl) d_m6_119 rfl (by decide) (by decide) (by decide) (by decide) (kp fun T X => ?_)
    refine W.iadd (pc' := 123) (w := ((((b2i (ptw (fs.map cl) n q 0)) + (b2i (ptw (fs.map cl) n q 1))) + (b2i (ptw (fs.map cl) n q 2))) + (b2i (ptw (fs.map cl) n q 3)))) X d_m6_122 rfl rfl ?_
    refine W.aloadN (pc' := 124) X d_m6_123 rfl rfl rfl ?_
    refine W.iloadN (pc' := 125) X d_m6_124 rfl rfl ?_
    refine W.iloadN (pc' := 126) X d_m6_125 rfl rfl ?_
    refine W.iconst (pc' := 127) X (4 : Int32) d_m6_126 (by decide) rfl ?_
    refine W.callS (pc' := 130) (W := 1) (argsL := [(.ref a), (.int n.toInt32), (.int q.toInt32), (.int (4 : Int32))]) (st := [(.int ((((b2i (ptw (fs.map cl) n q 0)) + (b2i (ptw (fs.map cl) n q 1))) + (b2i (ptw (fs.map cl) n q 2))) + (b2i (ptw (fs.map cl) n q 3))))]) (k' := 0) (n' := 0) X (c_pt (a := a) (fs := fs) (n := n) (q := q) (i := 4) G X.en P0 P1 P2 hq1 (by decide)) (w97 G) (w98 G) (w99 G) (w53 G) (by decide) (by decide) (by decide) rfl (lenOf pd24 rfl) rfl rfl (Nat.le_of_eq rfl) d_m6_127 rfl (by decide) (by decide) (by decide) (by decide) (kp fun T X => ?_)
    refine W.iadd (pc' := 131) (w := (((((b2i (ptw (fs.map cl) n q 0)) + (b2i (ptw (fs.map cl) n q 1))) + (b2i (ptw (fs.map cl) n q 2))) + (b2i (ptw (fs.map cl) n q 3))) + (b2i (ptw (fs.map cl) n q 4)))) X d_m6_130 rfl rfl ?_
    refine W.aloadN (pc' := 132) X d_m6_131 rfl rfl rfl ?_
    refine W.iloadN (pc' := 133) X d_m6_132 rfl rfl ?_
    refine W.iloadN (pc' := 134) X d_m6_133 rfl rfl ?_
    refine W.iconst (pc' := 135) X (5 : Int32) d_m6_134 (by decide) rfl ?_
    refine W.callS (pc' := 138) (W := 1) (argsL := [(.ref a), (.int n.toInt32), (.int q.toInt32), (.int (5 : Int32))]) (st := [(.int (((((b2i (ptw (fs.map cl) n q 0)) + (b2i (ptw (fs.map cl) n q 1))) + (b2i (ptw (fs.map cl) n q 2))) + (b2i (ptw (fs.map cl) n q 3))) + (b2i (ptw (fs.map cl) n q 4))))]) (k' := 0) (n' := 0) X (c_pt (a := a) (fs := fs) (n := n) (q := q) (i := 5) G X.en P0 P1 P2 hq1 (by decide)) (w97 G) (w98 G) (w99 G) (w53 G) (by decide) (by decide) (by decide) rfl (lenOf pd24 rfl) rfl rfl (Nat.le_of_eq rfl) d_m6_135 rfl (by decide) (by decide) (by decide) (by decide) (kp fun T X => ?_)
    refine W.iadd (pc' := 139) (w := ((((((b2i (ptw (fs.map cl) n q 0)) + (b2i (ptw (fs.map cl) n q 1))) + (b2i (ptw (fs.map cl) n q 2))) + (b2i (ptw (fs.map cl) n q 3))) + (b2i (ptw (fs.map cl) n q 4))) + (b2i (ptw (fs.map cl) n q 5)))) X d_m6_138 rfl rfl ?_
    refine W.istore (pc' := 141) (ls' := #[.val (.ref a), .val (.int n.toInt32), .val (.int q.toInt32), .val (.int (b2i ok)), .val (.int ((((((b2i (ptw (fs.map cl) n q 0)) + (b2i (ptw (fs.map cl) n q 1))) + (b2i (ptw (fs.map cl) n q 2))) + (b2i (ptw (fs.map cl) n q 3))) + (b2i (ptw (fs.map cl) n q 4))) + (b2i (ptw (fs.map cl) n q 5))))]) X d_m6_139 rfl rfl ?_
    refine W.iloadN (pc' := 142) X d_m6_141 rfl rfl ?_
    by_cases hg1 : (b2i ok) = (0 : Int32)
    · skip
      refine W.ifT (pc' := 175) X d_m6_142 (XT.i0_eq_t hg1) (by decide) (by decide) ?_
      refine W.iconst (pc' := 176) X (0 : Int32) d_m6_175 (by decide) rfl ?_
      exact W.ireturn X d_m6_176 rfl (by decide) (by decide) (by decide) (by decide) ⟨(sv0 (exp_f hq hnq (by omega) (by omega) (by first | exact Or.inr (Or.inr (Or.inr (of_decide_eq_false (b2i0 hg4)))) | exact Or.inr (Or.inr (Or.inl (of_decide_eq_false (b2i0 hg3)))) | exact Or.inr (Or.inl hg2) | exact Or.inl (hok.symm.trans (b2i0 hg1))))), rfl, rfl⟩
    · skip
      refine W.ifF (pc' := 145) X d_m6_142 (XT.i0_eq_f hg1) rfl ?_
      refine W.iload (pc' := 147) X d_m6_145 rfl rfl ?_
      refine W.iconst (pc' := 148) X (1 : Int32) d_m6_147 (by decide) rfl ?_
      by_cases hg2 : (1 : Int32) < ((((((b2i (ptw (fs.map cl) n q 0)) + (b2i (ptw (fs.map cl) n q 1))) + (b2i (ptw (fs.map cl) n q 2))) + (b2i (ptw (fs.map cl) n q 3))) + (b2i (ptw (fs.map cl) n q 4))) + (b2i (ptw (fs.map cl) n q 5)))
      · skip
        refine W.icT (pc' := 175) X d_m6_148 (XT.ii_gt_t hg2) (by decide) (by decide) ?_
        refine W.iconst (pc' := 176) X (0 : Int32) d_m6_175 (by decide) rfl ?_
        exact W.ireturn X d_m6_176 rfl (by decide) (by decide) (by decide) (by decide) ⟨(sv0 (exp_f hq hnq (by omega) (by omega) (by first | exact Or.inr (Or.inr (Or.inr (of_decide_eq_false (b2i0 hg4)))) | exact Or.inr (Or.inr (Or.inl (of_decide_eq_false (b2i0 hg3)))) | exact Or.inr (Or.inl hg2) | exact Or.inl (hok.symm.trans (b2i0 hg1))))), rfl, rfl⟩
      · skip
        refine W.icF (pc' := 151) X d_m6_148 (XT.ii_gt_f hg2) rfl ?_
        refine W.aloadN (pc' := 152) X d_m6_151 rfl rfl rfl ?_
        refine W.iloadN (pc' := 153) X d_m6_152 rfl rfl ?_
        refine W.caload (pc' := 154) (v := (.int (fs.getD q 0))) X P0 (len32 (by omega)).1 (ch_get (by omega) (by omega)) d_m6_153 rfl ?_
        refine W.callS (pc' := 157) (W := 0) (argsL := [(.int (fs.getD q 0))]) (st := []) (k' := 0) (n' := 0) X (c_isD (x := (fs.getD q 0)) G X.en) (w94 G) (w95 G) (w96 G) (w53 G) (by decide) (by decide) (by decide) rfl (lenOf pd23 rfl) rfl rfl (Nat.le_of_eq rfl) d_m6_154 rfl (by decide) (by decide) (by decide) (by decide) (kp fun T X => ?_)
        by_cases hg3 : (b2i (decide (cl (fs.getD q 0) = 1))) = (0 : Int32)
        · skip
          refine W.ifT (pc' := 175) X d_m6_157 (XT.i0_eq_t hg3) (by decide) (by decide) ?_
          refine W.iconst (pc' := 176) X (0 : Int32) d_m6_175 (by decide) rfl ?_
          exact W.ireturn X d_m6_176 rfl (by decide) (by decide) (by decide) (by decide) ⟨(sv0 (exp_f hq hnq (by omega) (by omega) (by first | exact Or.inr (Or.inr (Or.inr (of_decide_eq_false (b2i0 hg4)))) | exact Or.inr (Or.inr (Or.inl (of_decide_eq_false (b2i0 hg3)))) | exact Or.inr (Or.inl hg2) | exact Or.inl (hok.symm.trans (b2i0 hg1))))), rfl, rfl⟩
        · skip
          refine W.ifF (pc' := 160) X d_m6_157 (XT.i0_eq_f hg3) rfl ?_
          refine W.aloadN (pc' := 161) X d_m6_160 rfl rfl rfl ?_
          refine W.iloadN (pc' := 162) X d_m6_161 rfl rfl ?_
          refine W.iconst (pc' := 163) X (1 : Int32) d_m6_162 (by decide) rfl ?_
          refine W.isub (pc' := 164) (w := (n - 1).toInt32) X d_m6_163 (sub32 (b := 1) (by omega) (by omega)) rfl ?_
          refine W.caload (pc' := 165) (v := (.int (fs.getD (n - 1) 0))) X P0 (len32 (by omega)).1 (ch_get (by omega) (by omega)) d_m6_164 rfl ?_
          refine W.callS (pc' := 168) (W := 0) (argsL := [(.int (fs.getD (n - 1) 0))]) (st := []) (k' := 0) (n' := 0) X (c_isD (x := (fs.getD (n - 1) 0)) G X.en) (w94 G) (w95 G) (w96 G) (w53 G) (by decide) (by decide) (by decide) rfl (lenOf pd23 rfl) rfl rfl (Nat.le_of_eq rfl) d_m6_165 rfl (by decide) (by decide) (by decide) (by decide) (kp fun T X => ?_)
          by_cases hg4 : (b2i (decide (cl (fs.getD (n - 1) 0) = 1))) = (0 : Int32)
          · skip
            refine W.ifT (pc' := 175) X d_m6_168 (XT.i0_eq_t hg4) (by decide) (by decide) ?_
            refine W.iconst (pc' := 176) X (0 : Int32) d_m6_175 (by decide) rfl ?_
            exact W.ireturn X d_m6_176 rfl (by decide) (by decide) (by decide) (by decide) ⟨(sv0 (exp_f hq hnq (by omega) (by omega) (by first | exact Or.inr (Or.inr (Or.inr (of_decide_eq_false (b2i0 hg4)))) | exact Or.inr (Or.inr (Or.inl (of_decide_eq_false (b2i0 hg3)))) | exact Or.inr (Or.inl hg2) | exact Or.inl (hok.symm.trans (b2i0 hg1))))), rfl, rfl⟩
          · skip
            refine W.ifF (pc' := 171) X d_m6_168 (XT.i0_eq_f hg4) rfl ?_
            refine W.iconst (pc' := 172) X (1 : Int32) d_m6_171 (by decide) rfl ?_
            refine W.goto (pc' := 176) X d_m6_172 (by decide) (by decide) ?_
            exact W.ireturn X d_m6_176 rfl (by decide) (by decide) (by decide) (by decide) ⟨(sv1 (exp_t hq hnq (by omega) (by omega) (hok.symm.trans (b2i1 hg1)) hg2 (of_decide_eq_true (b2i1 hg3)) (of_decide_eq_true (b2i1 hg4)))), rfl, rfl⟩
  have s18 : ∀ (q : Nat) (T : State), sgn (fs.map cl) n = q → q ≤ 1 → Wk l Z consts_1 (⟨"com/example/compendio/compendio/io/TermFileIsDecimalPinLaw", "expected", "([CI)Z"⟩ : MethodName) method_6_code 5 (some .boolean) c_exp_rm B pP eE sS mM #[(.ref a), (.int n.toInt32)] blw mth cC B T h 0 0 → Go l Z consts_1 c_exp_rm B (fun vR hR BR => vR = some (.int (b2i (expC (fs.map cl) n))) ∧ hR = h ∧ BR = B) pP eE sS mM blw T 18 #[.val (.ref a), .val (.int n.toInt32), .val (.int q.toInt32), .unset, .unset] [] := by
    intro q T hq hq1 X
    refine W.iloadN (pc' := 19) X d_m6_18 rfl rfl ?_
    refine W.iloadN (pc' := 20) X d_m6_19 rfl rfl ?_
    refine W.isub (pc' := 21) (w := (n.toInt32 - q.toInt32)) X d_m6_20 rfl rfl ?_
    by_cases hg0 : (0 : Int32) < (n.toInt32 - q.toInt32)
    · skip
      refine W.ifT (pc' := 26) X d_m6_21 (XT.i0_gt_t hg0) (by decide) (by decide) ?_
      have hnq : ¬ n ≤ q := fun z => sub32n z (by omega) (by omega) hg0
      refine W.aloadN (pc' := 27) X d_m6_26 rfl rfl rfl ?_
      refine W.iloadN (pc' := 28) X d_m6_27 rfl rfl ?_
      refine W.iloadN (pc' := 29) X d_m6_28 rfl rfl ?_
      refine W.iconst (pc' := 30) X (0 : Int32) d_m6_29 (by decide) rfl ?_
      refine W.callS (pc' := 33) (W := 0) (argsL := [(.ref a), (.int n.toInt32), (.int q.toInt32), (.int (0 : Int32))]) (st := []) (k' := 0) (n' := 0) X (c_all (a := a) (fs := fs) (n := n) (q := q) (i := 0) G X.en P0 P1 P2 hq1 (by decide)) (w91 G) (w92 G) (w93 G) (w53 G) (by decide) (by decide) (by decide) rfl (lenOf pd25 rfl) rfl rfl (Nat.le_of_eq rfl) d_m6_30 rfl (by decide) (by decide) (by decide) (by decide) (kp fun T X => ?_)
      by_cases ha0 : (b2i (alw (fs.map cl) n q 0)) = (0 : Int32)
      · skip
        refine W.ifT (pc' := 90) X d_m6_33 (XT.i0_eq_t ha0) (by decide) (by decide) ?_
        refine W.iconst (pc' := 91) X (0 : Int32) d_m6_90 (by decide) rfl ?_
        refine W.istoreN (pc' := 92) (ls' := #[.val (.ref a), .val (.int n.toInt32), .val (.int q.toInt32), .val (.int (0 : Int32)), .unset]) X d_m6_91 rfl rfl ?_
        exact s92 q false T hq hq1 hnq (by unfold alls; (first | rw [b2i0 ha5] | rw [b2i0 ha4] | rw [b2i0 ha3] | rw [b2i0 ha2] | rw [b2i0 ha1] | rw [b2i0 ha0]); simp) X
      · skip
        refine W.ifF (pc' := 36) X d_m6_33 (XT.i0_eq_f ha0) rfl ?_
        refine W.aloadN (pc' := 37) X d_m6_36 rfl rfl rfl ?_
        refine W.iloadN (pc' := 38) X d_m6_37 rfl rfl ?_
        refine W.iloadN (pc' := 39) X d_m6_38 rfl rfl ?_
        refine W.iconst (pc' := 40) X (1 : Int32) d_m6_39 (by decide) rfl ?_
        refine W.callS (pc' := 43) (W := 0) (argsL := [(.ref a), (.int n.toInt32), (.int q.toInt32), (.int (1 : Int32))]) (st := []) (k' := 0) (n' := 0) X (c_all (a := a) (fs := fs) (n := n) (q := q) (i := 1) G X.en P0 P1 P2 hq1 (by decide)) (w91 G) (w92 G) (w93 G) (w53 G) (by decide) (by decide) (by decide) rfl (lenOf pd25 rfl) rfl rfl (Nat.le_of_eq rfl) d_m6_40 rfl (by decide) (by decide) (by decide) (by decide) (kp fun T X => ?_)
        by_cases ha1 : (b2i (alw (fs.map cl) n q 1)) = (0 : Int32)
        · skip
          refine W.ifT (pc' := 90) X d_m6_43 (XT.i0_eq_t ha1) (by decide) (by decide) ?_
          refine W.iconst (pc' := 91) X (0 : Int32) d_m6_90 (by decide) rfl ?_
          refine W.istoreN (pc' := 92) (ls' := #[.val (.ref a), .val (.int n.toInt32), .val (.int q.toInt32), .val (.int (0 : Int32)), .unset]) X d_m6_91 rfl rfl ?_
          exact s92 q false T hq hq1 hnq (by unfold alls; (first | rw [b2i0 ha5] | rw [b2i0 ha4] | rw [b2i0 ha3] | rw [b2i0 ha2] | rw [b2i0 ha1] | rw [b2i0 ha0]); simp) X
        · skip
          refine W.ifF (pc' := 46) X d_m6_43 (XT.i0_eq_f ha1) rfl ?_
          refine W.aloadN (pc' := 47) X d_m6_46 rfl rfl rfl ?_
          refine W.iloadN (pc' := 48) X d_m6_47 rfl rfl ?_
          refine W.iloadN (pc' := 49) X d_m6_48 rfl rfl ?_
          refine W.iconst (pc' := 50) X (2 : Int32) d_m6_49 (by decide) rfl ?_
          refine W.callS (pc' := 53) (W := 0) (argsL := [(.ref a), (.int n.toInt32), (.int q.toInt32), (.int (2 : Int32))]) (st := []) (k' := 0) (n' := 0) X (c_all (a := a) (fs := fs) (n := n) (q := q) (i := 2) G X.en P0 P1 P2 hq1 (by decide)) (w91 G) (w92 G) (w93 G) (w53 G) (by decide) (by decide) (by decide) rfl (lenOf pd25 rfl) rfl rfl (Nat.le_of_eq rfl) d_m6_50 rfl (by decide) (by decide) (by decide) (by decide) (kp fun T X => ?_)
          by_cases ha2 : (b2i (alw (fs.map cl) n q 2)) = (0 : Int32)
          · skip
            refine W.ifT (pc' := 90) X d_m6_53 (XT.i0_eq_t ha2) (by decide) (by decide) ?_
            refine W.iconst (pc' := 91) X (0 : Int32) d_m6_90 (by decide) rfl ?_
            refine W.istoreN (pc' := 92) (ls' := #[.val (.ref a), .val (.int n.toInt32), .val (.int q.toInt32), .val (.int (0 : Int32)), .unset]) X d_m6_91 rfl rfl ?_
            exact s92 q false T hq hq1 hnq (by unfold alls; (first | rw [b2i0 ha5] | rw [b2i0 ha4] | rw [b2i0 ha3] | rw [b2i0 ha2] | rw [b2i0 ha1] | rw [b2i0 ha0]); simp) X
          · skip
            refine W.ifF (pc' := 56) X d_m6_53 (XT.i0_eq_f ha2) rfl ?_
            refine W.aloadN (pc' := 57) X d_m6_56 rfl rfl rfl ?_
            refine W.iloadN (pc' := 58) X d_m6_57 rfl rfl ?_
            refine W.iloadN (pc' := 59) X d_m6_58 rfl rfl ?_
            refine W.iconst (pc' := 60) X (3 : Int32) d_m6_59 (by decide) rfl ?_
            refine W.callS (pc' := 63) (W := 0) (argsL := [(.ref a), (.int n.toInt32), (.int q.toInt32), (.int (3 : Int32))]) (st := []) (k' := 0) (n' := 0) X (c_all (a := a) (fs := fs) (n := n) (q := q) (i := 3) G X.en P0 P1 P2 hq1 (by decide)) (w91 G) (w92 G) (w93 G) (w53 G) (by decide) (by decide) (by decide) rfl (lenOf pd25 rfl) rfl rfl (Nat.le_of_eq rfl) d_m6_60 rfl (by decide) (by decide) (by decide) (by decide) (kp fun T X => ?_)
            by_cases ha3 : (b2i (alw (fs.map cl) n q 3)) = (0 : Int32)
            · skip
              refine W.ifT (pc' := 90) X d_m6_63 (XT.i0_eq_t ha3) (by decide) (by decide) ?_
              refine W.iconst (pc' := 91) X (0 : Int32) d_m6_90 (by decide) rfl ?_
              refine W.istoreN (pc' := 92) (ls' := #[.val (.ref a), .val (.int n.toInt32), .val (.int q.toInt32), .val (.int (0 : Int32)), .unset]) X d_m6_91 rfl rfl ?_
              exact s92 q false T hq hq1 hnq (by unfold alls; (first | rw [b2i0 ha5] | rw [b2i0 ha4] | rw [b2i0 ha3] | rw [b2i0 ha2] | rw [b2i0 ha1] | rw [b2i0 ha0]); simp) X
            · skip
              refine W.ifF (pc' := 66) X d_m6_63 (XT.i0_eq_f ha3) rfl ?_
              refine W.aloadN (pc' := 67) X d_m6_66 rfl rfl rfl ?_
              refine W.iloadN (pc' := 68) X d_m6_67 rfl rfl ?_
              refine W.iloadN (pc' := 69) X d_m6_68 rfl rfl ?_
              refine W.iconst (pc' := 70) X (4 : Int32) d_m6_69 (by decide) rfl ?_
              refine W.callS (pc' := 73) (W := 0) (argsL := [(.ref a), (.int n.toInt32), (.int q.toInt32), (.int (4 : Int32))]) (st := []) (k' := 0) (n' := 0) X (c_all (a := a) (fs := fs) (n := n) (q := q) (i := 4) G X.en P0 P1 P2 hq1 (by decide)) (w91 G) (w92 G) (w93 G) (w53 G) (by decide) (by decide) (by decide) rfl (lenOf pd25 rfl) rfl rfl (Nat.le_of_eq rfl) d_m6_70 rfl (by decide) (by decide) (by decide) (by decide) (kp fun T X => ?_)
              by_cases ha4 : (b2i (alw (fs.map cl) n q 4)) = (0 : Int32)
              · skip
                refine W.ifT (pc' := 90) X d_m6_73 (XT.i0_eq_t ha4) (by decide) (by decide) ?_
                refine W.iconst (pc' := 91) X (0 : Int32) d_m6_90 (by decide) rfl ?_
                refine W.istoreN (pc' := 92) (ls' := #[.val (.ref a), .val (.int n.toInt32), .val (.int q.toInt32), .val (.int (0 : Int32)), .unset]) X d_m6_91 rfl rfl ?_
                exact s92 q false T hq hq1 hnq (by unfold alls; (first | rw [b2i0 ha5] | rw [b2i0 ha4] | rw [b2i0 ha3] | rw [b2i0 ha2] | rw [b2i0 ha1] | rw [b2i0 ha0]); simp) X
              · skip
                refine W.ifF (pc' := 76) X d_m6_73 (XT.i0_eq_f ha4) rfl ?_
                refine W.aloadN (pc' := 77) X d_m6_76 rfl rfl rfl ?_
                refine W.iloadN (pc' := 78) X d_m6_77 rfl rfl ?_
                refine W.iloadN (pc' := 79) X d_m6_78 rfl rfl ?_
                refine W.iconst (pc' := 80) X (5 : Int32) d_m6_79 (by decide) rfl ?_
                refine W.callS (pc' := 83) (W := 0) (argsL := [(.ref a), (.int n.toInt32), (.int q.toInt32), (.int (5 : Int32))]) (st := []) (k' := 0) (n' := 0) X (c_all (a := a) (fs := fs) (n := n) (q := q) (i := 5) G X.en P0 P1 P2 hq1 (by decide)) (w91 G) (w92 G) (w93 G) (w53 G) (by decide) (by decide) (by decide) rfl (lenOf pd25 rfl) rfl rfl (Nat.le_of_eq rfl) d_m6_80 rfl (by decide) (by decide) (by decide) (by decide) (kp fun T X => ?_)
                by_cases ha5 : (b2i (alw (fs.map cl) n q 5)) = (0 : Int32)
                · skip
                  refine W.ifT (pc' := 90) X d_m6_83 (XT.i0_eq_t ha5) (by decide) (by decide) ?_
                  refine W.iconst (pc' := 91) X (0 : Int32) d_m6_90 (by decide) rfl ?_
                  refine W.istoreN (pc' := 92) (ls' := #[.val (.ref a), .val (.int n.toInt32), .val (.int q.toInt32), .val (.int (0 : Int32)), .unset]) X d_m6_91 rfl rfl ?_
                  exact s92 q false T hq hq1 hnq (by unfold alls; (first | rw [b2i0 ha5] | rw [b2i0 ha4] | rw [b2i0 ha3] | rw [b2i0 ha2] | rw [b2i0 ha1] | rw [b2i0 ha0]); simp) X
                · skip
                  refine W.ifF (pc' := 86) X d_m6_83 (XT.i0_eq_f ha5) rfl ?_
                  refine W.iconst (pc' := 87) X (1 : Int32) d_m6_86 (by decide) rfl ?_
                  refine W.goto (pc' := 91) X d_m6_87 (by decide) (by decide) ?_
                  refine W.istoreN (pc' := 92) (ls' := #[.val (.ref a), .val (.int n.toInt32), .val (.int q.toInt32), .val (.int (1 : Int32)), .unset]) X d_m6_91 rfl rfl ?_
                  exact s92 q true T hq hq1 hnq (by unfold alls; rw [b2i1 ha0, b2i1 ha1, b2i1 ha2, b2i1 ha3, b2i1 ha4, b2i1 ha5]; rfl) X
    · skip
      refine W.ifF (pc' := 24) X d_m6_21 (XT.i0_gt_f hg0) rfl ?_
      refine W.iconst (pc' := 25) X (0 : Int32) d_m6_24 (by decide) rfl ?_
      exact W.ireturn X d_m6_25 rfl (by decide) (by decide) (by decide) (by decide) ⟨(sv0 (exp_z hq (Nat.le_of_not_lt fun z => hg0 (by rw [sub32 (by omega) (by omega)]; exact pos32 (by omega) (by omega))))), rfl, rfl⟩
  refine W.iloadN (pc' := 1) X d_m6_0 rfl rfl ?_
  by_cases he1 : (0 : Int32) < n.toInt32
  · skip
    refine W.ifF (pc' := 4) X d_m6_1 (XT.i0_le_f he1) rfl ?_
    refine W.aloadN (pc' := 5) X d_m6_4 rfl rfl rfl ?_
    refine W.iconst (pc' := 6) X (0 : Int32) d_m6_5 (by decide) rfl ?_
    refine W.caload (pc' := 7) (v := (.int (fs.getD 0 0))) X P0 (by decide) (ch_get (i := 0) (by omega) (by decide)) d_m6_6 rfl ?_
    refine W.bipush (pc' := 9) X (45 : Int32) d_m6_7 (by decide) rfl ?_
    by_cases he2 : (fs.getD 0 0) = (45 : Int32)
    · skip
      refine W.icF (pc' := 12) X d_m6_9 (XT.ii_ne_f he2) rfl ?_
      refine W.iconst (pc' := 13) X (1 : Int32) d_m6_12 (by decide) rfl ?_
      refine W.goto (pc' := 17) X d_m6_13 (by decide) (by decide) ?_
      refine W.istoreN (pc' := 18) (ls' := #[.val (.ref a), .val (.int n.toInt32), .val (.int (1 : Int32)), .unset, .unset]) X d_m6_17 rfl rfl ?_
      exact s18 1 T (sgn1 (by omega) ((lt32 (a := 0) (by decide) (by omega)).mp he1) he2) (by decide) X
    · skip
      refine W.icT (pc' := 16) X d_m6_9 (XT.ii_ne_t he2) (by decide) (by decide) ?_
      refine W.iconst (pc' := 17) X (0 : Int32) d_m6_16 (by decide) rfl ?_
      refine W.istoreN (pc' := 18) (ls' := #[.val (.ref a), .val (.int n.toInt32), .val (.int (0 : Int32)), .unset, .unset]) X d_m6_17 rfl rfl ?_
      exact s18 0 T (sgn0 (by omega) (by first | exact Or.inr he2 | exact Or.inl fun z => he1 ((lt32 (a := 0) (by decide) (by omega)).mpr z))) (by decide) X
  · skip
    refine W.ifT (pc' := 16) X d_m6_1 (XT.i0_le_t he1) (by decide) (by decide) ?_
    refine W.iconst (pc' := 17) X (0 : Int32) d_m6_16 (by decide) rfl ?_
    refine W.istoreN (pc' := 18) (ls' := #[.val (.ref a), .val (.int n.toInt32), .val (.int (0 : Int32)), .unset, .unset]) X d_m6_17 rfl rfl ?_
    exact s18 0 T (sgn0 (by omega) (by first | exact Or.inr he2 | exact Or.inl fun z => he1 ((lt32 (a := 0) (by decide) (by omega)).mpr z))) (by decide) X
abbrev c_dec_q (Z : State) (zC : Int32) (fS : Value) (h : Heap) (B : Addr → Prop) (r rb : Addr) (cs : List Int32) (xR : Value) (h' : Heap) (B' : Addr → Prop) : Prop := xR = (.int (b2i (decC (cs.map cl)))) ∧ Keep h h' []
def c_dec_rm : Room := { frames := 5, cells := 2, slots := 8, locals := 66 }
set_option maxRecDepth 65536 in
set_option maxHeartbeats 40000000 in
theorem c_dec {l : Launch} {Z : State} {a0 : Array Value} {zC : Int32} {fS : Value} {h : Heap} {B : Addr → Prop} {r rb : Addr} {cs : List Int32} (G : Gl Z a0 zC fS) (hE : En Z B h) (P0 : Sx Z h r rb cs) (P1 : cs.length ≤ 6) : Con l Z consts_1 [] (⟨"com/example/compendio/compendio/io/TermFile", "isDecimal", "(Ljava/lang/String;)Z"⟩ : MethodName) prog_55_method_34_code 5 (some .boolean) c_dec_rm B h #[(.ref r)] (fun vR hR BR => ∃ xR, vR = some xR ∧ c_dec_q Z zC fS h B r rb cs xR hR BR) := by
  have hz0 := hE.1.1
  refine Con.intro (ls := #[.val (.ref r), .unset, .unset, .unset, .unset]) (plainFor_of_name pn28) G.2.1 hE (fun m => by first | rfl | (simp [entryFrame, mkF, argsToLocals, Value.category]; done) | rfl) ?_
  intro pP eE sS mM blw mth cC T hs X
  refine W.aloadN (pc' := 1) X d_prog_55_m34_0 rfl rfl rfl ?_
  refine W.ldcwR (pc' := 4) (k' := 2) (n' := 8) (cap := 4) (cs := [(45 : Int32)]) X (by decide) (w28 G) (watoms G) G.2.1 ⟨by decide, by decide⟩ (by unfold Lat; decide) (by decide) d_prog_55_m34_1 (by decide) (by decide) rfl (by decide) (by decide) (by decide) (by decide) fun T h1 B5 a2 a6 X K3 zb4 S7 ne8 => ?_
  have F9 := (P0.keep K3 nin0 nin0)
  refine W.callV (pc' := 7) (W := 0) (argsL := [(.ref a2)]) (st := []) (k' := 2) (n' := 8) (a := r) X (c_sw1 (r := r) (rb := rb) (u := a2) (ub := a6) (cs := cs) G X.en F9 S7) (w29 G) (w30 G) (nfM (z' := (⟨"java/lang/String", "startsWith", "(Ljava/lang/String;)Z"⟩ : MethodName)) rfl (w32 G)) (w32 G) (w31 G) F9.exa (w33 G) (w5 G) (by decide) (by decide) (by decide) rfl (lenOf pd26 rfl) rfl rfl (Nat.le_of_eq rfl) d_prog_55_m34_4 rfl (by decide) (by decide) (by decide) (by decide) (kp fun T X => ?_)
  have loop : ∀ (k i m : Nat) (dt : Bool) (o : Slot) (T : State), i + k = cs.length → m ≤ i → (o = .unset ∨ ∃ x, o = .val (.int x)) → decC (cs.map cl) = decGo ((cs.map cl).drop i) (decide (0 < m)) dt → Wk l Z consts_1 (⟨"com/example/compendio/compendio/io/TermFile", "isDecimal", "(Ljava/lang/String;)Z"⟩ : MethodName) prog_55_method_34_code 5 (some .boolean) c_dec_rm B pP eE sS mM #[(.ref r)] blw mth cC B5 T h1 2 8 → Go l Z consts_1 c_dec_rm B (fun vR hR BR => ∃ xR, vR = some xR ∧ c_dec_q Z zC fS h B r rb cs xR hR BR) pP eE sS mM blw T 20 #[.val (.ref r), .val (.int i.toInt32), .val (.int m.toInt32), .val (.int (b2i dt)), o] [] := by
    intro k
    induction k with
    | zero =>
      intro i m dt o T hi hm ho hv X
      obtain rfl : i = cs.length := by omega
      have hv : decC (cs.map cl) = decide (0 < m) := by rw [hv, List.drop_eq_nil_of_le (by simp)]; rfl
      rcases ho with rfl | ⟨x0, rfl⟩
      all_goals
        refine W.iloadN (pc' := 21) X d_prog_55_m34_20 rfl rfl ?_
        refine W.aloadN (pc' := 22) X d_prog_55_m34_21 rfl rfl rfl ?_
        refine W.callV (pc' := 25) (W := 1) (argsL := []) (st := [(.int cs.length.toInt32)]) (k' := 2) (n' := 8) (a := r) X (c_lenX (r := r) (rb := rb) (cs := cs) G X.en F9) (w50 G) (w40 G) (nfM (z' := (⟨"java/lang/String", "startsWith", "(Ljava/lang/String;)Z"⟩ : MethodName)) rfl (w32 G)) (w42 G) (w41 G) F9.exa (w43 G) (w5 G) (by decide) (by decide) (by decide) rfl (lenOf pd19 rfl) rfl rfl (Nat.le_of_eq rfl) d_prog_55_m34_22 rfl (by decide) (by decide) (by decide) (by decide) (kp fun T X => ?_)
        refine W.icT (pc' := 85) X d_prog_55_m34_25 (XT.ii_ge_t (fun q => by rw [Int32.lt_iff_toInt_lt] at q; omega)) (by decide) (by decide) ?_
        refine W.iloadN (pc' := 86) X d_prog_55_m34_85 rfl rfl ?_
        by_cases hg1 : (0 : Int32) < m.toInt32
        · skip
          refine W.ifF (pc' := 89) X d_prog_55_m34_86 (XT.i0_le_f hg1) rfl ?_
          refine W.iconst (pc' := 90) X (1 : Int32) d_prog_55_m34_89 (by decide) rfl ?_
          refine W.goto (pc' := 94) X d_prog_55_m34_90 (by decide) (by decide) ?_
          exact W.ireturn X d_prog_55_m34_94 rfl (by decide) (by decide) (by decide) (by decide) ⟨_, rfl, ⟨(vv1 (hv.trans (decide_eq_true ((lt32 (a := 0) (by decide) (by omega)).mp hg1)))), (Keep.trans (Keep.refl h []) K3 all0)⟩⟩
        · skip
          refine W.ifT (pc' := 93) X d_prog_55_m34_86 (XT.i0_le_t hg1) (by decide) (by decide) ?_
          refine W.iconst (pc' := 94) X (0 : Int32) d_prog_55_m34_93 (by decide) rfl ?_
          exact W.ireturn X d_prog_55_m34_94 rfl (by decide) (by decide) (by decide) (by decide) ⟨_, rfl, ⟨(vv0 (hv.trans (decide_eq_false fun z => hg1 ((lt32 (a := 0) (by decide) (by omega)).mpr z)))), (Keep.trans (Keep.refl h []) K3 all0)⟩⟩
    | succ k ih =>
      intro i m dt o T hi hm ho hv X
      have hi' : i < cs.length := by omega
      rw [drop_cl hi'] at hv
      rcases ho with rfl | ⟨x0, rfl⟩
      all_goals
        refine W.iloadN (pc' := 21) X d_prog_55_m34_20 rfl rfl ?_
        refine W.aloadN (pc' := 22) X d_prog_55_m34_21 rfl rfl rfl ?_
        refine W.callV (pc' := 25) (W := 1) (argsL := []) (st := [(.int i.toInt32)]) (k' := 2) (n' := 8) (a := r) X (c_lenX (r := r) (rb := rb) (cs := cs) G X.en F9) (w50 G) (w40 G) (nfM (z' := (⟨"java/lang/String", "startsWith", "(Ljava/lang/String;)Z"⟩ : MethodName)) rfl (w32 G)) (w42 G) (w41 G) F9.exa (w43 G) (w5 G) (by decide) (by decide) (by decide) rfl (lenOf pd19 rfl) rfl rfl (Nat.le_of_eq rfl) d_prog_55_m34_22 rfl (by decide) (by decide) (by decide) (by decide) (kp fun T X => ?_)
        refine W.icF (pc' := 28) X d_prog_55_m34_25 (XT.ii_ge_f ((lt32 (by omega) (by omega)).mpr hi')) rfl ?_
        refine W.aloadN (pc' := 29) X d_prog_55_m34_28 rfl rfl rfl ?_
        refine W.iloadN (pc' := 30) X d_prog_55_m34_29 rfl rfl ?_
        refine W.callV (pc' := 33) (W := 0) (argsL := [(.int i.toInt32)]) (st := []) (k' := 2) (n' := 8) (a := r) X (c_chX (r := r) (rb := rb) (cs := cs) (i := i) G X.en F9 hi') (w69 G) (w70 G) (nfM (z' := (⟨"java/lang/String", "startsWith", "(Ljava/lang/String;)Z"⟩ : MethodName)) rfl (w32 G)) (w72 G) (w71 G) F9.exa (w73 G) (w5 G) (by decide) (by decide) (by decide) rfl (lenOf pd27 rfl) rfl rfl (Nat.le_of_eq rfl) d_prog_55_m34_30 rfl (by decide) (by decide) (by decide) (by decide) (kp fun T X => ?_)
        refine W.istore (pc' := 35) (ls' := #[.val (.ref r), .val (.int i.toInt32), .val (.int m.toInt32), .val (.int (b2i dt)), .val (.int (cs.getD i 0))]) X d_prog_55_m34_33 rfl rfl ?_
        refine W.iload (pc' := 37) X d_prog_55_m34_35 rfl rfl ?_
        refine W.bipush (pc' := 39) X (48 : Int32) d_prog_55_m34_37 (by decide) rfl ?_
        by_cases hd1 : (cs.getD i 0) < (48 : Int32)
        · skip
          refine W.icT (pc' := 55) X d_prog_55_m34_39 (XT.ii_lt_t hd1) (by decide) (by decide) ?_
          have hnd : cl (cs.getD i 0) ≠ 1 := fun z => by have y := (cl_d _).mp z; first | exact y.2 hd2 | exact y.1 hd1
          refine W.iload (pc' := 57) X d_prog_55_m34_55 rfl rfl ?_
          refine W.bipush (pc' := 59) X (46 : Int32) d_prog_55_m34_57 (by decide) rfl ?_
          by_cases hd3 : (cs.getD i 0) = (46 : Int32)
          · skip
            refine W.icF (pc' := 62) X d_prog_55_m34_59 (XT.ii_ne_f hd3) rfl ?_
            refine W.iloadN (pc' := 63) X d_prog_55_m34_62 rfl rfl ?_
            by_cases hd4 : (b2i dt) = (0 : Int32)
            · skip
              refine W.ifF (pc' := 66) X d_prog_55_m34_63 (XT.i0_ne_f hd4) rfl ?_
              refine W.iloadN (pc' := 67) X d_prog_55_m34_66 rfl rfl ?_
              by_cases hd5 : (0 : Int32) < m.toInt32
              · skip
                refine W.ifF (pc' := 70) X d_prog_55_m34_67 (XT.i0_le_f hd5) rfl ?_
                refine W.iconst (pc' := 71) X (1 : Int32) d_prog_55_m34_70 (by decide) rfl ?_
                refine W.istoreN (pc' := 72) (ls' := #[.val (.ref r), .val (.int i.toInt32), .val (.int m.toInt32), .val (.int (1 : Int32)), .val (.int (cs.getD i 0))]) X d_prog_55_m34_71 rfl rfl ?_
                refine W.iconst (pc' := 73) X (0 : Int32) d_prog_55_m34_72 (by decide) rfl ?_
                refine W.istoreN (pc' := 74) (ls' := #[.val (.ref r), .val (.int i.toInt32), .val (.int (0 : Int32)), .val (.int (1 : Int32)), .val (.int (cs.getD i 0))]) X d_prog_55_m34_73 rfl rfl ?_
                refine W.goto (pc' := 79) X d_prog_55_m34_74 (by decide) (by decide) ?_
                refine W.iinc (pc' := 82) (ls' := #[.val (.ref r), .val (.int (i + 1).toInt32), .val (.int (0 : Int32)), .val (.int (1 : Int32)), .val (.int (cs.getD i 0))]) X (1 : Int32) (w := (i + 1).toInt32) d_prog_55_m34_79 (by decide) rfl (t32s i) rfl rfl ?_
                refine W.goto (pc' := 20) X d_prog_55_m34_82 (by decide) (by decide) ?_
                exact ih (i + 1) 0 true _ T (by omega) (by omega) (Or.inr ⟨_, rfl⟩) (hv.trans (dg_p ((cl_p _).mpr hd3) (b2i0 hd4) (decide_eq_true ((lt32 (a := 0) (by decide) (by omega)).mp hd5)))) X
              · skip
                refine W.ifT (pc' := 77) X d_prog_55_m34_67 (XT.i0_le_t hd5) (by decide) (by decide) ?_
                refine W.iconst (pc' := 78) X (0 : Int32) d_prog_55_m34_77 (by decide) rfl ?_
                exact W.ireturn X d_prog_55_m34_78 rfl (by decide) (by decide) (by decide) (by decide) ⟨_, rfl, ⟨(vv0 (hv.trans (dg_n hnd (fun z => by first | exact hd5 ((lt32 (a := 0) (by decide) (by omega)).mpr (of_decide_eq_true z.2.2)) | exact hd4 (by rw [z.2.1]; rfl) | exact hd3 ((cl_p _).mp z.1))))), (Keep.trans (Keep.refl h []) K3 all0)⟩⟩
            · skip
              refine W.ifT (pc' := 77) X d_prog_55_m34_63 (XT.i0_ne_t hd4) (by decide) (by decide) ?_
              refine W.iconst (pc' := 78) X (0 : Int32) d_prog_55_m34_77 (by decide) rfl ?_
              exact W.ireturn X d_prog_55_m34_78 rfl (by decide) (by decide) (by decide) (by decide) ⟨_, rfl, ⟨(vv0 (hv.trans (dg_n hnd (fun z => by first | exact hd5 ((lt32 (a := 0) (by decide) (by omega)).mpr (of_decide_eq_true z.2.2)) | exact hd4 (by rw [z.2.1]; rfl) | exact hd3 ((cl_p _).mp z.1))))), (Keep.trans (Keep.refl h []) K3 all0)⟩⟩
          · skip
            refine W.icT (pc' := 77) X d_prog_55_m34_59 (XT.ii_ne_t hd3) (by decide) (by decide) ?_
            refine W.iconst (pc' := 78) X (0 : Int32) d_prog_55_m34_77 (by decide) rfl ?_
            exact W.ireturn X d_prog_55_m34_78 rfl (by decide) (by decide) (by decide) (by decide) ⟨_, rfl, ⟨(vv0 (hv.trans (dg_n hnd (fun z => by first | exact hd5 ((lt32 (a := 0) (by decide) (by omega)).mpr (of_decide_eq_true z.2.2)) | exact hd4 (by rw [z.2.1]; rfl) | exact hd3 ((cl_p _).mp z.1))))), (Keep.trans (Keep.refl h []) K3 all0)⟩⟩
        · skip
          refine W.icF (pc' := 42) X d_prog_55_m34_39 (XT.ii_lt_f hd1) rfl ?_
          refine W.iload (pc' := 44) X d_prog_55_m34_42 rfl rfl ?_
          refine W.bipush (pc' := 46) X (57 : Int32) d_prog_55_m34_44 (by decide) rfl ?_
          by_cases hd2 : (57 : Int32) < (cs.getD i 0)
          · skip
            refine W.icT (pc' := 55) X d_prog_55_m34_46 (XT.ii_gt_t hd2) (by decide) (by decide) ?_
            have hnd : cl (cs.getD i 0) ≠ 1 := fun z => by have y := (cl_d _).mp z; first | exact y.2 hd2 | exact y.1 hd1
            refine W.iload (pc' := 57) X d_prog_55_m34_55 rfl rfl ?_
            refine W.bipush (pc' := 59) X (46 : Int32) d_prog_55_m34_57 (by decide) rfl ?_
            by_cases hd3 : (cs.getD i 0) = (46 : Int32)
            · skip
              refine W.icF (pc' := 62) X d_prog_55_m34_59 (XT.ii_ne_f hd3) rfl ?_
              refine W.iloadN (pc' := 63) X d_prog_55_m34_62 rfl rfl ?_
              by_cases hd4 : (b2i dt) = (0 : Int32)
              · skip
                refine W.ifF (pc' := 66) X d_prog_55_m34_63 (XT.i0_ne_f hd4) rfl ?_
                refine W.iloadN (pc' := 67) X d_prog_55_m34_66 rfl rfl ?_
                by_cases hd5 : (0 : Int32) < m.toInt32
                · skip
                  refine W.ifF (pc' := 70) X d_prog_55_m34_67 (XT.i0_le_f hd5) rfl ?_
                  refine W.iconst (pc' := 71) X (1 : Int32) d_prog_55_m34_70 (by decide) rfl ?_
                  refine W.istoreN (pc' := 72) (ls' := #[.val (.ref r), .val (.int i.toInt32), .val (.int m.toInt32), .val (.int (1 : Int32)), .val (.int (cs.getD i 0))]) X d_prog_55_m34_71 rfl rfl ?_
                  refine W.iconst (pc' := 73) X (0 : Int32) d_prog_55_m34_72 (by decide) rfl ?_
                  refine W.istoreN (pc' := 74) (ls' := #[.val (.ref r), .val (.int i.toInt32), .val (.int (0 : Int32)), .val (.int (1 : Int32)), .val (.int (cs.getD i 0))]) X d_prog_55_m34_73 rfl rfl ?_
                  refine W.goto (pc' := 79) X d_prog_55_m34_74 (by decide) (by decide) ?_
                  refine W.iinc (pc' := 82) (ls' := #[.val (.ref r), .val (.int (i + 1).toInt32), .val (.int (0 : Int32)), .val (.int (1 : Int32)), .val (.int (cs.getD i 0))]) X (1 : Int32) (w := (i + 1).toInt32) d_prog_55_m34_79 (by decide) rfl (t32s i) rfl rfl ?_
                  refine W.goto (pc' := 20) X d_prog_55_m34_82 (by decide) (by decide) ?_
                  exact ih (i + 1) 0 true _ T (by omega) (by omega) (Or.inr ⟨_, rfl⟩) (hv.trans (dg_p ((cl_p _).mpr hd3) (b2i0 hd4) (decide_eq_true ((lt32 (a := 0) (by decide) (by omega)).mp hd5)))) X
                · skip
                  refine W.ifT (pc' := 77) X d_prog_55_m34_67 (XT.i0_le_t hd5) (by decide) (by decide) ?_
                  refine W.iconst (pc' := 78) X (0 : Int32) d_prog_55_m34_77 (by decide) rfl ?_
                  exact W.ireturn X d_prog_55_m34_78 rfl (by decide) (by decide) (by decide) (by decide) ⟨_, rfl, ⟨(vv0 (hv.trans (dg_n hnd (fun z => by first | exact hd5 ((lt32 (a := 0) (by decide) (by omega)).mpr (of_decide_eq_true z.2.2)) | exact hd4 (by rw [z.2.1]; rfl) | exact hd3 ((cl_p _).mp z.1))))), (Keep.trans (Keep.refl h []) K3 all0)⟩⟩
              · skip
                refine W.ifT (pc' := 77) X d_prog_55_m34_63 (XT.i0_ne_t hd4) (by decide) (by decide) ?_
                refine W.iconst (pc' := 78) X (0 : Int32) d_prog_55_m34_77 (by decide) rfl ?_
                exact W.ireturn X d_prog_55_m34_78 rfl (by decide) (by decide) (by decide) (by decide) ⟨_, rfl, ⟨(vv0 (hv.trans (dg_n hnd (fun z => by first | exact hd5 ((lt32 (a := 0) (by decide) (by omega)).mpr (of_decide_eq_true z.2.2)) | exact hd4 (by rw [z.2.1]; rfl) | exact hd3 ((cl_p _).mp z.1))))), (Keep.trans (Keep.refl h []) K3 all0)⟩⟩
            · skip
              refine W.icT (pc' := 77) X d_prog_55_m34_59 (XT.ii_ne_t hd3) (by decide) (by decide) ?_
              refine W.iconst (pc' := 78) X (0 : Int32) d_prog_55_m34_77 (by decide) rfl ?_
              exact W.ireturn X d_prog_55_m34_78 rfl (by decide) (by decide) (by decide) (by decide) ⟨_, rfl, ⟨(vv0 (hv.trans (dg_n hnd (fun z => by first | exact hd5 ((lt32 (a := 0) (by decide) (by omega)).mpr (of_decide_eq_true z.2.2)) | exact hd4 (by rw [z.2.1]; rfl) | exact hd3 ((cl_p _).mp z.1))))), (Keep.trans (Keep.refl h []) K3 all0)⟩⟩
          · skip
            refine W.icF (pc' := 49) X d_prog_55_m34_46 (XT.ii_gt_f hd2) rfl ?_
            refine W.iinc (pc' := 52) (ls' := #[.val (.ref r), .val (.int i.toInt32), .val (.int (m + 1).toInt32), .val (.int (b2i dt)), .val (.int (cs.getD i 0))]) X (1 : Int32) (w := (m + 1).toInt32) d_prog_55_m34_49 (by decide) rfl (t32s m) rfl rfl ?_
            refine W.goto (pc' := 79) X d_prog_55_m34_52 (by decide) (by decide) ?_
            refine W.iinc (pc' := 82) (ls' := #[.val (.ref r), .val (.int (i + 1).toInt32), .val (.int (m + 1).toInt32), .val (.int (b2i dt)), .val (.int (cs.getD i 0))]) X (1 : Int32) (w := (i + 1).toInt32) d_prog_55_m34_79 (by decide) rfl (t32s i) rfl rfl ?_
            refine W.goto (pc' := 20) X d_prog_55_m34_82 (by decide) (by decide) ?_
            exact ih (i + 1) (m + 1) dt _ T (by omega) (by omega) (Or.inr ⟨_, rfl⟩) (by rw [hv, dg_d ((cl_d _).mpr ⟨hd1, hd2⟩), decide_eq_true (Nat.succ_pos m)]) X
  by_cases he0 : (b2i (decide (cs.head? = some 45))) = (0 : Int32)
  · skip
    refine W.ifT (pc' := 14) X d_prog_55_m34_7 (XT.i0_eq_t he0) (by decide) (by decide) ?_
    refine W.iconst (pc' := 15) X (0 : Int32) d_prog_55_m34_14 (by decide) rfl ?_
    refine W.istoreN (pc' := 16) (ls' := #[.val (.ref r), .val (.int (0 : Int32)), .unset, .unset, .unset]) X d_prog_55_m34_15 rfl rfl ?_
    refine W.iconst (pc' := 17) X (0 : Int32) d_prog_55_m34_16 (by decide) rfl ?_
    refine W.istoreN (pc' := 18) (ls' := #[.val (.ref r), .val (.int (0 : Int32)), .val (.int (0 : Int32)), .unset, .unset]) X d_prog_55_m34_17 rfl rfl ?_
    refine W.iconst (pc' := 19) X (0 : Int32) d_prog_55_m34_18 (by decide) rfl ?_
    refine W.istoreN (pc' := 20) (ls' := #[.val (.ref r), .val (.int (0 : Int32)), .val (.int (0 : Int32)), .val (.int (0 : Int32)), .unset]) X d_prog_55_m34_19 rfl rfl ?_
    exact loop cs.length 0 0 false .unset T (by omega) (by omega) (Or.inl rfl) (dec0 (of_decide_eq_false (b2i0 he0))) X
  · skip
    refine W.ifF (pc' := 10) X d_prog_55_m34_7 (XT.i0_eq_f he0) rfl ?_
    refine W.iconst (pc' := 11) X (1 : Int32) d_prog_55_m34_10 (by decide) rfl ?_
    refine W.goto (pc' := 15) X d_prog_55_m34_11 (by decide) (by decide) ?_
    refine W.istoreN (pc' := 16) (ls' := #[.val (.ref r), .val (.int (1 : Int32)), .unset, .unset, .unset]) X d_prog_55_m34_15 rfl rfl ?_
    refine W.iconst (pc' := 17) X (0 : Int32) d_prog_55_m34_16 (by decide) rfl ?_
    refine W.istoreN (pc' := 18) (ls' := #[.val (.ref r), .val (.int (1 : Int32)), .val (.int (0 : Int32)), .unset, .unset]) X d_prog_55_m34_17 rfl rfl ?_
    refine W.iconst (pc' := 19) X (0 : Int32) d_prog_55_m34_18 (by decide) rfl ?_
    refine W.istoreN (pc' := 20) (ls' := #[.val (.ref r), .val (.int (1 : Int32)), .val (.int (0 : Int32)), .val (.int (0 : Int32)), .unset]) X d_prog_55_m34_19 rfl rfl ?_
    exact loop (cs.length - 1) 1 0 false .unset T (by have := (dec1 (of_decide_eq_true (b2i1 he0))).1; omega) (by omega) (Or.inl rfl) (dec1 (of_decide_eq_true (b2i1 he0))).2 X
set_option maxRecDepth 65536 in
set_option maxHeartbeats 40000000 in
theorem c_law {l : Launch} {Z : State} {a0 : Array Value} {zC : Int32} {fS : Value} {h : Heap} {B : Addr → Prop} {p0 p1 p2 p3 : Int32} (G : Gl Z a0 zC fS) (hE : En Z B h)  : Con l Z consts_1 tables_1 x code maxLocals ret room_1 B h #[(.int p0), (.int p1), (.int p2), (.int p3)] (fun vR hR BR => vR = some (.int (1 : Int32))) := by
  have hz0 := hE.1.1
  refine Con.intro (ls := #[.val (.int p0), .val (.int p1), .val (.int p2), .val (.int p3), .unset, .unset, .unset, .unset]) (plainFor_of_name pn22) G.2.1 hE (fun m => by first | (simp [entryFrame, mkF, argsToLocals, Value.category, maxLocals]; done) | rfl) ?_
  intro pP eE sS mM blw mth cC T hs X
  obtain ⟨n7, en, hn7⟩ := mod7 p0
  obtain ⟨f0, ef0, cf0⟩ := ch16 (p1 &&& (65535 : Int32))
  obtain ⟨f1, ef1, cf1⟩ := ch16 (XT.ushr p1 (16 : Int32))
  obtain ⟨f2, ef2, cf2⟩ := ch16 (p2 &&& (65535 : Int32))
  obtain ⟨f3, ef3, cf3⟩ := ch16 (XT.ushr p2 (16 : Int32))
  obtain ⟨f4, ef4, cf4⟩ := ch16 (p3 &&& (65535 : Int32))
  obtain ⟨f5, ef5, cf5⟩ := ch16 (XT.ushr p3 (16 : Int32))
  refine W.iloadN (pc' := 1) X at_0 rfl rfl ?_
  refine W.ldcI (pc' := 3) X (w0 G) at_1 rfl ?_
  refine W.iand (pc' := 4) (w := (p0 &&& (2147483647 : Int32))) X at_3 rfl rfl ?_
  refine W.bipush (pc' := 6) X (7 : Int32) at_4 (by decide) rfl ?_
  refine W.irem (pc' := 7) (w := n7) X at_6 (by decide) en rfl ?_
  refine W.istore (pc' := 9) (ls' := #[.val (.int p0), .val (.int p1), .val (.int p2), .val (.int p3), .val (.int n7), .unset, .unset, .unset]) X at_7 rfl rfl ?_
  refine W.bipush (pc' := 11) X (6 : Int32) at_9 (by decide) rfl ?_
  refine W.newA (aty := .char) (pc' := 13) (k' := 1) (n' := 6) (cap := 6) X (w1 G) at_11 (by decide) (by decide) (by decide) rfl (by decide) (by decide) (by decide) (by decide) fun T h1 a2 X K3 g4 g5 nb6 A7 => ?_
  have A7 : Ar Z h1 a2 .char [(.int (0 : Int32)), (.int (0 : Int32)), (.int (0 : Int32)), (.int (0 : Int32)), (.int (0 : Int32)), (.int (0 : Int32))] := A7
  refine W.astore (pc' := 15) (ls' := #[.val (.int p0), .val (.int p1), .val (.int p2), .val (.int p3), .val (.int n7), .val (.ref a2), .unset, .unset]) X at_13 rfl rfl rfl ?_
  refine W.aload (pc' := 17) X at_15 rfl rfl rfl ?_
  refine W.iconst (pc' := 18) X (0 : Int32) at_17 (by decide) rfl ?_
  refine W.iloadN (pc' := 19) X at_18 rfl rfl ?_
  refine W.ldcI (pc' := 21) X (w2 G) at_19 rfl ?_
  refine W.iand (pc' := 22) (w := (p1 &&& (65535 : Int32))) X at_21 rfl rfl ?_
  refine W.i2c (pc' := 23) (w := f0) X at_22 ef0 rfl ?_
  refine W.castore (pc' := 24) (i := 0) X A7 (by decide) rfl (ltb rfl) (i2cx cf0) g5 nb6 at_23 rfl fun T h8 X K9 A10 => ?_
  have A10 : Ar Z h8 a2 .char [(.int f0), (.int (0 : Int32)), (.int (0 : Int32)), (.int (0 : Int32)), (.int (0 : Int32)), (.int (0 : Int32))] := A10
  refine W.aload (pc' := 26) X at_24 rfl rfl rfl ?_
  refine W.iconst (pc' := 27) X (1 : Int32) at_26 (by decide) rfl ?_
  refine W.iloadN (pc' := 28) X at_27 rfl rfl ?_
  refine W.bipush (pc' := 30) X (16 : Int32) at_28 (by decide) rfl ?_
  refine W.iushr (pc' := 31) (w := (XT.ushr p1 (16 : Int32))) X at_30 rfl rfl ?_
  refine W.i2c (pc' := 32) (w := f1) X at_31 ef1 rfl ?_
  refine W.castore (pc' := 33) (i := 1) X A10 (by decide) rfl (ltb rfl) (i2cx cf1) g5 nb6 at_32 rfl fun T h11 X K12 A13 => ?_
  have A13 : Ar Z h11 a2 .char [(.int f0), (.int f1), (.int (0 : Int32)), (.int (0 : Int32)), (.int (0 : Int32)), (.int (0 : Int32))] := A13
  refine W.aload (pc' := 35) X at_33 rfl rfl rfl ?_
  refine W.iconst (pc' := 36) X (2 : Int32) at_35 (by decide) rfl ?_
  refine W.iloadN (pc' := 37) X at_36 rfl rfl ?_
  refine W.ldcI (pc' := 39) X (w2 G) at_37 rfl ?_
  refine W.iand (pc' := 40) (w := (p2 &&& (65535 : Int32))) X at_39 rfl rfl ?_
  refine W.i2c (pc' := 41) (w := f2) X at_40 ef2 rfl ?_
  refine W.castore (pc' := 42) (i := 2) X A13 (by decide) rfl (ltb rfl) (i2cx cf2) g5 nb6 at_41 rfl fun T h14 X K15 A16 => ?_
  have A16 : Ar Z h14 a2 .char [(.int f0), (.int f1), (.int f2), (.int (0 : Int32)), (.int (0 : Int32)), (.int (0 : Int32))] := A16
  refine W.aload (pc' := 44) X at_42 rfl rfl rfl ?_
  refine W.iconst (pc' := 45) X (3 : Int32) at_44 (by decide) rfl ?_
  refine W.iloadN (pc' := 46) X at_45 rfl rfl ?_
  refine W.bipush (pc' := 48) X (16 : Int32) at_46 (by decide) rfl ?_
  refine W.iushr (pc' := 49) (w := (XT.ushr p2 (16 : Int32))) X at_48 rfl rfl ?_
  refine W.i2c (pc' := 50) (w := f3) X at_49 ef3 rfl ?_
  refine W.castore (pc' := 51) (i := 3) X A16 (by decide) rfl (ltb rfl) (i2cx cf3) g5 nb6 at_50 rfl fun T h17 X K18 A19 => ?_
  have A19 : Ar Z h17 a2 .char [(.int f0), (.int f1), (.int f2), (.int f3), (.int (0 : Int32)), (.int (0 : Int32))] := A19
  refine W.aload (pc' := 53) X at_51 rfl rfl rfl ?_
  refine W.iconst (pc' := 54) X (4 : Int32) at_53 (by decide) rfl ?_
  refine W.iloadN (pc' := 55) X at_54 rfl rfl ?_
  refine W.ldcI (pc' := 57) X (w2 G) at_55 rfl ?_
  refine W.iand (pc' := 58) (w := (p3 &&& (65535 : Int32))) X at_57 rfl rfl ?_
  refine W.i2c (pc' := 59) (w := f4) X at_58 ef4 rfl ?_
  refine W.castore (pc' := 60) (i := 4) X A19 (by decide) rfl (ltb rfl) (i2cx cf4) g5 nb6 at_59 rfl fun T h20 X K21 A22 => ?_
  have A22 : Ar Z h20 a2 .char [(.int f0), (.int f1), (.int f2), (.int f3), (.int f4), (.int (0 : Int32))] := A22
  refine W.aload (pc' := 62) X at_60 rfl rfl rfl ?_
  refine W.iconst (pc' := 63) X (5 : Int32) at_62 (by decide) rfl ?_
  refine W.iloadN (pc' := 64) X at_63 rfl rfl ?_
  refine W.bipush (pc' := 66) X (16 : Int32) at_64 (by decide) rfl ?_
  refine W.iushr (pc' := 67) (w := (XT.ushr p3 (16 : Int32))) X at_66 rfl rfl ?_
  refine W.i2c (pc' := 68) (w := f5) X at_67 ef5 rfl ?_
  refine W.castore (pc' := 69) (i := 5) X A22 (by decide) rfl (ltb rfl) (i2cx cf5) g5 nb6 at_68 rfl fun T h23 X K24 A25 => ?_
  have A25 : Ar Z h23 a2 .char [(.int f0), (.int f1), (.int f2), (.int f3), (.int f4), (.int f5)] := A25
  rcases hn7 with rfl | rfl | rfl | rfl | rfl | rfl | rfl
  · skip
    refine W.iload (pc' := 71) X at_69 rfl rfl ?_
    refine W.newA (aty := .char) (pc' := 73) (k' := 2) (n' := 6) (cap := 0) X (w1 G) at_71 (by decide) (by decide) (by decide) rfl (by decide) (by decide) (by decide) (by decide) fun T h26 a27 X K28 g29 g30 nb31 A32 => ?_
    have A32 : Ar Z h26 a27 .char [] := A32
    refine W.astore (pc' := 75) (ls' := #[.val (.int p0), .val (.int p1), .val (.int p2), .val (.int p3), .val (.int (0 : Int32)), .val (.ref a2), .val (.ref a27), .unset]) X at_73 rfl rfl rfl ?_
    refine W.iload (pc' := 77) X at_75 rfl rfl ?_
    refine W.ifT (pc' := 88) X at_77 (by decide) (by decide) (by decide) ?_
    refine W.iload (pc' := 90) X at_88 rfl rfl ?_
    refine W.iconst (pc' := 91) X (1 : Int32) at_90 (by decide) rfl ?_
    refine W.icT (pc' := 102) X at_91 (by decide) (by decide) (by decide) ?_
    refine W.iload (pc' := 104) X at_102 rfl rfl ?_
    refine W.iconst (pc' := 105) X (2 : Int32) at_104 (by decide) rfl ?_
    refine W.icT (pc' := 116) X at_105 (by decide) (by decide) (by decide) ?_
    refine W.iload (pc' := 118) X at_116 rfl rfl ?_
    refine W.iconst (pc' := 119) X (3 : Int32) at_118 (by decide) rfl ?_
    refine W.icT (pc' := 130) X at_119 (by decide) (by decide) (by decide) ?_
    refine W.iload (pc' := 132) X at_130 rfl rfl ?_
    refine W.iconst (pc' := 133) X (4 : Int32) at_132 (by decide) rfl ?_
    refine W.icT (pc' := 144) X at_133 (by decide) (by decide) (by decide) ?_
    refine W.iload (pc' := 146) X at_144 rfl rfl ?_
    refine W.iconst (pc' := 147) X (5 : Int32) at_146 (by decide) rfl ?_
    refine W.icT (pc' := 158) X at_147 (by decide) (by decide) (by decide) ?_
    refine W.new (pc' := 161) (k' := 3) (n' := 10) X (w3 G) (w4 G) (w5 G) at_158 rfl (by decide) (by decide) (by decide) (by decide) fun T h33 a34 X K35 g36 g37 nb38 E39 D40 => ?_
    have F41 : Fld Z h33 a34 "java/lang/String" "value" "[B" .null := D40 (Or.inr (w18 G)) (ty := (.array .byte)) (by decide)
    have F42 : Fld Z h33 a34 "java/lang/String" "coder" "B" (.int (0 : Int32)) := D40 (Or.inr (w19 G)) (ty := .byte) (by decide)
    refine W.dup (pc' := 162) X at_161 rfl rfl ?_
    refine W.aload (pc' := 164) X at_162 rfl rfl rfl ?_
    have F43 := (A32.keep K35 nin0)
    refine W.callN (pc' := 167) (W := 1) (argsL := [(.ref a27)]) (st := [(.ref a34)]) (k' := 7) (n' := 18) (a := a34) X (c_init1e (x := a34) (a := a27) (v0 := .null) (c0 := (.int (0 : Int32))) G X.en E39 F41 F42 F43 g37 nb38) rfl (w6 G) (w7 G) (w8 G) (w5 G) (by decide) (by decide) (by decide) rfl (lenOf pd29 rfl) rfl rfl (Nat.le_of_eq rfl) at_164 rfl (by decide) (by decide) (by decide) (by decide) (kvi fun T h44 B47 X z45 zb48 q46 => ?_)
    obtain ⟨a49, K50, F51⟩ := q46
    have F52 : Sx Z h44 a34 a49 ([] : List Int32) := Or.inl F51
    refine W.callS (pc' := 170) (W := 0) (argsL := [(.ref a34)]) (st := []) (k' := 9) (n' := 26) X (c_dec (r := a34) (rb := a49) (cs := ([] : List Int32)) G X.en F52 (leb rfl)) (w24 G) (w25 G) (w27 G) (w26 G) (by decide) (by decide) (by decide) rfl (lenOf pd26 rfl) rfl rfl (Nat.le_of_eq rfl) at_167 rfl (by decide) (by decide) (by decide) (by decide) (kri fun T h53 B56 xr X z54 zb57 q55 => ?_)
    obtain ⟨rfl, K58⟩ := q55
    refine W.istore (pc' := 172) (ls' := #[.val (.int p0), .val (.int p1), .val (.int p2), .val (.int p3), .val (.int (0 : Int32)), .val (.ref a2), .val (.ref a27), .val (.int (b2i (decC (([] : List Int32).map cl))))]) X at_170 rfl rfl ?_
    refine W.iload (pc' := 174) X at_172 rfl rfl ?_
    refine W.aload (pc' := 176) X at_174 rfl rfl rfl ?_
    refine W.iload (pc' := 178) X at_176 rfl rfl ?_
    have F59 := ((((A25.keep K28 nin0).keep K35 nin0).keep K50 (ninS (Nat.ne_of_lt (Nat.lt_of_lt_of_le A7.lt (Nat.le_trans (Nat.le_trans (Nat.le_trans (Nat.le_trans (Nat.le_trans (Nat.le_trans (Nat.le_trans K9.1 K12.1) K15.1) K18.1) K21.1) K24.1) K28.1) g36))) nin0)).keep K58 nin0)
    refine W.callS (pc' := 181) (W := 1) (argsL := [(.ref a2), (.int (0 : Int32))]) (st := [(.int (b2i (decC (([] : List Int32).map cl))))]) (k' := 9) (n' := 26) X (c_exp (a := a2) (fs := [f0, f1, f2, f3, f4, f5]) (n := 0) G X.en F59 rfl (by decide)) (w51 G) (w52 G) (w54 G) (w53 G) (by decide) (by decide) (by decide) rfl (lenOf pd30 rfl) rfl rfl (Nat.le_of_eq rfl) at_178 rfl (by decide) (by decide) (by decide) (by decide) (kp fun T X => ?_)
    refine W.icF (pc' := 184) X at_181 (XT.ii_ne_f (congrArg b2i (fin0 f0 f1 f2 f3 f4 f5))) rfl ?_
    refine W.iconst (pc' := 185) X (1 : Int32) at_184 (by decide) rfl ?_
    refine W.goto (pc' := 189) X at_185 (by decide) (by decide) ?_
    exact W.ireturn X at_189 rfl (by decide) (by decide) (by decide) (by decide) rfl
  · skip
    refine W.iload (pc' := 71) X at_69 rfl rfl ?_
    refine W.newA (aty := .char) (pc' := 73) (k' := 2) (n' := 7) (cap := 1) X (w1 G) at_71 (by decide) (by decide) (by decide) rfl (by decide) (by decide) (by decide) (by decide) fun T h60 a61 X K62 g63 g64 nb65 A66 => ?_
    have A66 : Ar Z h60 a61 .char [(.int (0 : Int32))] := A66
    refine W.astore (pc' := 75) (ls' := #[.val (.int p0), .val (.int p1), .val (.int p2), .val (.int p3), .val (.int (1 : Int32)), .val (.ref a2), .val (.ref a61), .unset]) X at_73 rfl rfl rfl ?_
    refine W.iload (pc' := 77) X at_75 rfl rfl ?_
    refine W.ifF (pc' := 80) X at_77 (by decide) rfl ?_
    refine W.aload (pc' := 82) X at_80 rfl rfl rfl ?_
    refine W.iconst (pc' := 83) X (0 : Int32) at_82 (by decide) rfl ?_
    refine W.aload (pc' := 85) X at_83 rfl rfl rfl ?_
    refine W.iconst (pc' := 86) X (0 : Int32) at_85 (by decide) rfl ?_
    have F67 := (A25.keep K62 nin0)
    refine W.caload (pc' := 87) (v := (.int f0)) X F67 (by decide) rfl at_86 rfl ?_
    refine W.castore (pc' := 88) (i := 0) X A66 (by decide) rfl (ltb rfl) (i2cx cf0) g64 nb65 at_87 rfl fun T h68 X K69 A70 => ?_
    have A70 : Ar Z h68 a61 .char [(.int f0)] := A70
    refine W.iload (pc' := 90) X at_88 rfl rfl ?_
    refine W.iconst (pc' := 91) X (1 : Int32) at_90 (by decide) rfl ?_
    refine W.icT (pc' := 102) X at_91 (by decide) (by decide) (by decide) ?_
    refine W.iload (pc' := 104) X at_102 rfl rfl ?_
    refine W.iconst (pc' := 105) X (2 : Int32) at_104 (by decide) rfl ?_
    refine W.icT (pc' := 116) X at_105 (by decide) (by decide) (by decide) ?_
    refine W.iload (pc' := 118) X at_116 rfl rfl ?_
    refine W.iconst (pc' := 119) X (3 : Int32) at_118 (by decide) rfl ?_
    refine W.icT (pc' := 130) X at_119 (by decide) (by decide) (by decide) ?_
    refine W.iload (pc' := 132) X at_130 rfl rfl ?_
    refine W.iconst (pc' := 133) X (4 : Int32) at_132 (by decide) rfl ?_
    refine W.icT (pc' := 144) X at_133 (by decide) (by decide) (by decide) ?_
    refine W.iload (pc' := 146) X at_144 rfl rfl ?_
    refine W.iconst (pc' := 147) X (5 : Int32) at_146 (by decide) rfl ?_
    refine W.icT (pc' := 158) X at_147 (by decide) (by decide) (by decide) ?_
    by_cases hLt : Lat [f0]
    · skip
      refine W.new (pc' := 161) (k' := 3) (n' := 11) X (w3 G) (w4 G) (w5 G) at_158 rfl (by decide) (by decide) (by decide) (by decide) fun T h71 a72 X K73 g74 g75 nb76 E77 D78 => ?_
      have F79 : Fld Z h71 a72 "java/lang/String" "value" "[B" .null := D78 (Or.inr (w18 G)) (ty := (.array .byte)) (by decide)
      have F80 : Fld Z h71 a72 "java/lang/String" "coder" "B" (.int (0 : Int32)) := D78 (Or.inr (w19 G)) (ty := .byte) (by decide)
      refine W.dup (pc' := 162) X at_161 rfl rfl ?_
      refine W.aload (pc' := 164) X at_162 rfl rfl rfl ?_
      have F81 := (A70.keep K73 nin0)
      have en82 := X.en
      refine W.callN (pc' := 167) (W := 1) (argsL := [(.ref a61)]) (st := [(.ref a72)]) (k' := 4) (n' := 17) (a := a72) X (c_init1 (x := a72) (a := a61) (cs := [f0]) (v0 := .null) (c0 := (.int (0 : Int32))) G X.en E77 F79 F80 F81 hLt (ltb rfl) (leb rfl) g75 nb76) rfl (w6 G) (w7 G) (w8 G) (w5 G) (by decide) (by decide) (by decide) rfl (lenOf pd29 rfl) rfl rfl (Nat.le_of_eq rfl) at_164 rfl (by decide) (by decide) (by decide) (by decide) (kv fun T h83 X z84 q85 => ?_)
      obtain ⟨a86, K87, g88, F89⟩ := q85
      have g90 : Z.heap.size ≤ a86 := Nat.le_trans (Nat.le_trans hz0 (Nat.le_trans (Nat.le_trans (Nat.le_trans (Nat.le_trans (Nat.le_trans (Nat.le_trans (Nat.le_trans (Nat.le_trans (Nat.le_trans K3.1 K9.1) K12.1) K15.1) K18.1) K21.1) K24.1) K62.1) K69.1) K73.1)) g88
      have nb91 : ¬ B a86 := fun q => absurd (en82.2 _ q) (Nat.not_lt.mpr g88)
      have F92 : Sx Z h83 a72 a86 ([f0]) := Or.inl F89
      refine W.callS (pc' := 170) (W := 0) (argsL := [(.ref a72)]) (st := []) (k' := 6) (n' := 25) X (c_dec (r := a72) (rb := a86) (cs := [f0]) G X.en F92 (leb rfl)) (w24 G) (w25 G) (w27 G) (w26 G) (by decide) (by decide) (by decide) rfl (lenOf pd26 rfl) rfl rfl (Nat.le_of_eq rfl) at_167 rfl (by decide) (by decide) (by decide) (by decide) (kri fun T h93 B96 xr X z94 zb97 q95 => ?_)
      obtain ⟨rfl, K98⟩ := q95
      refine W.istore (pc' := 172) (ls' := #[.val (.int p0), .val (.int p1), .val (.int p2), .val (.int p3), .val (.int (1 : Int32)), .val (.ref a2), .val (.ref a61), .val (.int (b2i (decC ([f0].map cl))))]) X at_170 rfl rfl ?_
      refine W.iload (pc' := 174) X at_172 rfl rfl ?_
      refine W.aload (pc' := 176) X at_174 rfl rfl rfl ?_
      refine W.iload (pc' := 178) X at_176 rfl rfl ?_
      have F99 := ((((F67.keep K69 (ninS (Nat.ne_of_lt (Nat.lt_of_lt_of_le A7.lt (Nat.le_trans (Nat.le_trans (Nat.le_trans (Nat.le_trans (Nat.le_trans (Nat.le_trans K9.1 K12.1) K15.1) K18.1) K21.1) K24.1) g63))) nin0)).keep K73 nin0).keep K87 (ninS (Nat.ne_of_lt (Nat.lt_of_lt_of_le A7.lt (Nat.le_trans (Nat.le_trans (Nat.le_trans (Nat.le_trans (Nat.le_trans (Nat.le_trans (Nat.le_trans (Nat.le_trans K9.1 K12.1) K15.1) K18.1) K21.1) K24.1) K62.1) K69.1) g74))) nin0)).keep K98 nin0)
      refine W.callS (pc' := 181) (W := 1) (argsL := [(.ref a2), (.int (1 : Int32))]) (st := [(.int (b2i (decC ([f0].map cl))))]) (k' := 6) (n' := 25) X (c_exp (a := a2) (fs := [f0, f1, f2, f3, f4, f5]) (n := 1) G X.en F99 rfl (by decide)) (w51 G) (w52 G) (w54 G) (w53 G) (by decide) (by decide) (by decide) rfl (lenOf pd30 rfl) rfl rfl (Nat.le_of_eq rfl) at_178 rfl (by decide) (by decide) (by decide) (by decide) (kp fun T X => ?_)
      refine W.icF (pc' := 184) X at_181 (XT.ii_ne_f (congrArg b2i (fin1 f0 f1 f2 f3 f4 f5))) rfl ?_
      refine W.iconst (pc' := 185) X (1 : Int32) at_184 (by decide) rfl ?_
      refine W.goto (pc' := 189) X at_185 (by decide) (by decide) ?_
      exact W.ireturn X at_189 rfl (by decide) (by decide) (by decide) (by decide) rfl
    · skip
      refine W.new (pc' := 161) (k' := 3) (n' := 11) X (w3 G) (w4 G) (w5 G) at_158 rfl (by decide) (by decide) (by decide) (by decide) fun T h100 a101 X K102 g103 g104 nb105 E106 D107 => ?_
      have F108 : Fld Z h100 a101 "java/lang/String" "value" "[B" .null := D107 (Or.inr (w18 G)) (ty := (.array .byte)) (by decide)
      have F109 : Fld Z h100 a101 "java/lang/String" "coder" "B" (.int (0 : Int32)) := D107 (Or.inr (w19 G)) (ty := .byte) (by decide)
      refine W.dup (pc' := 162) X at_161 rfl rfl ?_
      refine W.aload (pc' := 164) X at_162 rfl rfl rfl ?_
      have F110 := (A70.keep K102 nin0)
      have en111 := X.en
      refine W.callN (pc' := 167) (W := 1) (argsL := [(.ref a61)]) (st := [(.ref a101)]) (k' := 5) (n' := 29) (a := a101) X (c_init1u (x := a101) (a := a61) (cs := [f0]) (v0 := .null) (c0 := (.int (0 : Int32))) G X.en E106 F108 F109 F110 hLt (c16S cf0 c160) (ltb rfl) (leb rfl) g104 nb105) rfl (w6 G) (w7 G) (w8 G) (w5 G) (by decide) (by decide) (by decide) rfl (lenOf pd29 rfl) rfl rfl (Nat.le_of_eq rfl) at_164 rfl (by decide) (by decide) (by decide) (by decide) (kv fun T h112 X z113 q114 => ?_)
      obtain ⟨a115, K116, g117, F118⟩ := q114
      have g119 : Z.heap.size ≤ a115 := Nat.le_trans (Nat.le_trans hz0 (Nat.le_trans (Nat.le_trans (Nat.le_trans (Nat.le_trans (Nat.le_trans (Nat.le_trans (Nat.le_trans (Nat.le_trans (Nat.le_trans K3.1 K9.1) K12.1) K15.1) K18.1) K21.1) K24.1) K62.1) K69.1) K102.1)) g117
      have nb120 : ¬ B a115 := fun q => absurd (en111.2 _ q) (Nat.not_lt.mpr g117)
      have F121 : Sx Z h112 a101 a115 ([f0]) := Or.inr F118
      refine W.callS (pc' := 170) (W := 0) (argsL := [(.ref a101)]) (st := []) (k' := 7) (n' := 37) X (c_dec (r := a101) (rb := a115) (cs := [f0]) G X.en F121 (leb rfl)) (w24 G) (w25 G) (w27 G) (w26 G) (by decide) (by decide) (by decide) rfl (lenOf pd26 rfl) rfl rfl (Nat.le_of_eq rfl) at_167 rfl (by decide) (by decide) (by decide) (by decide) (kri fun T h122 B125 xr X z123 zb126 q124 => ?_)
      obtain ⟨rfl, K127⟩ := q124
      refine W.istore (pc' := 172) (ls' := #[.val (.int p0), .val (.int p1), .val (.int p2), .val (.int p3), .val (.int (1 : Int32)), .val (.ref a2), .val (.ref a61), .val (.int (b2i (decC ([f0].map cl))))]) X at_170 rfl rfl ?_
      refine W.iload (pc' := 174) X at_172 rfl rfl ?_
      refine W.aload (pc' := 176) X at_174 rfl rfl rfl ?_
      refine W.iload (pc' := 178) X at_176 rfl rfl ?_
      have F128 := ((((F67.keep K69 (ninS (Nat.ne_of_lt (Nat.lt_of_lt_of_le A7.lt (Nat.le_trans (Nat.le_trans (Nat.le_trans (Nat.le_trans (Nat.le_trans (Nat.le_trans K9.1 K12.1) K15.1) K18.1) K21.1) K24.1) g63))) nin0)).keep K102 nin0).keep K116 (ninS (Nat.ne_of_lt (Nat.lt_of_lt_of_le A7.lt (Nat.le_trans (Nat.le_trans (Nat.le_trans (Nat.le_trans (Nat.le_trans (Nat.le_trans (Nat.le_trans (Nat.le_trans K9.1 K12.1) K15.1) K18.1) K21.1) K24.1) K62.1) K69.1) g103))) nin0)).keep K127 nin0)
      refine W.callS (pc' := 181) (W := 1) (argsL := [(.ref a2), (.int (1 : Int32))]) (st := [(.int (b2i (decC ([f0].map cl))))]) (k' := 7) (n' := 37) X (c_exp (a := a2) (fs := [f0, f1, f2, f3, f4, f5]) (n := 1) G X.en F128 rfl (by decide)) (w51 G) (w52 G) (w54 G) (w53 G) (by decide) (by decide) (by decide) rfl (lenOf pd30 rfl) rfl rfl (Nat.le_of_eq rfl) at_178 rfl (by decide) (by decide) (by decide) (by decide) (kp fun T X => ?_)
      refine W.icF (pc' := 184) X at_181 (XT.ii_ne_f (congrArg b2i (fin1 f0 f1 f2 f3 f4 f5))) rfl ?_
      refine W.iconst (pc' := 185) X (1 : Int32) at_184 (by decide) rfl ?_
      refine W.goto (pc' := 189) X at_185 (by decide) (by decide) ?_
      exact W.ireturn X at_189 rfl (by decide) (by decide) (by decide) (by decide) rfl
  · skip
    refine W.iload (pc' := 71) X at_69 rfl rfl ?_
    refine W.newA (aty := .char) (pc' := 73) (k' := 2) (n' := 8) (cap := 2) X (w1 G) at_71 (by decide) (by decide) (by decide) rfl (by decide) (by decide) (by decide) (by decide) fun T h129 a130 X K131 g132 g133 nb134 A135 => ?_
    have A135 : Ar Z h129 a130 .char [(.int (0 : Int32)), (.int (0 : Int32))] := A135
    refine W.astore (pc' := 75) (ls' := #[.val (.int p0), .val (.int p1), .val (.int p2), .val (.int p3), .val (.int (2 : Int32)), .val (.ref a2), .val (.ref a130), .unset]) X at_73 rfl rfl rfl ?_
    refine W.iload (pc' := 77) X at_75 rfl rfl ?_
    refine W.ifF (pc' := 80) X at_77 (by decide) rfl ?_
    refine W.aload (pc' := 82) X at_80 rfl rfl rfl ?_
    refine W.iconst (pc' := 83) X (0 : Int32) at_82 (by decide) rfl ?_
    refine W.aload (pc' := 85) X at_83 rfl rfl rfl ?_
    refine W.iconst (pc' := 86) X (0 : Int32) at_85 (by decide) rfl ?_
    have F136 := (A25.keep K131 nin0)
    refine W.caload (pc' := 87) (v := (.int f0)) X F136 (by decide) rfl at_86 rfl ?_
    refine W.castore (pc' := 88) (i := 0) X A135 (by decide) rfl (ltb rfl) (i2cx cf0) g133 nb134 at_87 rfl fun T h137 X K138 A139 => ?_
    have A139 : Ar Z h137 a130 .char [(.int f0), (.int (0 : Int32))] := A139
    refine W.iload (pc' := 90) X at_88 rfl rfl ?_
    refine W.iconst (pc' := 91) X (1 : Int32) at_90 (by decide) rfl ?_
    refine W.icF (pc' := 94) X at_91 (by decide) rfl ?_
    refine W.aload (pc' := 96) X at_94 rfl rfl rfl ?_
    refine W.iconst (pc' := 97) X (1 : Int32) at_96 (by decide) rfl ?_
    refine W.aload (pc' := 99) X at_97 rfl rfl rfl ?_
    refine W.iconst (pc' := 100) X (1 : Int32) at_99 (by decide) rfl ?_
    have F140 := (F136.keep K138 (ninS (Nat.ne_of_lt (Nat.lt_of_lt_of_le A7.lt (Nat.le_trans (Nat.le_trans (Nat.le_trans (Nat.le_trans (Nat.le_trans (Nat.le_trans K9.1 K12.1) K15.1) K18.1) K21.1) K24.1) g132))) nin0))
    refine W.caload (pc' := 101) (v := (.int f1)) X F140 (by decide) rfl at_100 rfl ?_
    refine W.castore (pc' := 102) (i := 1) X A139 (by decide) rfl (ltb rfl) (i2cx cf1) g133 nb134 at_101 rfl fun T h141 X K142 A143 => ?_
    have A143 : Ar Z h141 a130 .char [(.int f0), (.int f1)] := A143
    refine W.iload (pc' := 104) X at_102 rfl rfl ?_
    refine W.iconst (pc' := 105) X (2 : Int32) at_104 (by decide) rfl ?_
    refine W.icT (pc' := 116) X at_105 (by decide) (by decide) (by decide) ?_
    refine W.iload (pc' := 118) X at_116 rfl rfl ?_
    refine W.iconst (pc' := 119) X (3 : Int32) at_118 (by decide) rfl ?_
    refine W.icT (pc' := 130) X at_119 (by decide) (by decide) (by decide) ?_
    refine W.iload (pc' := 132) X at_130 rfl rfl ?_
    refine W.iconst (pc' := 133) X (4 : Int32) at_132 (by decide) rfl ?_
    refine W.icT (pc' := 144) X at_133 (by decide) (by decide) (by decide) ?_
    refine W.iload (pc' := 146) X at_144 rfl rfl ?_
    refine W.iconst (pc' := 147) X (5 : Int32) at_146 (by decide) rfl ?_
    refine W.icT (pc' := 158) X at_147 (by decide) (by decide) (by decide) ?_
    by_cases hLt : Lat [f0, f1]
    · skip
      refine W.new (pc' := 161) (k' := 3) (n' := 12) X (w3 G) (w4 G) (w5 G) at_158 rfl (by decide) (by decide) (by decide) (by decide) fun T h144 a145 X K146 g147 g148 nb149 E150 D151 => ?_
      have F152 : Fld Z h144 a145 "java/lang/String" "value" "[B" .null := D151 (Or.inr (w18 G)) (ty := (.array .byte)) (by decide)
      have F153 : Fld Z h144 a145 "java/lang/String" "coder" "B" (.int (0 : Int32)) := D151 (Or.inr (w19 G)) (ty := .byte) (by decide)
      refine W.dup (pc' := 162) X at_161 rfl rfl ?_
      refine W.aload (pc' := 164) X at_162 rfl rfl rfl ?_
      have F154 := (A143.keep K146 nin0)
      have en155 := X.en
      refine W.callN (pc' := 167) (W := 1) (argsL := [(.ref a130)]) (st := [(.ref a145)]) (k' := 4) (n' := 18) (a := a145) X (c_init1 (x := a145) (a := a130) (cs := [f0, f1]) (v0 := .null) (c0 := (.int (0 : Int32))) G X.en E150 F152 F153 F154 hLt (ltb rfl) (leb rfl) g148 nb149) rfl (w6 G) (w7 G) (w8 G) (w5 G) (by decide) (by decide) (by decide) rfl (lenOf pd29 rfl) rfl rfl (Nat.le_of_eq rfl) at_164 rfl (by decide) (by decide) (by decide) (by decide) (kv fun T h156 X z157 q158 => ?_)
      obtain ⟨a159, K160, g161, F162⟩ := q158
      have g163 : Z.heap.size ≤ a159 := Nat.le_trans (Nat.le_trans hz0 (Nat.le_trans (Nat.le_trans (Nat.le_trans (Nat.le_trans (Nat.le_trans (Nat.le_trans (Nat.le_trans (Nat.le_trans (Nat.le_trans (Nat.le_trans K3.1 K9.1) K12.1) K15.1) K18.1) K21.1) K24.1) K131.1) K138.1) K142.1) K146.1)) g161
      have nb164 : ¬ B a159 := fun q => absurd (en155.2 _ q) (Nat.not_lt.mpr g161)
      have F165 : Sx Z h156 a145 a159 ([f0, f1]) := Or.inl F162
      refine W.callS (pc' := 170) (W := 0) (argsL := [(.ref a145)]) (st := []) (k' := 6) (n' := 26) X (c_dec (r := a145) (rb := a159) (cs := [f0, f1]) G X.en F165 (leb rfl)) (w24 G) (w25 G) (w27 G) (w26 G) (by decide) (by decide) (by decide) rfl (lenOf pd26 rfl) rfl rfl (Nat.le_of_eq rfl) at_167 rfl (by decide) (by decide) (by decide) (by decide) (kri fun T h166 B169 xr X z167 zb170 q168 => ?_)
      obtain ⟨rfl, K171⟩ := q168
      refine W.istore (pc' := 172) (ls' := #[.val (.int p0), .val (.int p1), .val (.int p2), .val (.int p3), .val (.int (2 : Int32)), .val (.ref a2), .val (.ref a130), .val (.int (b2i (decC ([f0, f1].map cl))))]) X at_170 rfl rfl ?_
      refine W.iload (pc' := 174) X at_172 rfl rfl ?_
      refine W.aload (pc' := 176) X at_174 rfl rfl rfl ?_
      refine W.iload (pc' := 178) X at_176 rfl rfl ?_
      have F172 := ((((F140.keep K142 (ninS (Nat.ne_of_lt (Nat.lt_of_lt_of_le A7.lt (Nat.le_trans (Nat.le_trans (Nat.le_trans (Nat.le_trans (Nat.le_trans (Nat.le_trans K9.1 K12.1) K15.1) K18.1) K21.1) K24.1) g132))) nin0)).keep K146 nin0).keep K160 (ninS (Nat.ne_of_lt (Nat.lt_of_lt_of_le A7.lt (Nat.le_trans (Nat.le_trans (Nat.le_trans (Nat.le_trans (Nat.le_trans (Nat.le_trans (Nat.le_trans (Nat.le_trans (Nat.le_trans K9.1 K12.1) K15.1) K18.1) K21.1) K24.1) K131.1) K138.1) K142.1) g147))) nin0)).keep K171 nin0)
      refine W.callS (pc' := 181) (W := 1) (argsL := [(.ref a2), (.int (2 : Int32))]) (st := [(.int (b2i (decC ([f0, f1].map cl))))]) (k' := 6) (n' := 26) X (c_exp (a := a2) (fs := [f0, f1, f2, f3, f4, f5]) (n := 2) G X.en F172 rfl (by decide)) (w51 G) (w52 G) (w54 G) (w53 G) (by decide) (by decide) (by decide) rfl (lenOf pd30 rfl) rfl rfl (Nat.le_of_eq rfl) at_178 rfl (by decide) (by decide) (by decide) (by decide) (kp fun T X => ?_)
      refine W.icF (pc' := 184) X at_181 (XT.ii_ne_f (congrArg b2i (fin2 f0 f1 f2 f3 f4 f5))) rfl ?_
      refine W.iconst (pc' := 185) X (1 : Int32) at_184 (by decide) rfl ?_
      refine W.goto (pc' := 189) X at_185 (by decide) (by decide) ?_
      exact W.ireturn X at_189 rfl (by decide) (by decide) (by decide) (by decide) rfl
    · skip
      refine W.new (pc' := 161) (k' := 3) (n' := 12) X (w3 G) (w4 G) (w5 G) at_158 rfl (by decide) (by decide) (by decide) (by decide) fun T h173 a174 X K175 g176 g177 nb178 E179 D180 => ?_
      have F181 : Fld Z h173 a174 "java/lang/String" "value" "[B" .null := D180 (Or.inr (w18 G)) (ty := (.array .byte)) (by decide)
      have F182 : Fld Z h173 a174 "java/lang/String" "coder" "B" (.int (0 : Int32)) := D180 (Or.inr (w19 G)) (ty := .byte) (by decide)
      refine W.dup (pc' := 162) X at_161 rfl rfl ?_
      refine W.aload (pc' := 164) X at_162 rfl rfl rfl ?_
      have F183 := (A143.keep K175 nin0)
      have en184 := X.en
      refine W.callN (pc' := 167) (W := 1) (argsL := [(.ref a130)]) (st := [(.ref a174)]) (k' := 5) (n' := 30) (a := a174) X (c_init1u (x := a174) (a := a130) (cs := [f0, f1]) (v0 := .null) (c0 := (.int (0 : Int32))) G X.en E179 F181 F182 F183 hLt (c16S cf0 (c16S cf1 c160)) (ltb rfl) (leb rfl) g177 nb178) rfl (w6 G) (w7 G) (w8 G) (w5 G) (by decide) (by decide) (by decide) rfl (lenOf pd29 rfl) rfl rfl (Nat.le_of_eq rfl) at_164 rfl (by decide) (by decide) (by decide) (by decide) (kv fun T h185 X z186 q187 => ?_)
      obtain ⟨a188, K189, g190, F191⟩ := q187
      have g192 : Z.heap.size ≤ a188 := Nat.le_trans (Nat.le_trans hz0 (Nat.le_trans (Nat.le_trans (Nat.le_trans (Nat.le_trans (Nat.le_trans (Nat.le_trans (Nat.le_trans (Nat.le_trans (Nat.le_trans (Nat.le_trans K3.1 K9.1) K12.1) K15.1) K18.1) K21.1) K24.1) K131.1) K138.1) K142.1) K175.1)) g190
      have nb193 : ¬ B a188 := fun q => absurd (en184.2 _ q) (Nat.not_lt.mpr g190)
      have F194 : Sx Z h185 a174 a188 ([f0, f1]) := Or.inr F191
      refine W.callS (pc' := 170) (W := 0) (argsL := [(.ref a174)]) (st := []) (k' := 7) (n' := 38) X (c_dec (r := a174) (rb := a188) (cs := [f0, f1]) G X.en F194 (leb rfl)) (w24 G) (w25 G) (w27 G) (w26 G) (by decide) (by decide) (by decide) rfl (lenOf pd26 rfl) rfl rfl (Nat.le_of_eq rfl) at_167 rfl (by decide) (by decide) (by decide) (by decide) (kri fun T h195 B198 xr X z196 zb199 q197 => ?_)
      obtain ⟨rfl, K200⟩ := q197
      refine W.istore (pc' := 172) (ls' := #[.val (.int p0), .val (.int p1), .val (.int p2), .val (.int p3), .val (.int (2 : Int32)), .val (.ref a2), .val (.ref a130), .val (.int (b2i (decC ([f0, f1].map cl))))]) X at_170 rfl rfl ?_
      refine W.iload (pc' := 174) X at_172 rfl rfl ?_
      refine W.aload (pc' := 176) X at_174 rfl rfl rfl ?_
      refine W.iload (pc' := 178) X at_176 rfl rfl ?_
      have F201 := ((((F140.keep K142 (ninS (Nat.ne_of_lt (Nat.lt_of_lt_of_le A7.lt (Nat.le_trans (Nat.le_trans (Nat.le_trans (Nat.le_trans (Nat.le_trans (Nat.le_trans K9.1 K12.1) K15.1) K18.1) K21.1) K24.1) g132))) nin0)).keep K175 nin0).keep K189 (ninS (Nat.ne_of_lt (Nat.lt_of_lt_of_le A7.lt (Nat.le_trans (Nat.le_trans (Nat.le_trans (Nat.le_trans (Nat.le_trans (Nat.le_trans (Nat.le_trans (Nat.le_trans (Nat.le_trans K9.1 K12.1) K15.1) K18.1) K21.1) K24.1) K131.1) K138.1) K142.1) g176))) nin0)).keep K200 nin0)
      refine W.callS (pc' := 181) (W := 1) (argsL := [(.ref a2), (.int (2 : Int32))]) (st := [(.int (b2i (decC ([f0, f1].map cl))))]) (k' := 7) (n' := 38) X (c_exp (a := a2) (fs := [f0, f1, f2, f3, f4, f5]) (n := 2) G X.en F201 rfl (by decide)) (w51 G) (w52 G) (w54 G) (w53 G) (by decide) (by decide) (by decide) rfl (lenOf pd30 rfl) rfl rfl (Nat.le_of_eq rfl) at_178 rfl (by decide) (by decide) (by decide) (by decide) (kp fun T X => ?_)
      refine W.icF (pc' := 184) X at_181 (XT.ii_ne_f (congrArg b2i (fin2 f0 f1 f2 f3 f4 f5))) rfl ?_
      refine W.iconst (pc' := 185) X (1 : Int32) at_184 (by decide) rfl ?_
      refine W.goto (pc' := 189) X at_185 (by decide) (by decide) ?_
      exact W.ireturn X at_189 rfl (by decide) (by decide) (by decide) (by decide) rfl
  · skip
    refine W.iload (pc' := 71) X at_69 rfl rfl ?_
    refine W.newA (aty := .char) (pc' := 73) (k' := 2) (n' := 9) (cap := 3) X (w1 G) at_71 (by decide) (by decide) (by decide) rfl (by decide) (by decide) (by decide) (by decide) fun T h202 a203 X K204 g205 g206 nb207 A208 => ?_
    have A208 : Ar Z h202 a203 .char [(.int (0 : Int32)), (.int (0 : Int32)), (.int (0 : Int32))] := A208
    refine W.astore (pc' := 75) (ls' := #[.val (.int p0), .val (.int p1), .val (.int p2), .val (.int p3), .val (.int (3 : Int32)), .val (.ref a2), .val (.ref a203), .unset]) X at_73 rfl rfl rfl ?_
    refine W.iload (pc' := 77) X at_75 rfl rfl ?_
    refine W.ifF (pc' := 80) X at_77 (by decide) rfl ?_
    refine W.aload (pc' := 82) X at_80 rfl rfl rfl ?_
    refine W.iconst (pc' := 83) X (0 : Int32) at_82 (by decide) rfl ?_
    refine W.aload (pc' := 85) X at_83 rfl rfl rfl ?_
    refine W.iconst (pc' := 86) X (0 : Int32) at_85 (by decide) rfl ?_
    have F209 := (A25.keep K204 nin0)
    refine W.caload (pc' := 87) (v := (.int f0)) X F209 (by decide) rfl at_86 rfl ?_
    refine W.castore (pc' := 88) (i := 0) X A208 (by decide) rfl (ltb rfl) (i2cx cf0) g206 nb207 at_87 rfl fun T h210 X K211 A212 => ?_
    have A212 : Ar Z h210 a203 .char [(.int f0), (.int (0 : Int32)), (.int (0 : Int32))] := A212
    refine W.iload (pc' := 90) X at_88 rfl rfl ?_
    refine W.iconst (pc' := 91) X (1 : Int32) at_90 (by decide) rfl ?_
    refine W.icF (pc' := 94) X at_91 (by decide) rfl ?_
    refine W.aload (pc' := 96) X at_94 rfl rfl rfl ?_
    refine W.iconst (pc' := 97) X (1 : Int32) at_96 (by decide) rfl ?_
    refine W.aload (pc' := 99) X at_97 rfl rfl rfl ?_
    refine W.iconst (pc' := 100) X (1 : Int32) at_99 (by decide) rfl ?_
    have F213 := (F209.keep K211 (ninS (Nat.ne_of_lt (Nat.lt_of_lt_of_le A7.lt (Nat.le_trans (Nat.le_trans (Nat.le_trans (Nat.le_trans (Nat.le_trans (Nat.le_trans K9.1 K12.1) K15.1) K18.1) K21.1) K24.1) g205))) nin0))
    refine W.caload (pc' := 101) (v := (.int f1)) X F213 (by decide) rfl at_100 rfl ?_
    refine W.castore (pc' := 102) (i := 1) X A212 (by decide) rfl (ltb rfl) (i2cx cf1) g206 nb207 at_101 rfl fun T h214 X K215 A216 => ?_
    have A216 : Ar Z h214 a203 .char [(.int f0), (.int f1), (.int (0 : Int32))] := A216
    refine W.iload (pc' := 104) X at_102 rfl rfl ?_
    refine W.iconst (pc' := 105) X (2 : Int32) at_104 (by decide) rfl ?_
    refine W.icF (pc' := 108) X at_105 (by decide) rfl ?_
    refine W.aload (pc' := 110) X at_108 rfl rfl rfl ?_
    refine W.iconst (pc' := 111) X (2 : Int32) at_110 (by decide) rfl ?_
    refine W.aload (pc' := 113) X at_111 rfl rfl rfl ?_
    refine W.iconst (pc' := 114) X (2 : Int32) at_113 (by decide) rfl ?_
    have F217 := (F213.keep K215 (ninS (Nat.ne_of_lt (Nat.lt_of_lt_of_le A7.lt (Nat.le_trans (Nat.le_trans (Nat.le_trans (Nat.le_trans (Nat.le_trans (Nat.le_trans K9.1 K12.1) K15.1) K18.1) K21.1) K24.1) g205))) nin0))
    refine W.caload (pc' := 115) (v := (.int f2)) X F217 (by decide) rfl at_114 rfl ?_
    refine W.castore (pc' := 116) (i := 2) X A216 (by decide) rfl (ltb rfl) (i2cx cf2) g206 nb207 at_115 rfl fun T h218 X K219 A220 => ?_
    have A220 : Ar Z h218 a203 .char [(.int f0), (.int f1), (.int f2)] := A220
    refine W.iload (pc' := 118) X at_116 rfl rfl ?_
    refine W.iconst (pc' := 119) X (3 : Int32) at_118 (by decide) rfl ?_
    refine W.icT (pc' := 130) X at_119 (by decide) (by decide) (by decide) ?_
    refine W.iload (pc' := 132) X at_130 rfl rfl ?_
    refine W.iconst (pc' := 133) X (4 : Int32) at_132 (by decide) rfl ?_
    refine W.icT (pc' := 144) X at_133 (by decide) (by decide) (by decide) ?_
    refine W.iload (pc' := 146) X at_144 rfl rfl ?_
    refine W.iconst (pc' := 147) X (5 : Int32) at_146 (by decide) rfl ?_
    refine W.icT (pc' := 158) X at_147 (by decide) (by decide) (by decide) ?_
    by_cases hLt : Lat [f0, f1, f2]
    · skip
      refine W.new (pc' := 161) (k' := 3) (n' := 13) X (w3 G) (w4 G) (w5 G) at_158 rfl (by decide) (by decide) (by decide) (by decide) fun T h221 a222 X K223 g224 g225 nb226 E227 D228 => ?_
      have F229 : Fld Z h221 a222 "java/lang/String" "value" "[B" .null := D228 (Or.inr (w18 G)) (ty := (.array .byte)) (by decide)
      have F230 : Fld Z h221 a222 "java/lang/String" "coder" "B" (.int (0 : Int32)) := D228 (Or.inr (w19 G)) (ty := .byte) (by decide)
      refine W.dup (pc' := 162) X at_161 rfl rfl ?_
      refine W.aload (pc' := 164) X at_162 rfl rfl rfl ?_
      have F231 := (A220.keep K223 nin0)
      have en232 := X.en
      refine W.callN (pc' := 167) (W := 1) (argsL := [(.ref a203)]) (st := [(.ref a222)]) (k' := 4) (n' := 19) (a := a222) X (c_init1 (x := a222) (a := a203) (cs := [f0, f1, f2]) (v0 := .null) (c0 := (.int (0 : Int32))) G X.en E227 F229 F230 F231 hLt (ltb rfl) (leb rfl) g225 nb226) rfl (w6 G) (w7 G) (w8 G) (w5 G) (by decide) (by decide) (by decide) rfl (lenOf pd29 rfl) rfl rfl (Nat.le_of_eq rfl) at_164 rfl (by decide) (by decide) (by decide) (by decide) (kv fun T h233 X z234 q235 => ?_)
      obtain ⟨a236, K237, g238, F239⟩ := q235
      have g240 : Z.heap.size ≤ a236 := Nat.le_trans (Nat.le_trans hz0 (Nat.le_trans (Nat.le_trans (Nat.le_trans (Nat.le_trans (Nat.le_trans (Nat.le_trans (Nat.le_trans (Nat.le_trans (Nat.le_trans (Nat.le_trans (Nat.le_trans K3.1 K9.1) K12.1) K15.1) K18.1) K21.1) K24.1) K204.1) K211.1) K215.1) K219.1) K223.1)) g238
      have nb241 : ¬ B a236 := fun q => absurd (en232.2 _ q) (Nat.not_lt.mpr g238)
      have F242 : Sx Z h233 a222 a236 ([f0, f1, f2]) := Or.inl F239
      refine W.callS (pc' := 170) (W := 0) (argsL := [(.ref a222)]) (st := []) (k' := 6) (n' := 27) X (c_dec (r := a222) (rb := a236) (cs := [f0, f1, f2]) G X.en F242 (leb rfl)) (w24 G) (w25 G) (w27 G) (w26 G) (by decide) (by decide) (by decide) rfl (lenOf pd26 rfl) rfl rfl (Nat.le_of_eq rfl) at_167 rfl (by decide) (by decide) (by decide) (by decide) (kri fun T h243 B246 xr X z244 zb247 q245 => ?_)
      obtain ⟨rfl, K248⟩ := q245
      refine W.istore (pc' := 172) (ls' := #[.val (.int p0), .val (.int p1), .val (.int p2), .val (.int p3), .val (.int (3 : Int32)), .val (.ref a2), .val (.ref a203), .val (.int (b2i (decC ([f0, f1, f2].map cl))))]) X at_170 rfl rfl ?_
      refine W.iload (pc' := 174) X at_172 rfl rfl ?_
      refine W.aload (pc' := 176) X at_174 rfl rfl rfl ?_
      refine W.iload (pc' := 178) X at_176 rfl rfl ?_
      have F249 := ((((F217.keep K219 (ninS (Nat.ne_of_lt (Nat.lt_of_lt_of_le A7.lt (Nat.le_trans (Nat.le_trans (Nat.le_trans (Nat.le_trans (Nat.le_trans (Nat.le_trans K9.1 K12.1) K15.1) K18.1) K21.1) K24.1) g205))) nin0)).keep K223 nin0).keep K237 (ninS (Nat.ne_of_lt (Nat.lt_of_lt_of_le A7.lt (Nat.le_trans (Nat.le_trans (Nat.le_trans (Nat.le_trans (Nat.le_trans (Nat.le_trans (Nat.le_trans (Nat.le_trans (Nat.le_trans (Nat.le_trans K9.1 K12.1) K15.1) K18.1) K21.1) K24.1) K204.1) K211.1) K215.1) K219.1) g224))) nin0)).keep K248 nin0)
      refine W.callS (pc' := 181) (W := 1) (argsL := [(.ref a2), (.int (3 : Int32))]) (st := [(.int (b2i (decC ([f0, f1, f2].map cl))))]) (k' := 6) (n' := 27) X (c_exp (a := a2) (fs := [f0, f1, f2, f3, f4, f5]) (n := 3) G X.en F249 rfl (by decide)) (w51 G) (w52 G) (w54 G) (w53 G) (by decide) (by decide) (by decide) rfl (lenOf pd30 rfl) rfl rfl (Nat.le_of_eq rfl) at_178 rfl (by decide) (by decide) (by decide) (by decide) (kp fun T X => ?_)
      refine W.icF (pc' := 184) X at_181 (XT.ii_ne_f (congrArg b2i (fin3 f0 f1 f2 f3 f4 f5))) rfl ?_
      refine W.iconst (pc' := 185) X (1 : Int32) at_184 (by decide) rfl ?_
      refine W.goto (pc' := 189) X at_185 (by decide) (by decide) ?_
      exact W.ireturn X at_189 rfl (by decide) (by decide) (by decide) (by decide) rfl
    · skip
      refine W.new (pc' := 161) (k' := 3) (n' := 13) X (w3 G) (w4 G) (w5 G) at_158 rfl (by decide) (by decide) (by decide) (by decide) fun T h250 a251 X K252 g253 g254 nb255 E256 D257 => ?_
      have F258 : Fld Z h250 a251 "java/lang/String" "value" "[B" .null := D257 (Or.inr (w18 G)) (ty := (.array .byte)) (by decide)
      have F259 : Fld Z h250 a251 "java/lang/String" "coder" "B" (.int (0 : Int32)) := D257 (Or.inr (w19 G)) (ty := .byte) (by decide)
      refine W.dup (pc' := 162) X at_161 rfl rfl ?_
      refine W.aload (pc' := 164) X at_162 rfl rfl rfl ?_
      have F260 := (A220.keep K252 nin0)
      have en261 := X.en
      refine W.callN (pc' := 167) (W := 1) (argsL := [(.ref a203)]) (st := [(.ref a251)]) (k' := 5) (n' := 31) (a := a251) X (c_init1u (x := a251) (a := a203) (cs := [f0, f1, f2]) (v0 := .null) (c0 := (.int (0 : Int32))) G X.en E256 F258 F259 F260 hLt (c16S cf0 (c16S cf1 (c16S cf2 c160))) (ltb rfl) (leb rfl) g254 nb255) rfl (w6 G) (w7 G) (w8 G) (w5 G) (by decide) (by decide) (by decide) rfl (lenOf pd29 rfl) rfl rfl (Nat.le_of_eq rfl) at_164 rfl (by decide) (by decide) (by decide) (by decide) (kv fun T h262 X z263 q264 => ?_)
      obtain ⟨a265, K266, g267, F268⟩ := q264
      have g269 : Z.heap.size ≤ a265 := Nat.le_trans (Nat.le_trans hz0 (Nat.le_trans (Nat.le_trans (Nat.le_trans (Nat.le_trans (Nat.le_trans (Nat.le_trans (Nat.le_trans (Nat.le_trans (Nat.le_trans (Nat.le_trans (Nat.le_trans K3.1 K9.1) K12.1) K15.1) K18.1) K21.1) K24.1) K204.1) K211.1) K215.1) K219.1) K252.1)) g267
      have nb270 : ¬ B a265 := fun q => absurd (en261.2 _ q) (Nat.not_lt.mpr g267)
      have F271 : Sx Z h262 a251 a265 ([f0, f1, f2]) := Or.inr F268
      refine W.callS (pc' := 170) (W := 0) (argsL := [(.ref a251)]) (st := []) (k' := 7) (n' := 39) X (c_dec (r := a251) (rb := a265) (cs := [f0, f1, f2]) G X.en F271 (leb rfl)) (w24 G) (w25 G) (w27 G) (w26 G) (by decide) (by decide) (by decide) rfl (lenOf pd26 rfl) rfl rfl (Nat.le_of_eq rfl) at_167 rfl (by decide) (by decide) (by decide) (by decide) (kri fun T h272 B275 xr X z273 zb276 q274 => ?_)
      obtain ⟨rfl, K277⟩ := q274
      refine W.istore (pc' := 172) (ls' := #[.val (.int p0), .val (.int p1), .val (.int p2), .val (.int p3), .val (.int (3 : Int32)), .val (.ref a2), .val (.ref a203), .val (.int (b2i (decC ([f0, f1, f2].map cl))))]) X at_170 rfl rfl ?_
      refine W.iload (pc' := 174) X at_172 rfl rfl ?_
      refine W.aload (pc' := 176) X at_174 rfl rfl rfl ?_
      refine W.iload (pc' := 178) X at_176 rfl rfl ?_
      have F278 := ((((F217.keep K219 (ninS (Nat.ne_of_lt (Nat.lt_of_lt_of_le A7.lt (Nat.le_trans (Nat.le_trans (Nat.le_trans (Nat.le_trans (Nat.le_trans (Nat.le_trans K9.1 K12.1) K15.1) K18.1) K21.1) K24.1) g205))) nin0)).keep K252 nin0).keep K266 (ninS (Nat.ne_of_lt (Nat.lt_of_lt_of_le A7.lt (Nat.le_trans (Nat.le_trans (Nat.le_trans (Nat.le_trans (Nat.le_trans (Nat.le_trans (Nat.le_trans (Nat.le_trans (Nat.le_trans (Nat.le_trans K9.1 K12.1) K15.1) K18.1) K21.1) K24.1) K204.1) K211.1) K215.1) K219.1) g253))) nin0)).keep K277 nin0)
      refine W.callS (pc' := 181) (W := 1) (argsL := [(.ref a2), (.int (3 : Int32))]) (st := [(.int (b2i (decC ([f0, f1, f2].map cl))))]) (k' := 7) (n' := 39) X (c_exp (a := a2) (fs := [f0, f1, f2, f3, f4, f5]) (n := 3) G X.en F278 rfl (by decide)) (w51 G) (w52 G) (w54 G) (w53 G) (by decide) (by decide) (by decide) rfl (lenOf pd30 rfl) rfl rfl (Nat.le_of_eq rfl) at_178 rfl (by decide) (by decide) (by decide) (by decide) (kp fun T X => ?_)
      refine W.icF (pc' := 184) X at_181 (XT.ii_ne_f (congrArg b2i (fin3 f0 f1 f2 f3 f4 f5))) rfl ?_
      refine W.iconst (pc' := 185) X (1 : Int32) at_184 (by decide) rfl ?_
      refine W.goto (pc' := 189) X at_185 (by decide) (by decide) ?_
      exact W.ireturn X at_189 rfl (by decide) (by decide) (by decide) (by decide) rfl
  · skip
    refine W.iload (pc' := 71) X at_69 rfl rfl ?_
    refine W.newA (aty := .char) (pc' := 73) (k' := 2) (n' := 10) (cap := 4) X (w1 G) at_71 (by decide) (by decide) (by decide) rfl (by decide) (by decide) (by decide) (by decide) fun T h279 a280 X K281 g282 g283 nb284 A285 => ?_
    have A285 : Ar Z h279 a280 .char [(.int (0 : Int32)), (.int (0 : Int32)), (.int (0 : Int32)), (.int (0 : Int32))] := A285
    refine W.astore (pc' := 75) (ls' := #[.val (.int p0), .val (.int p1), .val (.int p2), .val (.int p3), .val (.int (4 : Int32)), .val (.ref a2), .val (.ref a280), .unset]) X at_73 rfl rfl rfl ?_
    refine W.iload (pc' := 77) X at_75 rfl rfl ?_
    refine W.ifF (pc' := 80) X at_77 (by decide) rfl ?_
    refine W.aload (pc' := 82) X at_80 rfl rfl rfl ?_
    refine W.iconst (pc' := 83) X (0 : Int32) at_82 (by decide) rfl ?_
    refine W.aload (pc' := 85) X at_83 rfl rfl rfl ?_
    refine W.iconst (pc' := 86) X (0 : Int32) at_85 (by decide) rfl ?_
    have F286 := (A25.keep K281 nin0)
    refine W.caload (pc' := 87) (v := (.int f0)) X F286 (by decide) rfl at_86 rfl ?_
    refine W.castore (pc' := 88) (i := 0) X A285 (by decide) rfl (ltb rfl) (i2cx cf0) g283 nb284 at_87 rfl fun T h287 X K288 A289 => ?_
    have A289 : Ar Z h287 a280 .char [(.int f0), (.int (0 : Int32)), (.int (0 : Int32)), (.int (0 : Int32))] := A289
    refine W.iload (pc' := 90) X at_88 rfl rfl ?_
    refine W.iconst (pc' := 91) X (1 : Int32) at_90 (by decide) rfl ?_
    refine W.icF (pc' := 94) X at_91 (by decide) rfl ?_
    refine W.aload (pc' := 96) X at_94 rfl rfl rfl ?_
    refine W.iconst (pc' := 97) X (1 : Int32) at_96 (by decide) rfl ?_
    refine W.aload (pc' := 99) X at_97 rfl rfl rfl ?_
    refine W.iconst (pc' := 100) X (1 : Int32) at_99 (by decide) rfl ?_
    have F290 := (F286.keep K288 (ninS (Nat.ne_of_lt (Nat.lt_of_lt_of_le A7.lt (Nat.le_trans (Nat.le_trans (Nat.le_trans (Nat.le_trans (Nat.le_trans (Nat.le_trans K9.1 K12.1) K15.1) K18.1) K21.1) K24.1) g282))) nin0))
    refine W.caload (pc' := 101) (v := (.int f1)) X F290 (by decide) rfl at_100 rfl ?_
    refine W.castore (pc' := 102) (i := 1) X A289 (by decide) rfl (ltb rfl) (i2cx cf1) g283 nb284 at_101 rfl fun T h291 X K292 A293 => ?_
    have A293 : Ar Z h291 a280 .char [(.int f0), (.int f1), (.int (0 : Int32)), (.int (0 : Int32))] := A293
    refine W.iload (pc' := 104) X at_102 rfl rfl ?_
    refine W.iconst (pc' := 105) X (2 : Int32) at_104 (by decide) rfl ?_
    refine W.icF (pc' := 108) X at_105 (by decide) rfl ?_
    refine W.aload (pc' := 110) X at_108 rfl rfl rfl ?_
    refine W.iconst (pc' := 111) X (2 : Int32) at_110 (by decide) rfl ?_
    refine W.aload (pc' := 113) X at_111 rfl rfl rfl ?_
    refine W.iconst (pc' := 114) X (2 : Int32) at_113 (by decide) rfl ?_
    have F294 := (F290.keep K292 (ninS (Nat.ne_of_lt (Nat.lt_of_lt_of_le A7.lt (Nat.le_trans (Nat.le_trans (Nat.le_trans (Nat.le_trans (Nat.le_trans (Nat.le_trans K9.1 K12.1) K15.1) K18.1) K21.1) K24.1) g282))) nin0))
    refine W.caload (pc' := 115) (v := (.int f2)) X F294 (by decide) rfl at_114 rfl ?_
    refine W.castore (pc' := 116) (i := 2) X A293 (by decide) rfl (ltb rfl) (i2cx cf2) g283 nb284 at_115 rfl fun T h295 X K296 A297 => ?_
    have A297 : Ar Z h295 a280 .char [(.int f0), (.int f1), (.int f2), (.int (0 : Int32))] := A297
    refine W.iload (pc' := 118) X at_116 rfl rfl ?_
    refine W.iconst (pc' := 119) X (3 : Int32) at_118 (by decide) rfl ?_
    refine W.icF (pc' := 122) X at_119 (by decide) rfl ?_
    refine W.aload (pc' := 124) X at_122 rfl rfl rfl ?_
    refine W.iconst (pc' := 125) X (3 : Int32) at_124 (by decide) rfl ?_
    refine W.aload (pc' := 127) X at_125 rfl rfl rfl ?_
    refine W.iconst (pc' := 128) X (3 : Int32) at_127 (by decide) rfl ?_
    have F298 := (F294.keep K296 (ninS (Nat.ne_of_lt (Nat.lt_of_lt_of_le A7.lt (Nat.le_trans (Nat.le_trans (Nat.le_trans (Nat.le_trans (Nat.le_trans (Nat.le_trans K9.1 K12.1) K15.1) K18.1) K21.1) K24.1) g282))) nin0))
    refine W.caload (pc' := 129) (v := (.int f3)) X F298 (by decide) rfl at_128 rfl ?_
    refine W.castore (pc' := 130) (i := 3) X A297 (by decide) rfl (ltb rfl) (i2cx cf3) g283 nb284 at_129 rfl fun T h299 X K300 A301 => ?_
    have A301 : Ar Z h299 a280 .char [(.int f0), (.int f1), (.int f2), (.int f3)] := A301
    refine W.iload (pc' := 132) X at_130 rfl rfl ?_
    refine W.iconst (pc' := 133) X (4 : Int32) at_132 (by decide) rfl ?_
    refine W.icT (pc' := 144) X at_133 (by decide) (by decide) (by decide) ?_
    refine W.iload (pc' := 146) X at_144 rfl rfl ?_
    refine W.iconst (pc' := 147) X (5 : Int32) at_146 (by decide) rfl ?_
    refine W.icT (pc' := 158) X at_147 (by decide) (by decide) (by decide) ?_
    by_cases hLt : Lat [f0, f1, f2, f3]
    · skip
      refine W.new (pc' := 161) (k' := 3) (n' := 14) X (w3 G) (w4 G) (w5 G) at_158 rfl (by decide) (by decide) (by decide) (by decide) fun T h302 a303 X K304 g305 g306 nb307 E308 D309 => ?_
      have F310 : Fld Z h302 a303 "java/lang/String" "value" "[B" .null := D309 (Or.inr (w18 G)) (ty := (.array .byte)) (by decide)
      have F311 : Fld Z h302 a303 "java/lang/String" "coder" "B" (.int (0 : Int32)) := D309 (Or.inr (w19 G)) (ty := .byte) (by decide)
      refine W.dup (pc' := 162) X at_161 rfl rfl ?_
      refine W.aload (pc' := 164) X at_162 rfl rfl rfl ?_
      have F312 := (A301.keep K304 nin0)
      have en313 := X.en
      refine W.callN (pc' := 167) (W := 1) (argsL := [(.ref a280)]) (st := [(.ref a303)]) (k' := 4) (n' := 20) (a := a303) X (c_init1 (x := a303) (a := a280) (cs := [f0, f1, f2, f3]) (v0 := .null) (c0 := (.int (0 : Int32))) G X.en E308 F310 F311 F312 hLt (ltb rfl) (leb rfl) g306 nb307) rfl (w6 G) (w7 G) (w8 G) (w5 G) (by decide) (by decide) (by decide) rfl (lenOf pd29 rfl) rfl rfl (Nat.le_of_eq rfl) at_164 rfl (by decide) (by decide) (by decide) (by decide) (kv fun T h314 X z315 q316 => ?_)
      obtain ⟨a317, K318, g319, F320⟩ := q316
      have g321 : Z.heap.size ≤ a317 := Nat.le_trans (Nat.le_trans hz0 (Nat.le_trans (Nat.le_trans (Nat.le_trans (Nat.le_trans (Nat.le_trans (Nat.le_trans (Nat.le_trans (Nat.le_trans (Nat.le_trans (Nat.le_trans (Nat.le_trans (Nat.le_trans K3.1 K9.1) K12.1) K15.1) K18.1) K21.1) K24.1) K281.1) K288.1) K292.1) K296.1) K300.1) K304.1)) g319
      have nb322 : ¬ B a317 := fun q => absurd (en313.2 _ q) (Nat.not_lt.mpr g319)
      have F323 : Sx Z h314 a303 a317 ([f0, f1, f2, f3]) := Or.inl F320
      refine W.callS (pc' := 170) (W := 0) (argsL := [(.ref a303)]) (st := []) (k' := 6) (n' := 28) X (c_dec (r := a303) (rb := a317) (cs := [f0, f1, f2, f3]) G X.en F323 (leb rfl)) (w24 G) (w25 G) (w27 G) (w26 G) (by decide) (by decide) (by decide) rfl (lenOf pd26 rfl) rfl rfl (Nat.le_of_eq rfl) at_167 rfl (by decide) (by decide) (by decide) (by decide) (kri fun T h324 B327 xr X z325 zb328 q326 => ?_)
      obtain ⟨rfl, K329⟩ := q326
      refine W.istore (pc' := 172) (ls' := #[.val (.int p0), .val (.int p1), .val (.int p2), .val (.int p3), .val (.int (4 : Int32)), .val (.ref a2), .val (.ref a280), .val (.int (b2i (decC ([f0, f1, f2, f3].map cl))))]) X at_170 rfl rfl ?_
      refine W.iload (pc' := 174) X at_172 rfl rfl ?_
      refine W.aload (pc' := 176) X at_174 rfl rfl rfl ?_
      refine W.iload (pc' := 178) X at_176 rfl rfl ?_
      have F330 := ((((F298.keep K300 (ninS (Nat.ne_of_lt (Nat.lt_of_lt_of_le A7.lt (Nat.le_trans (Nat.le_trans (Nat.le_trans (Nat.le_trans (Nat.le_trans (Nat.le_trans K9.1 K12.1) K15.1) K18.1) K21.1) K24.1) g282))) nin0)).keep K304 nin0).keep K318 (ninS (Nat.ne_of_lt (Nat.lt_of_lt_of_le A7.lt (Nat.le_trans (Nat.le_trans (Nat.le_trans (Nat.le_trans (Nat.le_trans (Nat.le_trans (Nat.le_trans (Nat.le_trans (Nat.le_trans (Nat.le_trans (Nat.le_trans K9.1 K12.1) K15.1) K18.1) K21.1) K24.1) K281.1) K288.1) K292.1) K296.1) K300.1) g305))) nin0)).keep K329 nin0)
      refine W.callS (pc' := 181) (W := 1) (argsL := [(.ref a2), (.int (4 : Int32))]) (st := [(.int (b2i (decC ([f0, f1, f2, f3].map cl))))]) (k' := 6) (n' := 28) X (c_exp (a := a2) (fs := [f0, f1, f2, f3, f4, f5]) (n := 4) G X.en F330 rfl (by decide)) (w51 G) (w52 G) (w54 G) (w53 G) (by decide) (by decide) (by decide) rfl (lenOf pd30 rfl) rfl rfl (Nat.le_of_eq rfl) at_178 rfl (by decide) (by decide) (by decide) (by decide) (kp fun T X => ?_)
      refine W.icF (pc' := 184) X at_181 (XT.ii_ne_f (congrArg b2i (fin4 f0 f1 f2 f3 f4 f5))) rfl ?_
      refine W.iconst (pc' := 185) X (1 : Int32) at_184 (by decide) rfl ?_
      refine W.goto (pc' := 189) X at_185 (by decide) (by decide) ?_
      exact W.ireturn X at_189 rfl (by decide) (by decide) (by decide) (by decide) rfl
    · skip
      refine W.new (pc' := 161) (k' := 3) (n' := 14) X (w3 G) (w4 G) (w5 G) at_158 rfl (by decide) (by decide) (by decide) (by decide) fun T h331 a332 X K333 g334 g335 nb336 E337 D338 => ?_
      have F339 : Fld Z h331 a332 "java/lang/String" "value" "[B" .null := D338 (Or.inr (w18 G)) (ty := (.array .byte)) (by decide)
      have F340 : Fld Z h331 a332 "java/lang/String" "coder" "B" (.int (0 : Int32)) := D338 (Or.inr (w19 G)) (ty := .byte) (by decide)
      refine W.dup (pc' := 162) X at_161 rfl rfl ?_
      refine W.aload (pc' := 164) X at_162 rfl rfl rfl ?_
      have F341 := (A301.keep K333 nin0)
      have en342 := X.en
      refine W.callN (pc' := 167) (W := 1) (argsL := [(.ref a280)]) (st := [(.ref a332)]) (k' := 5) (n' := 32) (a := a332) X (c_init1u (x := a332) (a := a280) (cs := [f0, f1, f2, f3]) (v0 := .null) (c0 := (.int (0 : Int32))) G X.en E337 F339 F340 F341 hLt (c16S cf0 (c16S cf1 (c16S cf2 (c16S cf3 c160)))) (ltb rfl) (leb rfl) g335 nb336) rfl (w6 G) (w7 G) (w8 G) (w5 G) (by decide) (by decide) (by decide) rfl (lenOf pd29 rfl) rfl rfl (Nat.le_of_eq rfl) at_164 rfl (by decide) (by decide) (by decide) (by decide) (kv fun T h343 X z344 q345 => ?_)
      obtain ⟨a346, K347, g348, F349⟩ := q345
      have g350 : Z.heap.size ≤ a346 := Nat.le_trans (Nat.le_trans hz0 (Nat.le_trans (Nat.le_trans (Nat.le_trans (Nat.le_trans (Nat.le_trans (Nat.le_trans (Nat.le_trans (Nat.le_trans (Nat.le_trans (Nat.le_trans (Nat.le_trans (Nat.le_trans K3.1 K9.1) K12.1) K15.1) K18.1) K21.1) K24.1) K281.1) K288.1) K292.1) K296.1) K300.1) K333.1)) g348
      have nb351 : ¬ B a346 := fun q => absurd (en342.2 _ q) (Nat.not_lt.mpr g348)
      have F352 : Sx Z h343 a332 a346 ([f0, f1, f2, f3]) := Or.inr F349
      refine W.callS (pc' := 170) (W := 0) (argsL := [(.ref a332)]) (st := []) (k' := 7) (n' := 40) X (c_dec (r := a332) (rb := a346) (cs := [f0, f1, f2, f3]) G X.en F352 (leb rfl)) (w24 G) (w25 G) (w27 G) (w26 G) (by decide) (by decide) (by decide) rfl (lenOf pd26 rfl) rfl rfl (Nat.le_of_eq rfl) at_167 rfl (by decide) (by decide) (by decide) (by decide) (kri fun T h353 B356 xr X z354 zb357 q355 => ?_)
      obtain ⟨rfl, K358⟩ := q355
      refine W.istore (pc' := 172) (ls' := #[.val (.int p0), .val (.int p1), .val (.int p2), .val (.int p3), .val (.int (4 : Int32)), .val (.ref a2), .val (.ref a280), .val (.int (b2i (decC ([f0, f1, f2, f3].map cl))))]) X at_170 rfl rfl ?_
      refine W.iload (pc' := 174) X at_172 rfl rfl ?_
      refine W.aload (pc' := 176) X at_174 rfl rfl rfl ?_
      refine W.iload (pc' := 178) X at_176 rfl rfl ?_
      have F359 := ((((F298.keep K300 (ninS (Nat.ne_of_lt (Nat.lt_of_lt_of_le A7.lt (Nat.le_trans (Nat.le_trans (Nat.le_trans (Nat.le_trans (Nat.le_trans (Nat.le_trans K9.1 K12.1) K15.1) K18.1) K21.1) K24.1) g282))) nin0)).keep K333 nin0).keep K347 (ninS (Nat.ne_of_lt (Nat.lt_of_lt_of_le A7.lt (Nat.le_trans (Nat.le_trans (Nat.le_trans (Nat.le_trans (Nat.le_trans (Nat.le_trans (Nat.le_trans (Nat.le_trans (Nat.le_trans (Nat.le_trans (Nat.le_trans K9.1 K12.1) K15.1) K18.1) K21.1) K24.1) K281.1) K288.1) K292.1) K296.1) K300.1) g334))) nin0)).keep K358 nin0)
      refine W.callS (pc' := 181) (W := 1) (argsL := [(.ref a2), (.int (4 : Int32))]) (st := [(.int (b2i (decC ([f0, f1, f2, f3].map cl))))]) (k' := 7) (n' := 40) X (c_exp (a := a2) (fs := [f0, f1, f2, f3, f4, f5]) (n := 4) G X.en F359 rfl (by decide)) (w51 G) (w52 G) (w54 G) (w53 G) (by decide) (by decide) (by decide) rfl (lenOf pd30 rfl) rfl rfl (Nat.le_of_eq rfl) at_178 rfl (by decide) (by decide) (by decide) (by decide) (kp fun T X => ?_)
      refine W.icF (pc' := 184) X at_181 (XT.ii_ne_f (congrArg b2i (fin4 f0 f1 f2 f3 f4 f5))) rfl ?_
      refine W.iconst (pc' := 185) X (1 : Int32) at_184 (by decide) rfl ?_
      refine W.goto (pc' := 189) X at_185 (by decide) (by decide) ?_
      exact W.ireturn X at_189 rfl (by decide) (by decide) (by decide) (by decide) rfl
  · skip
    refine W.iload (pc' := 71) X at_69 rfl rfl ?_
    refine W.newA (aty := .char) (pc' := 73) (k' := 2) (n' := 11) (cap := 5) X (w1 G) at_71 (by decide) (by decide) (by decide) rfl (by decide) (by decide) (by decide) (by decide) fun T h360 a361 X K362 g363 g364 nb365 A366 => ?_
    have A366 : Ar Z h360 a361 .char [(.int (0 : Int32)), (.int (0 : Int32)), (.int (0 : Int32)), (.int (0 : Int32)), (.int (0 : Int32))] := A366
    refine W.astore (pc' := 75) (ls' := #[.val (.int p0), .val (.int p1), .val (.int p2), .val (.int p3), .val (.int (5 : Int32)), .val (.ref a2), .val (.ref a361), .unset]) X at_73 rfl rfl rfl ?_
    refine W.iload (pc' := 77) X at_75 rfl rfl ?_
    refine W.ifF (pc' := 80) X at_77 (by decide) rfl ?_
    refine W.aload (pc' := 82) X at_80 rfl rfl rfl ?_
    refine W.iconst (pc' := 83) X (0 : Int32) at_82 (by decide) rfl ?_
    refine W.aload (pc' := 85) X at_83 rfl rfl rfl ?_
    refine W.iconst (pc' := 86) X (0 : Int32) at_85 (by decide) rfl ?_
    have F367 := (A25.keep K362 nin0)
    refine W.caload (pc' := 87) (v := (.int f0)) X F367 (by decide) rfl at_86 rfl ?_
    refine W.castore (pc' := 88) (i := 0) X A366 (by decide) rfl (ltb rfl) (i2cx cf0) g364 nb365 at_87 rfl fun T h368 X K369 A370 => ?_
    have A370 : Ar Z h368 a361 .char [(.int f0), (.int (0 : Int32)), (.int (0 : Int32)), (.int (0 : Int32)), (.int (0 : Int32))] := A370
    refine W.iload (pc' := 90) X at_88 rfl rfl ?_
    refine W.iconst (pc' := 91) X (1 : Int32) at_90 (by decide) rfl ?_
    refine W.icF (pc' := 94) X at_91 (by decide) rfl ?_
    refine W.aload (pc' := 96) X at_94 rfl rfl rfl ?_
    refine W.iconst (pc' := 97) X (1 : Int32) at_96 (by decide) rfl ?_
    refine W.aload (pc' := 99) X at_97 rfl rfl rfl ?_
    refine W.iconst (pc' := 100) X (1 : Int32) at_99 (by decide) rfl ?_
    have F371 := (F367.keep K369 (ninS (Nat.ne_of_lt (Nat.lt_of_lt_of_le A7.lt (Nat.le_trans (Nat.le_trans (Nat.le_trans (Nat.le_trans (Nat.le_trans (Nat.le_trans K9.1 K12.1) K15.1) K18.1) K21.1) K24.1) g363))) nin0))
    refine W.caload (pc' := 101) (v := (.int f1)) X F371 (by decide) rfl at_100 rfl ?_
    refine W.castore (pc' := 102) (i := 1) X A370 (by decide) rfl (ltb rfl) (i2cx cf1) g364 nb365 at_101 rfl fun T h372 X K373 A374 => ?_
    have A374 : Ar Z h372 a361 .char [(.int f0), (.int f1), (.int (0 : Int32)), (.int (0 : Int32)), (.int (0 : Int32))] := A374
    refine W.iload (pc' := 104) X at_102 rfl rfl ?_
    refine W.iconst (pc' := 105) X (2 : Int32) at_104 (by decide) rfl ?_
    refine W.icF (pc' := 108) X at_105 (by decide) rfl ?_
    refine W.aload (pc' := 110) X at_108 rfl rfl rfl ?_
    refine W.iconst (pc' := 111) X (2 : Int32) at_110 (by decide) rfl ?_
    refine W.aload (pc' := 113) X at_111 rfl rfl rfl ?_
    refine W.iconst (pc' := 114) X (2 : Int32) at_113 (by decide) rfl ?_
    have F375 := (F371.keep K373 (ninS (Nat.ne_of_lt (Nat.lt_of_lt_of_le A7.lt (Nat.le_trans (Nat.le_trans (Nat.le_trans (Nat.le_trans (Nat.le_trans (Nat.le_trans K9.1 K12.1) K15.1) K18.1) K21.1) K24.1) g363))) nin0))
    refine W.caload (pc' := 115) (v := (.int f2)) X F375 (by decide) rfl at_114 rfl ?_
    refine W.castore (pc' := 116) (i := 2) X A374 (by decide) rfl (ltb rfl) (i2cx cf2) g364 nb365 at_115 rfl fun T h376 X K377 A378 => ?_
    have A378 : Ar Z h376 a361 .char [(.int f0), (.int f1), (.int f2), (.int (0 : Int32)), (.int (0 : Int32))] := A378
    refine W.iload (pc' := 118) X at_116 rfl rfl ?_
    refine W.iconst (pc' := 119) X (3 : Int32) at_118 (by decide) rfl ?_
    refine W.icF (pc' := 122) X at_119 (by decide) rfl ?_
    refine W.aload (pc' := 124) X at_122 rfl rfl rfl ?_
    refine W.iconst (pc' := 125) X (3 : Int32) at_124 (by decide) rfl ?_
    refine W.aload (pc' := 127) X at_125 rfl rfl rfl ?_
    refine W.iconst (pc' := 128) X (3 : Int32) at_127 (by decide) rfl ?_
    have F379 := (F375.keep K377 (ninS (Nat.ne_of_lt (Nat.lt_of_lt_of_le A7.lt (Nat.le_trans (Nat.le_trans (Nat.le_trans (Nat.le_trans (Nat.le_trans (Nat.le_trans K9.1 K12.1) K15.1) K18.1) K21.1) K24.1) g363))) nin0))
    refine W.caload (pc' := 129) (v := (.int f3)) X F379 (by decide) rfl at_128 rfl ?_
    refine W.castore (pc' := 130) (i := 3) X A378 (by decide) rfl (ltb rfl) (i2cx cf3) g364 nb365 at_129 rfl fun T h380 X K381 A382 => ?_
    have A382 : Ar Z h380 a361 .char [(.int f0), (.int f1), (.int f2), (.int f3), (.int (0 : Int32))] := A382
    refine W.iload (pc' := 132) X at_130 rfl rfl ?_
    refine W.iconst (pc' := 133) X (4 : Int32) at_132 (by decide) rfl ?_
    refine W.icF (pc' := 136) X at_133 (by decide) rfl ?_
    refine W.aload (pc' := 138) X at_136 rfl rfl rfl ?_
    refine W.iconst (pc' := 139) X (4 : Int32) at_138 (by decide) rfl ?_
    refine W.aload (pc' := 141) X at_139 rfl rfl rfl ?_
    refine W.iconst (pc' := 142) X (4 : Int32) at_141 (by decide) rfl ?_
    have F383 := (F379.keep K381 (ninS (Nat.ne_of_lt (Nat.lt_of_lt_of_le A7.lt (Nat.le_trans (Nat.le_trans (Nat.le_trans (Nat.le_trans (Nat.le_trans (Nat.le_trans K9.1 K12.1) K15.1) K18.1) K21.1) K24.1) g363))) nin0))
    refine W.caload (pc' := 143) (v := (.int f4)) X F383 (by decide) rfl at_142 rfl ?_
    refine W.castore (pc' := 144) (i := 4) X A382 (by decide) rfl (ltb rfl) (i2cx cf4) g364 nb365 at_143 rfl fun T h384 X K385 A386 => ?_
    have A386 : Ar Z h384 a361 .char [(.int f0), (.int f1), (.int f2), (.int f3), (.int f4)] := A386
    refine W.iload (pc' := 146) X at_144 rfl rfl ?_
    refine W.iconst (pc' := 147) X (5 : Int32) at_146 (by decide) rfl ?_
    refine W.icT (pc' := 158) X at_147 (by decide) (by decide) (by decide) ?_
    by_cases hLt : Lat [f0, f1, f2, f3, f4]
    · skip
      refine W.new (pc' := 161) (k' := 3) (n' := 15) X (w3 G) (w4 G) (w5 G) at_158 rfl (by decide) (by decide) (by decide) (by decide) fun T h387 a388 X K389 g390 g391 nb392 E393 D394 => ?_
      have F395 : Fld Z h387 a388 "java/lang/String" "value" "[B" .null := D394 (Or.inr (w18 G)) (ty := (.array .byte)) (by decide)
      have F396 : Fld Z h387 a388 "java/lang/String" "coder" "B" (.int (0 : Int32)) := D394 (Or.inr (w19 G)) (ty := .byte) (by decide)
      refine W.dup (pc' := 162) X at_161 rfl rfl ?_
      refine W.aload (pc' := 164) X at_162 rfl rfl rfl ?_
      have F397 := (A386.keep K389 nin0)
      have en398 := X.en
      refine W.callN (pc' := 167) (W := 1) (argsL := [(.ref a361)]) (st := [(.ref a388)]) (k' := 4) (n' := 21) (a := a388) X (c_init1 (x := a388) (a := a361) (cs := [f0, f1, f2, f3, f4]) (v0 := .null) (c0 := (.int (0 : Int32))) G X.en E393 F395 F396 F397 hLt (ltb rfl) (leb rfl) g391 nb392) rfl (w6 G) (w7 G) (w8 G) (w5 G) (by decide) (by decide) (by decide) rfl (lenOf pd29 rfl) rfl rfl (Nat.le_of_eq rfl) at_164 rfl (by decide) (by decide) (by decide) (by decide) (kv fun T h399 X z400 q401 => ?_)
      obtain ⟨a402, K403, g404, F405⟩ := q401
      have g406 : Z.heap.size ≤ a402 := Nat.le_trans (Nat.le_trans hz0 (Nat.le_trans (Nat.le_trans (Nat.le_trans (Nat.le_trans (Nat.le_trans (Nat.le_trans (Nat.le_trans (Nat.le_trans (Nat.le_trans (Nat.le_trans (Nat.le_trans (Nat.le_trans (Nat.le_trans K3.1 K9.1) K12.1) K15.1) K18.1) K21.1) K24.1) K362.1) K369.1) K373.1) K377.1) K381.1) K385.1) K389.1)) g404
      have nb407 : ¬ B a402 := fun q => absurd (en398.2 _ q) (Nat.not_lt.mpr g404)
      have F408 : Sx Z h399 a388 a402 ([f0, f1, f2, f3, f4]) := Or.inl F405
      refine W.callS (pc' := 170) (W := 0) (argsL := [(.ref a388)]) (st := []) (k' := 6) (n' := 29) X (c_dec (r := a388) (rb := a402) (cs := [f0, f1, f2, f3, f4]) G X.en F408 (leb rfl)) (w24 G) (w25 G) (w27 G) (w26 G) (by decide) (by decide) (by decide) rfl (lenOf pd26 rfl) rfl rfl (Nat.le_of_eq rfl) at_167 rfl (by decide) (by decide) (by decide) (by decide) (kri fun T h409 B412 xr X z410 zb413 q411 => ?_)
      obtain ⟨rfl, K414⟩ := q411
      refine W.istore (pc' := 172) (ls' := #[.val (.int p0), .val (.int p1), .val (.int p2), .val (.int p3), .val (.int (5 : Int32)), .val (.ref a2), .val (.ref a361), .val (.int (b2i (decC ([f0, f1, f2, f3, f4].map cl))))]) X at_170 rfl rfl ?_
      refine W.iload (pc' := 174) X at_172 rfl rfl ?_
      refine W.aload (pc' := 176) X at_174 rfl rfl rfl ?_
      refine W.iload (pc' := 178) X at_176 rfl rfl ?_
      have F415 := ((((F383.keep K385 (ninS (Nat.ne_of_lt (Nat.lt_of_lt_of_le A7.lt (Nat.le_trans (Nat.le_trans (Nat.le_trans (Nat.le_trans (Nat.le_trans (Nat.le_trans K9.1 K12.1) K15.1) K18.1) K21.1) K24.1) g363))) nin0)).keep K389 nin0).keep K403 (ninS (Nat.ne_of_lt (Nat.lt_of_lt_of_le A7.lt (Nat.le_trans (Nat.le_trans (Nat.le_trans (Nat.le_trans (Nat.le_trans (Nat.le_trans (Nat.le_trans (Nat.le_trans (Nat.le_trans (Nat.le_trans (Nat.le_trans (Nat.le_trans K9.1 K12.1) K15.1) K18.1) K21.1) K24.1) K362.1) K369.1) K373.1) K377.1) K381.1) K385.1) g390))) nin0)).keep K414 nin0)
      refine W.callS (pc' := 181) (W := 1) (argsL := [(.ref a2), (.int (5 : Int32))]) (st := [(.int (b2i (decC ([f0, f1, f2, f3, f4].map cl))))]) (k' := 6) (n' := 29) X (c_exp (a := a2) (fs := [f0, f1, f2, f3, f4, f5]) (n := 5) G X.en F415 rfl (by decide)) (w51 G) (w52 G) (w54 G) (w53 G) (by decide) (by decide) (by decide) rfl (lenOf pd30 rfl) rfl rfl (Nat.le_of_eq rfl) at_178 rfl (by decide) (by decide) (by decide) (by decide) (kp fun T X => ?_)
      refine W.icF (pc' := 184) X at_181 (XT.ii_ne_f (congrArg b2i (fin5 f0 f1 f2 f3 f4 f5))) rfl ?_
      refine W.iconst (pc' := 185) X (1 : Int32) at_184 (by decide) rfl ?_
      refine W.goto (pc' := 189) X at_185 (by decide) (by decide) ?_
      exact W.ireturn X at_189 rfl (by decide) (by decide) (by decide) (by decide) rfl
    · skip
      refine W.new (pc' := 161) (k' := 3) (n' := 15) X (w3 G) (w4 G) (w5 G) at_158 rfl (by decide) (by decide) (by decide) (by decide) fun T h416 a417 X K418 g419 g420 nb421 E422 D423 => ?_
      have F424 : Fld Z h416 a417 "java/lang/String" "value" "[B" .null := D423 (Or.inr (w18 G)) (ty := (.array .byte)) (by decide)
      have F425 : Fld Z h416 a417 "java/lang/String" "coder" "B" (.int (0 : Int32)) := D423 (Or.inr (w19 G)) (ty := .byte) (by decide)
      refine W.dup (pc' := 162) X at_161 rfl rfl ?_
      refine W.aload (pc' := 164) X at_162 rfl rfl rfl ?_
      have F426 := (A386.keep K418 nin0)
      have en427 := X.en
      refine W.callN (pc' := 167) (W := 1) (argsL := [(.ref a361)]) (st := [(.ref a417)]) (k' := 5) (n' := 33) (a := a417) X (c_init1u (x := a417) (a := a361) (cs := [f0, f1, f2, f3, f4]) (v0 := .null) (c0 := (.int (0 : Int32))) G X.en E422 F424 F425 F426 hLt (c16S cf0 (c16S cf1 (c16S cf2 (c16S cf3 (c16S cf4 c160))))) (ltb rfl) (leb rfl) g420 nb421) rfl (w6 G) (w7 G) (w8 G) (w5 G) (by decide) (by decide) (by decide) rfl (lenOf pd29 rfl) rfl rfl (Nat.le_of_eq rfl) at_164 rfl (by decide) (by decide) (by decide) (by decide) (kv fun T h428 X z429 q430 => ?_)
      obtain ⟨a431, K432, g433, F434⟩ := q430
      have g435 : Z.heap.size ≤ a431 := Nat.le_trans (Nat.le_trans hz0 (Nat.le_trans (Nat.le_trans (Nat.le_trans (Nat.le_trans (Nat.le_trans (Nat.le_trans (Nat.le_trans (Nat.le_trans (Nat.le_trans (Nat.le_trans (Nat.le_trans (Nat.le_trans (Nat.le_trans K3.1 K9.1) K12.1) K15.1) K18.1) K21.1) K24.1) K362.1) K369.1) K373.1) K377.1) K381.1) K385.1) K418.1)) g433
      have nb436 : ¬ B a431 := fun q => absurd (en427.2 _ q) (Nat.not_lt.mpr g433)
      have F437 : Sx Z h428 a417 a431 ([f0, f1, f2, f3, f4]) := Or.inr F434
      refine W.callS (pc' := 170) (W := 0) (argsL := [(.ref a417)]) (st := []) (k' := 7) (n' := 41) X (c_dec (r := a417) (rb := a431) (cs := [f0, f1, f2, f3, f4]) G X.en F437 (leb rfl)) (w24 G) (w25 G) (w27 G) (w26 G) (by decide) (by decide) (by decide) rfl (lenOf pd26 rfl) rfl rfl (Nat.le_of_eq rfl) at_167 rfl (by decide) (by decide) (by decide) (by decide) (kri fun T h438 B441 xr X z439 zb442 q440 => ?_)
      obtain ⟨rfl, K443⟩ := q440
      refine W.istore (pc' := 172) (ls' := #[.val (.int p0), .val (.int p1), .val (.int p2), .val (.int p3), .val (.int (5 : Int32)), .val (.ref a2), .val (.ref a361), .val (.int (b2i (decC ([f0, f1, f2, f3, f4].map cl))))]) X at_170 rfl rfl ?_
      refine W.iload (pc' := 174) X at_172 rfl rfl ?_
      refine W.aload (pc' := 176) X at_174 rfl rfl rfl ?_
      refine W.iload (pc' := 178) X at_176 rfl rfl ?_
      have F444 := ((((F383.keep K385 (ninS (Nat.ne_of_lt (Nat.lt_of_lt_of_le A7.lt (Nat.le_trans (Nat.le_trans (Nat.le_trans (Nat.le_trans (Nat.le_trans (Nat.le_trans K9.1 K12.1) K15.1) K18.1) K21.1) K24.1) g363))) nin0)).keep K418 nin0).keep K432 (ninS (Nat.ne_of_lt (Nat.lt_of_lt_of_le A7.lt (Nat.le_trans (Nat.le_trans (Nat.le_trans (Nat.le_trans (Nat.le_trans (Nat.le_trans (Nat.le_trans (Nat.le_trans (Nat.le_trans (Nat.le_trans (Nat.le_trans (Nat.le_trans K9.1 K12.1) K15.1) K18.1) K21.1) K24.1) K362.1) K369.1) K373.1) K377.1) K381.1) K385.1) g419))) nin0)).keep K443 nin0)
      refine W.callS (pc' := 181) (W := 1) (argsL := [(.ref a2), (.int (5 : Int32))]) (st := [(.int (b2i (decC ([f0, f1, f2, f3, f4].map cl))))]) (k' := 7) (n' := 41) X (c_exp (a := a2) (fs := [f0, f1, f2, f3, f4, f5]) (n := 5) G X.en F444 rfl (by decide)) (w51 G) (w52 G) (w54 G) (w53 G) (by decide) (by decide) (by decide) rfl (lenOf pd30 rfl) rfl rfl (Nat.le_of_eq rfl) at_178 rfl (by decide) (by decide) (by decide) (by decide) (kp fun T X => ?_)
      refine W.icF (pc' := 184) X at_181 (XT.ii_ne_f (congrArg b2i (fin5 f0 f1 f2 f3 f4 f5))) rfl ?_
      refine W.iconst (pc' := 185) X (1 : Int32) at_184 (by decide) rfl ?_
      refine W.goto (pc' := 189) X at_185 (by decide) (by decide) ?_
      exact W.ireturn X at_189 rfl (by decide) (by decide) (by decide) (by decide) rfl
  · skip
    refine W.iload (pc' := 71) X at_69 rfl rfl ?_
    refine W.newA (aty := .char) (pc' := 73) (k' := 2) (n' := 12) (cap := 6) X (w1 G) at_71 (by decide) (by decide) (by decide) rfl (by decide) (by decide) (by decide) (by decide) fun T h445 a446 X K447 g448 g449 nb450 A451 => ?_
    have A451 : Ar Z h445 a446 .char [(.int (0 : Int32)), (.int (0 : Int32)), (.int (0 : Int32)), (.int (0 : Int32)), (.int (0 : Int32)), (.int (0 : Int32))] := A451
    refine W.astore (pc' := 75) (ls' := #[.val (.int p0), .val (.int p1), .val (.int p2), .val (.int p3), .val (.int (6 : Int32)), .val (.ref a2), .val (.ref a446), .unset]) X at_73 rfl rfl rfl ?_
    refine W.iload (pc' := 77) X at_75 rfl rfl ?_
    refine W.ifF (pc' := 80) X at_77 (by decide) rfl ?_
    refine W.aload (pc' := 82) X at_80 rfl rfl rfl ?_
    refine W.iconst (pc' := 83) X (0 : Int32) at_82 (by decide) rfl ?_
    refine W.aload (pc' := 85) X at_83 rfl rfl rfl ?_
    refine W.iconst (pc' := 86) X (0 : Int32) at_85 (by decide) rfl ?_
    have F452 := (A25.keep K447 nin0)
    refine W.caload (pc' := 87) (v := (.int f0)) X F452 (by decide) rfl at_86 rfl ?_
    refine W.castore (pc' := 88) (i := 0) X A451 (by decide) rfl (ltb rfl) (i2cx cf0) g449 nb450 at_87 rfl fun T h453 X K454 A455 => ?_
    have A455 : Ar Z h453 a446 .char [(.int f0), (.int (0 : Int32)), (.int (0 : Int32)), (.int (0 : Int32)), (.int (0 : Int32)), (.int (0 : Int32))] := A455
    refine W.iload (pc' := 90) X at_88 rfl rfl ?_
    refine W.iconst (pc' := 91) X (1 : Int32) at_90 (by decide) rfl ?_
    refine W.icF (pc' := 94) X at_91 (by decide) rfl ?_
    refine W.aload (pc' := 96) X at_94 rfl rfl rfl ?_
    refine W.iconst (pc' := 97) X (1 : Int32) at_96 (by decide) rfl ?_
    refine W.aload (pc' := 99) X at_97 rfl rfl rfl ?_
    refine W.iconst (pc' := 100) X (1 : Int32) at_99 (by decide) rfl ?_
    have F456 := (F452.keep K454 (ninS (Nat.ne_of_lt (Nat.lt_of_lt_of_le A7.lt (Nat.le_trans (Nat.le_trans (Nat.le_trans (Nat.le_trans (Nat.le_trans (Nat.le_trans K9.1 K12.1) K15.1) K18.1) K21.1) K24.1) g448))) nin0))
    refine W.caload (pc' := 101) (v := (.int f1)) X F456 (by decide) rfl at_100 rfl ?_
    refine W.castore (pc' := 102) (i := 1) X A455 (by decide) rfl (ltb rfl) (i2cx cf1) g449 nb450 at_101 rfl fun T h457 X K458 A459 => ?_
    have A459 : Ar Z h457 a446 .char [(.int f0), (.int f1), (.int (0 : Int32)), (.int (0 : Int32)), (.int (0 : Int32)), (.int (0 : Int32))] := A459
    refine W.iload (pc' := 104) X at_102 rfl rfl ?_
    refine W.iconst (pc' := 105) X (2 : Int32) at_104 (by decide) rfl ?_
    refine W.icF (pc' := 108) X at_105 (by decide) rfl ?_
    refine W.aload (pc' := 110) X at_108 rfl rfl rfl ?_
    refine W.iconst (pc' := 111) X (2 : Int32) at_110 (by decide) rfl ?_
    refine W.aload (pc' := 113) X at_111 rfl rfl rfl ?_
    refine W.iconst (pc' := 114) X (2 : Int32) at_113 (by decide) rfl ?_
    have F460 := (F456.keep K458 (ninS (Nat.ne_of_lt (Nat.lt_of_lt_of_le A7.lt (Nat.le_trans (Nat.le_trans (Nat.le_trans (Nat.le_trans (Nat.le_trans (Nat.le_trans K9.1 K12.1) K15.1) K18.1) K21.1) K24.1) g448))) nin0))
    refine W.caload (pc' := 115) (v := (.int f2)) X F460 (by decide) rfl at_114 rfl ?_
    refine W.castore (pc' := 116) (i := 2) X A459 (by decide) rfl (ltb rfl) (i2cx cf2) g449 nb450 at_115 rfl fun T h461 X K462 A463 => ?_
    have A463 : Ar Z h461 a446 .char [(.int f0), (.int f1), (.int f2), (.int (0 : Int32)), (.int (0 : Int32)), (.int (0 : Int32))] := A463
    refine W.iload (pc' := 118) X at_116 rfl rfl ?_
    refine W.iconst (pc' := 119) X (3 : Int32) at_118 (by decide) rfl ?_
    refine W.icF (pc' := 122) X at_119 (by decide) rfl ?_
    refine W.aload (pc' := 124) X at_122 rfl rfl rfl ?_
    refine W.iconst (pc' := 125) X (3 : Int32) at_124 (by decide) rfl ?_
    refine W.aload (pc' := 127) X at_125 rfl rfl rfl ?_
    refine W.iconst (pc' := 128) X (3 : Int32) at_127 (by decide) rfl ?_
    have F464 := (F460.keep K462 (ninS (Nat.ne_of_lt (Nat.lt_of_lt_of_le A7.lt (Nat.le_trans (Nat.le_trans (Nat.le_trans (Nat.le_trans (Nat.le_trans (Nat.le_trans K9.1 K12.1) K15.1) K18.1) K21.1) K24.1) g448))) nin0))
    refine W.caload (pc' := 129) (v := (.int f3)) X F464 (by decide) rfl at_128 rfl ?_
    refine W.castore (pc' := 130) (i := 3) X A463 (by decide) rfl (ltb rfl) (i2cx cf3) g449 nb450 at_129 rfl fun T h465 X K466 A467 => ?_
    have A467 : Ar Z h465 a446 .char [(.int f0), (.int f1), (.int f2), (.int f3), (.int (0 : Int32)), (.int (0 : Int32))] := A467
    refine W.iload (pc' := 132) X at_130 rfl rfl ?_
    refine W.iconst (pc' := 133) X (4 : Int32) at_132 (by decide) rfl ?_
    refine W.icF (pc' := 136) X at_133 (by decide) rfl ?_
    refine W.aload (pc' := 138) X at_136 rfl rfl rfl ?_
    refine W.iconst (pc' := 139) X (4 : Int32) at_138 (by decide) rfl ?_
    refine W.aload (pc' := 141) X at_139 rfl rfl rfl ?_
    refine W.iconst (pc' := 142) X (4 : Int32) at_141 (by decide) rfl ?_
    have F468 := (F464.keep K466 (ninS (Nat.ne_of_lt (Nat.lt_of_lt_of_le A7.lt (Nat.le_trans (Nat.le_trans (Nat.le_trans (Nat.le_trans (Nat.le_trans (Nat.le_trans K9.1 K12.1) K15.1) K18.1) K21.1) K24.1) g448))) nin0))
    refine W.caload (pc' := 143) (v := (.int f4)) X F468 (by decide) rfl at_142 rfl ?_
    refine W.castore (pc' := 144) (i := 4) X A467 (by decide) rfl (ltb rfl) (i2cx cf4) g449 nb450 at_143 rfl fun T h469 X K470 A471 => ?_
    have A471 : Ar Z h469 a446 .char [(.int f0), (.int f1), (.int f2), (.int f3), (.int f4), (.int (0 : Int32))] := A471
    refine W.iload (pc' := 146) X at_144 rfl rfl ?_
    refine W.iconst (pc' := 147) X (5 : Int32) at_146 (by decide) rfl ?_
    refine W.icF (pc' := 150) X at_147 (by decide) rfl ?_
    refine W.aload (pc' := 152) X at_150 rfl rfl rfl ?_
    refine W.iconst (pc' := 153) X (5 : Int32) at_152 (by decide) rfl ?_
    refine W.aload (pc' := 155) X at_153 rfl rfl rfl ?_
    refine W.iconst (pc' := 156) X (5 : Int32) at_155 (by decide) rfl ?_
    have F472 := (F468.keep K470 (ninS (Nat.ne_of_lt (Nat.lt_of_lt_of_le A7.lt (Nat.le_trans (Nat.le_trans (Nat.le_trans (Nat.le_trans (Nat.le_trans (Nat.le_trans K9.1 K12.1) K15.1) K18.1) K21.1) K24.1) g448))) nin0))
    refine W.caload (pc' := 157) (v := (.int f5)) X F472 (by decide) rfl at_156 rfl ?_
    refine W.castore (pc' := 158) (i := 5) X A471 (by decide) rfl (ltb rfl) (i2cx cf5) g449 nb450 at_157 rfl fun T h473 X K474 A475 => ?_
    have A475 : Ar Z h473 a446 .char [(.int f0), (.int f1), (.int f2), (.int f3), (.int f4), (.int f5)] := A475
    by_cases hLt : Lat [f0, f1, f2, f3, f4, f5]
    · skip
      refine W.new (pc' := 161) (k' := 3) (n' := 16) X (w3 G) (w4 G) (w5 G) at_158 rfl (by decide) (by decide) (by decide) (by decide) fun T h476 a477 X K478 g479 g480 nb481 E482 D483 => ?_
      have F484 : Fld Z h476 a477 "java/lang/String" "value" "[B" .null := D483 (Or.inr (w18 G)) (ty := (.array .byte)) (by decide)
      have F485 : Fld Z h476 a477 "java/lang/String" "coder" "B" (.int (0 : Int32)) := D483 (Or.inr (w19 G)) (ty := .byte) (by decide)
      refine W.dup (pc' := 162) X at_161 rfl rfl ?_
      refine W.aload (pc' := 164) X at_162 rfl rfl rfl ?_
      have F486 := (A475.keep K478 nin0)
      have en487 := X.en
      refine W.callN (pc' := 167) (W := 1) (argsL := [(.ref a446)]) (st := [(.ref a477)]) (k' := 4) (n' := 22) (a := a477) X (c_init1 (x := a477) (a := a446) (cs := [f0, f1, f2, f3, f4, f5]) (v0 := .null) (c0 := (.int (0 : Int32))) G X.en E482 F484 F485 F486 hLt (ltb rfl) (leb rfl) g480 nb481) rfl (w6 G) (w7 G) (w8 G) (w5 G) (by decide) (by decide) (by decide) rfl (lenOf pd29 rfl) rfl rfl (Nat.le_of_eq rfl) at_164 rfl (by decide) (by decide) (by decide) (by decide) (kv fun T h488 X z489 q490 => ?_)
      obtain ⟨a491, K492, g493, F494⟩ := q490
      have g495 : Z.heap.size ≤ a491 := Nat.le_trans (Nat.le_trans hz0 (Nat.le_trans (Nat.le_trans (Nat.le_trans (Nat.le_trans (Nat.le_trans (Nat.le_trans (Nat.le_trans (Nat.le_trans (Nat.le_trans (Nat.le_trans (Nat.le_trans (Nat.le_trans (Nat.le_trans (Nat.le_trans K3.1 K9.1) K12.1) K15.1) K18.1) K21.1) K24.1) K447.1) K454.1) K458.1) K462.1) K466.1) K470.1) K474.1) K478.1)) g493
      have nb496 : ¬ B a491 := fun q => absurd (en487.2 _ q) (Nat.not_lt.mpr g493)
      have F497 : Sx Z h488 a477 a491 ([f0, f1, f2, f3, f4, f5]) := Or.inl F494
      refine W.callS (pc' := 170) (W := 0) (argsL := [(.ref a477)]) (st := []) (k' := 6) (n' := 30) X (c_dec (r := a477) (rb := a491) (cs := [f0, f1, f2, f3, f4, f5]) G X.en F497 (leb rfl)) (w24 G) (w25 G) (w27 G) (w26 G) (by decide) (by decide) (by decide) rfl (lenOf pd26 rfl) rfl rfl (Nat.le_of_eq rfl) at_167 rfl (by decide) (by decide) (by decide) (by decide) (kri fun T h498 B501 xr X z499 zb502 q500 => ?_)
      obtain ⟨rfl, K503⟩ := q500
      refine W.istore (pc' := 172) (ls' := #[.val (.int p0), .val (.int p1), .val (.int p2), .val (.int p3), .val (.int (6 : Int32)), .val (.ref a2), .val (.ref a446), .val (.int (b2i (decC ([f0, f1, f2, f3, f4, f5].map cl))))]) X at_170 rfl rfl ?_
      refine W.iload (pc' := 174) X at_172 rfl rfl ?_
      refine W.aload (pc' := 176) X at_174 rfl rfl rfl ?_
      refine W.iload (pc' := 178) X at_176 rfl rfl ?_
      have F504 := ((((F472.keep K474 (ninS (Nat.ne_of_lt (Nat.lt_of_lt_of_le A7.lt (Nat.le_trans (Nat.le_trans (Nat.le_trans (Nat.le_trans (Nat.le_trans (Nat.le_trans K9.1 K12.1) K15.1) K18.1) K21.1) K24.1) g448))) nin0)).keep K478 nin0).keep K492 (ninS (Nat.ne_of_lt (Nat.lt_of_lt_of_le A7.lt (Nat.le_trans (Nat.le_trans (Nat.le_trans (Nat.le_trans (Nat.le_trans (Nat.le_trans (Nat.le_trans (Nat.le_trans (Nat.le_trans (Nat.le_trans (Nat.le_trans (Nat.le_trans (Nat.le_trans K9.1 K12.1) K15.1) K18.1) K21.1) K24.1) K447.1) K454.1) K458.1) K462.1) K466.1) K470.1) K474.1) g479))) nin0)).keep K503 nin0)
      refine W.callS (pc' := 181) (W := 1) (argsL := [(.ref a2), (.int (6 : Int32))]) (st := [(.int (b2i (decC ([f0, f1, f2, f3, f4, f5].map cl))))]) (k' := 6) (n' := 30) X (c_exp (a := a2) (fs := [f0, f1, f2, f3, f4, f5]) (n := 6) G X.en F504 rfl (by decide)) (w51 G) (w52 G) (w54 G) (w53 G) (by decide) (by decide) (by decide) rfl (lenOf pd30 rfl) rfl rfl (Nat.le_of_eq rfl) at_178 rfl (by decide) (by decide) (by decide) (by decide) (kp fun T X => ?_)
      refine W.icF (pc' := 184) X at_181 (XT.ii_ne_f (congrArg b2i (fin6 f0 f1 f2 f3 f4 f5))) rfl ?_
      refine W.iconst (pc' := 185) X (1 : Int32) at_184 (by decide) rfl ?_
      refine W.goto (pc' := 189) X at_185 (by decide) (by decide) ?_
      exact W.ireturn X at_189 rfl (by decide) (by decide) (by decide) (by decide) rfl
    · skip
      refine W.new (pc' := 161) (k' := 3) (n' := 16) X (w3 G) (w4 G) (w5 G) at_158 rfl (by decide) (by decide) (by decide) (by decide) fun T h505 a506 X K507 g508 g509 nb510 E511 D512 => ?_
      have F513 : Fld Z h505 a506 "java/lang/String" "value" "[B" .null := D512 (Or.inr (w18 G)) (ty := (.array .byte)) (by decide)
      have F514 : Fld Z h505 a506 "java/lang/String" "coder" "B" (.int (0 : Int32)) := D512 (Or.inr (w19 G)) (ty := .byte) (by decide)
      refine W.dup (pc' := 162) X at_161 rfl rfl ?_
      refine W.aload (pc' := 164) X at_162 rfl rfl rfl ?_
      have F515 := (A475.keep K507 nin0)
      have en516 := X.en
      refine W.callN (pc' := 167) (W := 1) (argsL := [(.ref a446)]) (st := [(.ref a506)]) (k' := 5) (n' := 34) (a := a506) X (c_init1u (x := a506) (a := a446) (cs := [f0, f1, f2, f3, f4, f5]) (v0 := .null) (c0 := (.int (0 : Int32))) G X.en E511 F513 F514 F515 hLt (c16S cf0 (c16S cf1 (c16S cf2 (c16S cf3 (c16S cf4 (c16S cf5 c160)))))) (ltb rfl) (leb rfl) g509 nb510) rfl (w6 G) (w7 G) (w8 G) (w5 G) (by decide) (by decide) (by decide) rfl (lenOf pd29 rfl) rfl rfl (Nat.le_of_eq rfl) at_164 rfl (by decide) (by decide) (by decide) (by decide) (kv fun T h517 X z518 q519 => ?_)
      obtain ⟨a520, K521, g522, F523⟩ := q519
      have g524 : Z.heap.size ≤ a520 := Nat.le_trans (Nat.le_trans hz0 (Nat.le_trans (Nat.le_trans (Nat.le_trans (Nat.le_trans (Nat.le_trans (Nat.le_trans (Nat.le_trans (Nat.le_trans (Nat.le_trans (Nat.le_trans (Nat.le_trans (Nat.le_trans (Nat.le_trans (Nat.le_trans K3.1 K9.1) K12.1) K15.1) K18.1) K21.1) K24.1) K447.1) K454.1) K458.1) K462.1) K466.1) K470.1) K474.1) K507.1)) g522
      have nb525 : ¬ B a520 := fun q => absurd (en516.2 _ q) (Nat.not_lt.mpr g522)
      have F526 : Sx Z h517 a506 a520 ([f0, f1, f2, f3, f4, f5]) := Or.inr F523
      refine W.callS (pc' := 170) (W := 0) (argsL := [(.ref a506)]) (st := []) (k' := 7) (n' := 42) X (c_dec (r := a506) (rb := a520) (cs := [f0, f1, f2, f3, f4, f5]) G X.en F526 (leb rfl)) (w24 G) (w25 G) (w27 G) (w26 G) (by decide) (by decide) (by decide) rfl (lenOf pd26 rfl) rfl rfl (Nat.le_of_eq rfl) at_167 rfl (by decide) (by decide) (by decide) (by decide) (kri fun T h527 B530 xr X z528 zb531 q529 => ?_)
      obtain ⟨rfl, K532⟩ := q529
      refine W.istore (pc' := 172) (ls' := #[.val (.int p0), .val (.int p1), .val (.int p2), .val (.int p3), .val (.int (6 : Int32)), .val (.ref a2), .val (.ref a446), .val (.int (b2i (decC ([f0, f1, f2, f3, f4, f5].map cl))))]) X at_170 rfl rfl ?_
      refine W.iload (pc' := 174) X at_172 rfl rfl ?_
      refine W.aload (pc' := 176) X at_174 rfl rfl rfl ?_
      refine W.iload (pc' := 178) X at_176 rfl rfl ?_
      have F533 := ((((F472.keep K474 (ninS (Nat.ne_of_lt (Nat.lt_of_lt_of_le A7.lt (Nat.le_trans (Nat.le_trans (Nat.le_trans (Nat.le_trans (Nat.le_trans (Nat.le_trans K9.1 K12.1) K15.1) K18.1) K21.1) K24.1) g448))) nin0)).keep K507 nin0).keep K521 (ninS (Nat.ne_of_lt (Nat.lt_of_lt_of_le A7.lt (Nat.le_trans (Nat.le_trans (Nat.le_trans (Nat.le_trans (Nat.le_trans (Nat.le_trans (Nat.le_trans (Nat.le_trans (Nat.le_trans (Nat.le_trans (Nat.le_trans (Nat.le_trans (Nat.le_trans K9.1 K12.1) K15.1) K18.1) K21.1) K24.1) K447.1) K454.1) K458.1) K462.1) K466.1) K470.1) K474.1) g508))) nin0)).keep K532 nin0)
      refine W.callS (pc' := 181) (W := 1) (argsL := [(.ref a2), (.int (6 : Int32))]) (st := [(.int (b2i (decC ([f0, f1, f2, f3, f4, f5].map cl))))]) (k' := 7) (n' := 42) X (c_exp (a := a2) (fs := [f0, f1, f2, f3, f4, f5]) (n := 6) G X.en F533 rfl (by decide)) (w51 G) (w52 G) (w54 G) (w53 G) (by decide) (by decide) (by decide) rfl (lenOf pd30 rfl) rfl rfl (Nat.le_of_eq rfl) at_178 rfl (by decide) (by decide) (by decide) (by decide) (kp fun T X => ?_)
      refine W.icF (pc' := 184) X at_181 (XT.ii_ne_f (congrArg b2i (fin6 f0 f1 f2 f3 f4 f5))) rfl ?_
      refine W.iconst (pc' := 185) X (1 : Int32) at_184 (by decide) rfl ?_
      refine W.goto (pc' := 189) X at_185 (by decide) (by decide) ?_
      exact W.ireturn X at_189 rfl (by decide) (by decide) (by decide) (by decide) rfl
set_option maxRecDepth 65536 in
set_option maxHeartbeats 40000000 in
theorem comes_1 {Post : Tables → Env → Array Value → State → Outcome → State → Prop} (hpost : ∀ tb e args s v u, (limb_1_1.after args s (.returned v) u = true ∧ limb_1_2.after args s (.returned v) u = true ∧ True) → ReturnedEndW s (.returned v) u (Jvm.fieldLocs frame_1_writes args s ++ Jvm.arrayLocs frame_1_arrays args s ++ Jvm.staticLocs frame_1_statics s) 24 2240 → Post tb e args s (.returned v) u) :
    ArmFor flags0 classFile x code maxLocals ret World_1 tables_1 room_1 Calls_1 rest_1 Pre_1 Post := by
  intro l hfl _ _ p e ha hc hk s m args below hf hA hF happ hP
  obtain ⟨hcalls, hrest, hpre⟩ := hP
  obtain ⟨-, -, -, hnamed, -, -, -, hat⟩ := (Spec.applies_iff hf).mp happ
  obtain ⟨hg, hn⟩ := and_e (Cond.before_iff.mp (show (Jvm.Cond.and given_1 narrow_1).before args s = true from hpre))
  obtain ⟨h1, h2⟩ := and_e hg
  obtain ⟨w0, w1, w2, w3, rfl⟩ : ∃ w0 w1 w2 w3 : Value, args = #[w0, w1, w2, w3] := by
    have hs : args.size = 4 := by simpa [Cond.value, given_1] using h1
    obtain ⟨L⟩ := args
    match L, hs with
    | [w0, w1, w2, w3], _ => exact ⟨w0, w1, w2, w3, rfl⟩
  obtain ⟨k0, r0⟩ := and_e h2
  obtain ⟨i0, e0⟩ := is_v k0
  obtain rfl : w0 = (.int i0) := Option.some.inj e0
  obtain ⟨k1, r1⟩ := and_e r0
  obtain ⟨i1, e1⟩ := is_v k1
  obtain rfl : w1 = (.int i1) := Option.some.inj e1
  obtain ⟨k2, r2⟩ := and_e r1
  obtain ⟨i2, e2⟩ := is_v k2
  obtain rfl : w2 = (.int i2) := Option.some.inj e2
  obtain ⟨i3, e3⟩ := is_v r2
  obtain rfl : w3 = (.int i3) := Option.some.inj e3
  have hw := fun d (hd : d ∈ tables_1) => atoms_spec (ws := Jvm.Cond.code x code maxLocals ret :: tables_1) hat d (List.mem_cons_of_mem _ hd)
  obtain ⟨hsets, hown0⟩ := atoms_of _ (rest_1_c_eq ▸ (show rest_1_c.before _ s = true from hrest))
  obtain ⟨zC, v1⟩ := is_v (Cond.before_iff.mp (hsets _ (List.mem_of_getElem? (i := 1) rfl)))
  have c1 : ¬ (zC = (0 : Int32)) := gotF (Cond.eq_ints v1 (Term.int_eval (0))) (not_v (Cond.before_iff.mp (hsets _ (List.mem_of_getElem? (i := 2) rfl))))
  have S1 := Sta.start v1 (Or.inl (hsets _ (List.mem_of_getElem? (i := 0) rfl)))
  obtain ⟨fS, v2, c2⟩ := isR_v (Cond.before_iff.mp (hsets _ (List.mem_of_getElem? (i := 8) rfl)))
  have S2 := Sta.start v2 (Or.inl (hsets _ (List.mem_of_getElem? (i := 7) rfl)))
  have S3 := Sta.start (eqv_i (Term.int_eval (1)) (Cond.before_iff.mp (hsets _ (List.mem_of_getElem? (i := 12) rfl)))) (Or.inl (hsets _ (List.mem_of_getElem? (i := 11) rfl)))
  have S4 := Sta.start (eqv_i (Term.int_eval (0)) (Cond.before_iff.mp (hsets _ (List.mem_of_getElem? (i := 15) rfl)))) (Or.inl (hsets _ (List.mem_of_getElem? (i := 14) rfl)))
  have S5 := Sta.start (eqv_i (Term.int_eval (8)) (Cond.before_iff.mp (hsets _ (List.mem_of_getElem? (i := 18) rfl)))) (Or.inl (hsets _ (List.mem_of_getElem? (i := 17) rfl)))
  have hew : EW s #[(.int i0), (.int i1), (.int i2), (.int i3)] consts_1 := (EW.cons (hw _ (List.mem_of_getElem? (i := 28) rfl)) (by decide) (EW.cons (hw _ (List.mem_of_getElem? (i := 16) rfl)) (by decide) EW.nil))
  have G : Gl s #[(.int i0), (.int i1), (.int i2), (.int i3)] zC fS := ⟨hw, hew, S1, c1, S2, c2, S3, S4, S5, trivial⟩
  have hch : CHv s consts_1 s.vm s.heap := CHv.start hew (fun p hp => hcalls.1 p hp) (hsets _ (List.mem_of_getElem? (i := 2) rfl)) (hw _ (List.mem_of_getElem? (i := 17) rfl)) (hw _ (List.mem_of_getElem? (i := 4) rfl))
  obtain ⟨n, o, h1, h2, h3, v, L, B', rfl, N, -, -, -, -, -, rfl, hq⟩ := c_law (l := l) (B := fun x => Bk s consts_1 s.vm s.heap x) G ⟨⟨Nat.le_refl _, fun _ _ q => q⟩, fun x r => by obtain ⟨cell, q⟩ := r.there; exact (Array.getElem?_eq_some_iff.mp q).1⟩ p e ha hc hk s m _ below hf ((Spec.applies_iff_loose hf).mp happ).1 ⟨rfl, State.Warmed39.refl s, rfl, hch, fun x r => r⟩ trivial
  refine ⟨n, _, h1, h2, h3, hpost _ _ _ _ _ _ ⟨Cond.after_iff.mpr rfl, Cond.after_iff.mpr (eq_i res_at (Term.int_eval (1)) rfl), trivial⟩ ⟨hq.1, hq.2.1, hq.2.2.1, (hq.2.2.2.sift fun y hy => Or.inr (N y hy)).mono (by decide) (by decide)⟩⟩
theorem main_1_1 : Claimed_1_1 := comes_1 fun _ _ _ _ _ _ h hF => ⟨h.1, hF⟩
theorem main_1_2 : Claimed_1_2 := comes_1 fun _ _ _ _ _ _ h hF => ⟨h.2.1, hF⟩
end Jvm.Pilot.@@N@@
namespace Jvm.Pilot.@@N@@
open Jvm Jvm.ClassFile Sem Op Lib Jvm.Free Jvm.Stand Jvm.Pilot.@@N@@.Jvm.D
/-! MADE BY PROGRAM (witnessworld.py) out of the Statement's table words and the real class files: 20 classes; the members and pool entries that the words name. The judged class is class 1, her method 1. -/
namespace start1
open Jvm.ClassFile
def u (s : String) : CpInfo := .utf8 (stringToUtf16 s)
/-- a pool by its gaps: so many unusable entries, then the entry; so many at the end -/
def gap : Nat → List CpInfo → List CpInfo
  | 0, r => r
  | n + 1, r => .unusable :: gap n r
def poolList (es : List (Nat × CpInfo)) (last : Nat) : List CpInfo := es.foldr (fun e r => gap e.1 (e.2 :: r)) (gap last [])
def pool (es : List (Nat × CpInfo)) (last : Nat) : Array CpInfo := ⟨poolList es last⟩
def fileOf (pool : Array CpInfo) (this : Nat) (attrs : Array Attribute := #[]) (ms : Array MethodInfo := #[]) (fl : Nat := 33) (sup : Nat := 0) (ifs : Array Nat := #[]) (fds : Array FieldInfo := #[]) : ClassFile where
  minorVersion := 0
  majorVersion := 65
  constantPool := pool
  accessFlags := fl
  thisClass := this
  superClass := sup
  interfaces := ifs
  fields := fds
  methods := ms
  attributes := attrs
def plain (name : String) (sup : Option ClassId) : Class where
  name := name
  kind := .ordinary
  loader := none
  accessFlags := 33
  super := sup
  interfaces := #[]
  cf := none
  fields := #[]
  methods := #[]
  instanceTypes := #[]
  staticTypes := #[]
  resolved := #[]
  callSites := []
  init := .initialized
  statics := none
  mirror := none

def pool0 : Array CpInfo := pool [(5, u "<init>"), (0, u "()V"), (1, .class_ 10), (1, u "java/lang/Object")] 113

def k0c0 : Code := { maxStack := 0, maxLocals := 1, code := object_method_1_code, exceptionTable := #[], attributes := #[] }
def k0m0 : Method := { name := "<init>", desc := "()V", sig := { parameters := [], returnType := none }, accessFlags := 1, code := some k0c0 }
/-- java/lang/Object -/
def k0 : Class := { plain "java/lang/Object" none with
  accessFlags := 33
  interfaces := #[]
  cf := some (fileOf pool0 8 #[] #[{ accessFlags := 1, nameIndex := 5, descriptorIndex := 6, attributes := #[] }] 33 0 #[] #[])
  fields := #[]
  methods := #[k0m0]
  instanceTypes := #[]
  staticTypes := #[]
  resolved := Array.replicate 124 none
  statics := none }

def pool1 : Array CpInfo := pool [(2, .class_ 4), (1, u "java/lang/Object"), (0, u "<init>"), (0, u "()V"), (0, .integer 2147483647), (0, .integer 65535), (0, .class_ 10), (0, u "java/lang/String"), (0, .methodref 9 12), (0, .nameAndType 5 13), (0, u "([C)V"), (0, .methodref 15 16), (0, .class_ 17), (0, .nameAndType 18 19), (0, u "com/example/compendio/compendio/io/TermFile"), (0, u "isDecimal"), (0, u "(Ljava/lang/String;)Z"), (0, .methodref 21 22), (0, .class_ 23), (0, .nameAndType 24 25), (0, u "com/example/compendio/compendio/io/TermFileIsDecimalPinLaw"), (0, u "expected"), (0, u "([CI)Z"), (0, .methodref 21 27), (0, .nameAndType 28 29), (0, u "isD"), (0, u "(C)Z"), (0, .methodref 21 31), (0, .nameAndType 32 33), (0, u "allowed"), (0, u "([CIII)Z"), (0, .methodref 21 35), (0, .nameAndType 36 37), (0, u "pt"), (0, u "([CIII)I"), (2, u "law"), (0, u "(IIII)Z")] 5

def k1m0 : Method := { name := "<init>", desc := "()V", sig := { parameters := [], returnType := none }, accessFlags := 1, code := none }
def k1c1 : Code := { maxStack := 4, maxLocals := 8, code := code, exceptionTable := #[], attributes := #[] }
def k1m1 : Method := { name := "law", desc := "(IIII)Z", sig := { parameters := [.int, .int, .int, .int], returnType := some .boolean }, accessFlags := 9, code := some k1c1 }
def k1c2 : Code := { maxStack := 2, maxLocals := 1, code := method_3_code, exceptionTable := #[], attributes := #[] }
def k1m2 : Method := { name := "isD", desc := "(C)Z", sig := { parameters := [.char], returnType := some .boolean }, accessFlags := 10, code := some k1c2 }
def k1c3 : Code := { maxStack := 2, maxLocals := 4, code := method_4_code, exceptionTable := #[], attributes := #[] }
def k1m3 : Method := { name := "allowed", desc := "([CIII)Z", sig := { parameters := [(.array .char), .int, .int, .int], returnType := some .boolean }, accessFlags := 10, code := some k1c3 }
def k1c4 : Code := { maxStack := 2, maxLocals := 4, code := method_5_code, exceptionTable := #[], attributes := #[] }
def k1m4 : Method := { name := "pt", desc := "([CIII)I", sig := { parameters := [(.array .char), .int, .int, .int], returnType := some .int }, accessFlags := 10, code := some k1c4 }
def k1c5 : Code := { maxStack := 5, maxLocals := 5, code := method_6_code, exceptionTable := #[], attributes := #[] }
def k1m5 : Method := { name := "expected", desc := "([CI)Z", sig := { parameters := [(.array .char), .int], returnType := some .boolean }, accessFlags := 10, code := some k1c5 }
/-- com/example/compendio/compendio/io/TermFileIsDecimalPinLaw -/
def k1 : Class := { plain "com/example/compendio/compendio/io/TermFileIsDecimalPinLaw" (some 0) with
  accessFlags := 49
  interfaces := #[]
  cf := some (fileOf pool1 21 #[] #[{ accessFlags := 1, nameIndex := 5, descriptorIndex := 6, attributes := #[] }, { accessFlags := 9, nameIndex := 40, descriptorIndex := 41, attributes := #[] }, { accessFlags := 10, nameIndex := 28, descriptorIndex := 29, attributes := #[] }, { accessFlags := 10, nameIndex := 32, descriptorIndex := 33, attributes := #[] }, { accessFlags := 10, nameIndex := 36, descriptorIndex := 37, attributes := #[] }, { accessFlags := 10, nameIndex := 24, descriptorIndex := 25, attributes := #[] }] 49 2 #[] #[])
  fields := #[]
  methods := #[k1m0, k1m1, k1m2, k1m3, k1m4, k1m5]
  instanceTypes := #[]
  staticTypes := #[]
  resolved := Array.replicate 47 none
  statics := none }

def pool2 : Array CpInfo := pool [(1, .class_ 2), (0, u "java/io/Serializable"), (0, .class_ 4), (0, u "java/lang/Object")] 2

/-- java/io/Serializable -/
def k2 : Class := { plain "java/io/Serializable" (some 0) with
  accessFlags := 1537
  interfaces := #[]
  cf := some (fileOf pool2 1 #[] #[] 1537 3 #[] #[])
  fields := #[]
  methods := #[]
  instanceTypes := #[]
  staticTypes := #[]
  resolved := Array.replicate 7 none
  statics := none }

def pool3 : Array CpInfo := pool [(1, .class_ 2), (0, u "java/lang/Comparable"), (0, .class_ 4), (0, u "java/lang/Object")] 7

/-- java/lang/Comparable -/
def k3 : Class := { plain "java/lang/Comparable" (some 0) with
  accessFlags := 1537
  interfaces := #[]
  cf := some (fileOf pool3 1 #[] #[] 1537 3 #[] #[])
  fields := #[]
  methods := #[]
  instanceTypes := #[]
  staticTypes := #[]
  resolved := Array.replicate 12 none
  statics := none }

def pool4 : Array CpInfo := pool [(2, .class_ 4), (1, u "java/lang/CharSequence"), (42, .class_ 48), (0, u "java/lang/CharSequence$1CodePointIterator"), (10, .class_ 60), (0, u "java/lang/CharSequence$1CharIterator"), (5, .class_ 67), (0, u "java/lang/Object")] 63

/-- java/lang/CharSequence -/
def k4 : Class := { plain "java/lang/CharSequence" (some 0) with
  accessFlags := 1537
  interfaces := #[]
  cf := some (fileOf pool4 2 #[.nestMembers #[47, 59]] #[] 1537 66 #[] #[])
  fields := #[]
  methods := #[]
  instanceTypes := #[]
  staticTypes := #[]
  resolved := Array.replicate 131 none
  statics := none }

def pool5 : Array CpInfo := pool [(1, .class_ 2), (0, u "java/lang/constant/Constable"), (0, .class_ 4), (0, u "java/lang/Object")] 6

/-- java/lang/constant/Constable -/
def k5 : Class := { plain "java/lang/constant/Constable" (some 0) with
  accessFlags := 1537
  interfaces := #[]
  cf := some (fileOf pool5 1 #[] #[] 1537 3 #[] #[])
  fields := #[]
  methods := #[]
  instanceTypes := #[]
  staticTypes := #[]
  resolved := Array.replicate 11 none
  statics := none }

def pool6 : Array CpInfo := pool [(1, .class_ 2), (0, u "java/lang/constant/ConstantDesc"), (0, .class_ 4), (0, u "java/lang/Object")] 32

/-- java/lang/constant/ConstantDesc -/
def k6 : Class := { plain "java/lang/constant/ConstantDesc" (some 0) with
  accessFlags := 1537
  interfaces := #[]
  cf := some (fileOf pool6 1 #[] #[] 1537 3 #[] #[])
  fields := #[]
  methods := #[]
  instanceTypes := #[]
  staticTypes := #[]
  resolved := Array.replicate 37 none
  statics := none }

def pool7 : Array CpInfo := pool [(1, .methodref 2 3), (0, .class_ 4), (0, .nameAndType 5 6), (0, u "java/lang/Object"), (0, u "<init>"), (0, u "()V"), (0, .string 8), (0, u ""), (0, .fieldref 10 11), (0, .class_ 12), (0, .nameAndType 13 14), (0, u "java/lang/String"), (0, u "value"), (0, u "[B"), (0, .fieldref 10 16), (0, .nameAndType 17 18), (0, u "coder"), (0, u "B"), (2, u "hash"), (0, u "I"), (2, u "hashIsZero"), (0, u "Z"), (0, .methodref 10 28), (0, .nameAndType 5 29), (0, u "([CIILjava/lang/Void;)V"), (8, .fieldref 10 39), (0, .nameAndType 40 26), (0, u "COMPACT_STRINGS"), (1, .class_ 44), (1, u "java/lang/StringUTF16"), (0, u "compress"), (1, .methodref 42 48), (0, .nameAndType 49 50), (0, u "coderFromArrayLen"), (0, u "([BI)B"), (56, .class_ 109), (1, u "java/lang/StringLatin1"), (32, u "()Z"), (34, .methodref 42 178), (0, .nameAndType 45 179), (0, u "([CII)[B"), (154, u "()I"), (0, .methodref 10 336), (0, .nameAndType 17 337), (0, u "()B"), (22, .methodref 42 361), (0, .nameAndType 362 363), (0, u "getChar"), (0, u "([BI)C"), (12, u "([BI[BII)I"), (14, u "(II)V"), (35, u "(I)C"), (64, .methodref 10 493), (0, .nameAndType 494 142), (0, u "isLatin1"), (0, .methodref 107 496), (0, .nameAndType 497 363), (0, u "charAt"), (0, .methodref 42 496), (2, u "checkIndex"), (3, .methodref 10 506), (0, .nameAndType 507 334), (0, u "length"), (51, .class_ 561), (1, u "jdk/internal/util/ArraysSupport"), (0, u "mismatch"), (12, .class_ 576), (0, u "java/lang/CharSequence"), (22, u "CASE_INSENSITIVE_ORDER"), (0, u "Ljava/util/Comparator;"), (6, .methodref 559 608), (0, .nameAndType 562 376), (15, .methodref 10 625), (0, .nameAndType 626 627), (0, u "startsWith"), (0, u "(Ljava/lang/String;I)Z"), (382, u "([C)V"), (42, .fieldref 1054 1055), (0, .class_ 1056), (0, .nameAndType 1057 1058), (0, u "jdk/internal/util/Preconditions"), (0, u "SIOOBE_FORMATTER"), (0, u "Ljava/util/function/BiFunction;"), (0, .methodref 1054 1060), (0, .nameAndType 501 1061), (0, u "(IILjava/util/function/BiFunction;)I"), (39, u "serialPersistentFields"), (0, u "[Ljava/io/ObjectStreamField;"), (0, .class_ 1104), (0, u "java/lang/String$CaseInsensitiveComparator"), (1, .class_ 1107), (0, u "java/io/Serializable"), (0, .class_ 1109), (0, u "java/lang/Comparable"), (0, .class_ 1111), (0, u "java/lang/constant/Constable"), (0, .class_ 1113), (0, u "java/lang/constant/ConstantDesc"), (2, u "serialVersionUID"), (0, u "J"), (3, u "REPL"), (0, u "C"), (2, u "LATIN1"), (1, u "UTF16"), (129, u "(Ljava/lang/String;)Z")] 193

def k7m0 : Method := { name := "<init>", desc := "()V", sig := { parameters := [], returnType := none }, accessFlags := 1, code := none }
def k7c1 : Code := { maxStack := 5, maxLocals := 2, code := jdk_42_method_3_code, exceptionTable := #[], attributes := #[] }
def k7m1 : Method := { name := "<init>", desc := "([C)V", sig := { parameters := [(.array .char)], returnType := none }, accessFlags := 1, code := some k7c1 }
def k7c2 : Code := { maxStack := 2, maxLocals := 1, code := jdk_42_method_54_code, exceptionTable := #[], attributes := #[] }
def k7m2 : Method := { name := "length", desc := "()I", sig := { parameters := [], returnType := some .int }, accessFlags := 1, code := some k7c2 }
def k7c3 : Code := { maxStack := 2, maxLocals := 2, code := jdk_42_method_56_code, exceptionTable := #[], attributes := #[] }
def k7m3 : Method := { name := "charAt", desc := "(I)C", sig := { parameters := [.int], returnType := some .char }, accessFlags := 1, code := some k7c3 }
def k7c4 : Code := { maxStack := 5, maxLocals := 8, code := jdk_42_method_75_code, exceptionTable := #[], attributes := #[] }
def k7m4 : Method := { name := "startsWith", desc := "(Ljava/lang/String;I)Z", sig := { parameters := [(.object "java/lang/String"), .int], returnType := some .boolean }, accessFlags := 1, code := some k7c4 }
def k7c5 : Code := { maxStack := 3, maxLocals := 2, code := jdk_42_method_76_code, exceptionTable := #[], attributes := #[] }
def k7m5 : Method := { name := "startsWith", desc := "(Ljava/lang/String;)Z", sig := { parameters := [(.object "java/lang/String")], returnType := some .boolean }, accessFlags := 1, code := some k7c5 }
def k7c6 : Code := { maxStack := 4, maxLocals := 6, code := jdk_42_method_149_code, exceptionTable := #[], attributes := #[] }
def k7m6 : Method := { name := "<init>", desc := "([CIILjava/lang/Void;)V", sig := { parameters := [(.array .char), .int, .int, (.object "java/lang/Void")], returnType := none }, accessFlags := 2, code := some k7c6 }
def k7c7 : Code := { maxStack := 1, maxLocals := 1, code := jdk_42_method_152_code, exceptionTable := #[], attributes := #[] }
def k7m7 : Method := { name := "coder", desc := "()B", sig := { parameters := [], returnType := some .byte }, accessFlags := 0, code := some k7c7 }
def k7c8 : Code := { maxStack := 1, maxLocals := 1, code := jdk_42_method_154_code, exceptionTable := #[], attributes := #[] }
def k7m8 : Method := { name := "isLatin1", desc := "()Z", sig := { parameters := [], returnType := some .boolean }, accessFlags := 0, code := some k7c8 }
def k7c9 : Code := { maxStack := 3, maxLocals := 2, code := jdk_42_method_155_code, exceptionTable := #[], attributes := #[] }
def k7m9 : Method := { name := "checkIndex", desc := "(II)V", sig := { parameters := [.int, .int], returnType := none }, accessFlags := 8, code := some k7c9 }
/-- java/lang/String -/
def k7 : Class := { plain "java/lang/String" (some 0) with
  accessFlags := 49
  interfaces := #[2, 3, 4, 5, 6]
  cf := some (fileOf pool7 10 #[.nestMembers #[1103]] #[{ accessFlags := 1, nameIndex := 5, descriptorIndex := 6, attributes := #[] }, { accessFlags := 1, nameIndex := 5, descriptorIndex := 1010, attributes := #[] }, { accessFlags := 1, nameIndex := 507, descriptorIndex := 334, attributes := #[] }, { accessFlags := 1, nameIndex := 497, descriptorIndex := 427, attributes := #[] }, { accessFlags := 1, nameIndex := 626, descriptorIndex := 627, attributes := #[] }, { accessFlags := 1, nameIndex := 626, descriptorIndex := 1257, attributes := #[] }, { accessFlags := 2, nameIndex := 5, descriptorIndex := 29, attributes := #[] }, { accessFlags := 0, nameIndex := 17, descriptorIndex := 337, attributes := #[] }, { accessFlags := 0, nameIndex := 494, descriptorIndex := 142, attributes := #[] }, { accessFlags := 8, nameIndex := 501, descriptorIndex := 391, attributes := #[] }] 49 2 #[1106, 1108, 575, 1110, 1112] #[{ accessFlags := 18, nameIndex := 13, descriptorIndex := 14, attributes := #[] }, { accessFlags := 18, nameIndex := 17, descriptorIndex := 18, attributes := #[] }, { accessFlags := 2, nameIndex := 21, descriptorIndex := 22, attributes := #[] }, { accessFlags := 2, nameIndex := 25, descriptorIndex := 26, attributes := #[] }, { accessFlags := 26, nameIndex := 1116, descriptorIndex := 1117, attributes := #[] }, { accessFlags := 24, nameIndex := 40, descriptorIndex := 26, attributes := #[] }, { accessFlags := 26, nameIndex := 1101, descriptorIndex := 1102, attributes := #[] }, { accessFlags := 26, nameIndex := 1121, descriptorIndex := 1122, attributes := #[] }, { accessFlags := 25, nameIndex := 599, descriptorIndex := 600, attributes := #[] }, { accessFlags := 24, nameIndex := 1125, descriptorIndex := 18, attributes := #[] }, { accessFlags := 24, nameIndex := 1127, descriptorIndex := 18, attributes := #[] }])
  fields := #[{ name := "value", type := (.array .byte), accessFlags := 18, slot := 0, constantValue := 0 }, { name := "coder", type := .byte, accessFlags := 18, slot := 1, constantValue := 0 }, { name := "hash", type := .int, accessFlags := 2, slot := 2, constantValue := 0 }, { name := "hashIsZero", type := .boolean, accessFlags := 2, slot := 3, constantValue := 0 }, { name := "serialVersionUID", type := .long, accessFlags := 26, slot := 0, constantValue := 0 }, { name := "COMPACT_STRINGS", type := .boolean, accessFlags := 24, slot := 1, constantValue := 0 }, { name := "serialPersistentFields", type := (.array (.object "java/io/ObjectStreamField")), accessFlags := 26, slot := 2, constantValue := 0 }, { name := "REPL", type := .char, accessFlags := 26, slot := 3, constantValue := 0 }, { name := "CASE_INSENSITIVE_ORDER", type := (.object "java/util/Comparator"), accessFlags := 25, slot := 4, constantValue := 0 }, { name := "LATIN1", type := .byte, accessFlags := 24, slot := 5, constantValue := 0 }, { name := "UTF16", type := .byte, accessFlags := 24, slot := 6, constantValue := 0 }]
  methods := #[k7m0, k7m1, k7m2, k7m3, k7m4, k7m5, k7m6, k7m7, k7m8, k7m9]
  instanceTypes := #[(.array .byte), .byte, .int, .boolean]
  staticTypes := #[.long, .boolean, (.array (.object "java/io/ObjectStreamField")), .char, (.object "java/util/Comparator"), .byte, .byte]
  resolved := Array.replicate 1451 none
  statics := some 0 }

def pool8 : Array CpInfo := pool [(2, .class_ 4), (1, u "java/lang/Object"), (3, .class_ 10), (1, u "com/example/compendio/compendio/io/TermFile"), (0, u "file"), (0, u "Ljava/nio/file/Path;"), (2, u "table"), (0, u "Lcom/example/compendio/compendio/io/TomlTable;"), (2, u "enclosing"), (0, u "Lcom/example/compendio/compendio/io/TermFile;"), (2, u "array"), (0, u "Ljava/lang/String;"), (2, u "place"), (0, u "I"), (2, u "settings"), (0, u "Ljava/util/Map;"), (17, u "readSettings"), (0, u "Ljava/util/Set;"), (38, .class_ 91), (0, u "java/lang/String"), (40, u "()I"), (146, u "FILE_ORDER"), (0, u "Ljava/util/Comparator;"), (20, u "startsWith"), (47, u "isDecimal"), (0, u "(Ljava/lang/String;)Z"), (25, .string 377), (0, u "-"), (0, .methodref 90 379), (0, .nameAndType 301 350), (17, .methodref 90 398), (0, .nameAndType 399 132), (0, u "length"), (7, u "EARLIEST_DATE"), (0, u "Ljava/time/LocalDate;"), (93, .class_ 504), (1, u "com/example/compendio/compendio/io/TermFile$Keys"), (27, u "READ"), (0, u "Lcom/example/compendio/compendio/io/TermFile$Known;"), (14, .class_ 550), (1, u "com/example/compendio/compendio/io/TermFile$Key"), (19, .class_ 572), (1, u "com/example/compendio/compendio/io/TermFile$Known"), (9, u "FIRST_IN_FILE"), (11, u "PATHS"), (5, .methodref 90 601), (0, .nameAndType 602 603), (0, u "charAt"), (0, u "(I)C"), (54, .class_ 659), (0, u "com/example/compendio/compendio/io/TermFile$1"), (1, u "SCHEMA"), (1, u "SCHEMA_KEY"), (2, u "SETTING"), (62, .class_ 730), (0, u "com/example/compendio/compendio/io/TermFile$Names")] 98

def k8c0 : Code := { maxStack := 2, maxLocals := 5, code := prog_55_method_34_code, exceptionTable := #[], attributes := #[] }
def k8m0 : Method := { name := "isDecimal", desc := "(Ljava/lang/String;)Z", sig := { parameters := [(.object "java/lang/String")], returnType := some .boolean }, accessFlags := 8, code := some k8c0 }
/-- com/example/compendio/compendio/io/TermFile -/
def k8 : Class := { plain "com/example/compendio/compendio/io/TermFile" (some 0) with
  accessFlags := 49
  interfaces := #[]
  cf := some (fileOf pool8 8 #[.nestMembers #[729, 570, 548, 502, 658]] #[{ accessFlags := 8, nameIndex := 349, descriptorIndex := 350, attributes := #[] }] 49 2 #[] #[{ accessFlags := 25, nameIndex := 661, descriptorIndex := 24, attributes := #[] }, { accessFlags := 25, nameIndex := 407, descriptorIndex := 408, attributes := #[] }, { accessFlags := 26, nameIndex := 663, descriptorIndex := 24, attributes := #[] }, { accessFlags := 26, nameIndex := 594, descriptorIndex := 32, attributes := #[] }, { accessFlags := 26, nameIndex := 666, descriptorIndex := 24, attributes := #[] }, { accessFlags := 26, nameIndex := 279, descriptorIndex := 280, attributes := #[] }, { accessFlags := 26, nameIndex := 582, descriptorIndex := 280, attributes := #[] }, { accessFlags := 18, nameIndex := 11, descriptorIndex := 12, attributes := #[] }, { accessFlags := 18, nameIndex := 15, descriptorIndex := 16, attributes := #[] }, { accessFlags := 18, nameIndex := 19, descriptorIndex := 20, attributes := #[] }, { accessFlags := 18, nameIndex := 23, descriptorIndex := 24, attributes := #[] }, { accessFlags := 18, nameIndex := 27, descriptorIndex := 28, attributes := #[] }, { accessFlags := 18, nameIndex := 31, descriptorIndex := 32, attributes := #[] }, { accessFlags := 18, nameIndex := 50, descriptorIndex := 51, attributes := #[] }, { accessFlags := 26, nameIndex := 532, descriptorIndex := 533, attributes := #[] }])
  fields := #[{ name := "SCHEMA", type := (.object "java/lang/String"), accessFlags := 25, slot := 0, constantValue := 0 }, { name := "EARLIEST_DATE", type := (.object "java/time/LocalDate"), accessFlags := 25, slot := 1, constantValue := 0 }, { name := "SCHEMA_KEY", type := (.object "java/lang/String"), accessFlags := 26, slot := 2, constantValue := 0 }, { name := "PATHS", type := (.object "java/util/Map"), accessFlags := 26, slot := 3, constantValue := 0 }, { name := "SETTING", type := (.object "java/lang/String"), accessFlags := 26, slot := 4, constantValue := 0 }, { name := "FILE_ORDER", type := (.object "java/util/Comparator"), accessFlags := 26, slot := 5, constantValue := 0 }, { name := "FIRST_IN_FILE", type := (.object "java/util/Comparator"), accessFlags := 26, slot := 6, constantValue := 0 }, { name := "file", type := (.object "java/nio/file/Path"), accessFlags := 18, slot := 0, constantValue := 0 }, { name := "table", type := (.object "com/example/compendio/compendio/io/TomlTable"), accessFlags := 18, slot := 1, constantValue := 0 }, { name := "enclosing", type := (.object "com/example/compendio/compendio/io/TermFile"), accessFlags := 18, slot := 2, constantValue := 0 }, { name := "array", type := (.object "java/lang/String"), accessFlags := 18, slot := 3, constantValue := 0 }, { name := "place", type := .int, accessFlags := 18, slot := 4, constantValue := 0 }, { name := "settings", type := (.object "java/util/Map"), accessFlags := 18, slot := 5, constantValue := 0 }, { name := "readSettings", type := (.object "java/util/Set"), accessFlags := 18, slot := 6, constantValue := 0 }, { name := "READ", type := (.object "com/example/compendio/compendio/io/TermFile$Known"), accessFlags := 26, slot := 7, constantValue := 0 }]
  methods := #[k8m0]
  instanceTypes := #[(.object "java/nio/file/Path"), (.object "com/example/compendio/compendio/io/TomlTable"), (.object "com/example/compendio/compendio/io/TermFile"), (.object "java/lang/String"), .int, (.object "java/util/Map"), (.object "java/util/Set")]
  staticTypes := #[(.object "java/lang/String"), (.object "java/time/LocalDate"), (.object "java/lang/String"), (.object "java/util/Map"), (.object "java/lang/String"), (.object "java/util/Comparator"), (.object "java/util/Comparator"), (.object "com/example/compendio/compendio/io/TermFile$Known")]
  resolved := Array.replicate 829 none
  statics := none }

def pool9 : Array CpInfo := pool [(3, .class_ 4), (0, u "java/lang/String"), (1, .class_ 8), (1, u "java/lang/Object"), (0, u "<init>"), (0, u "()V"), (0, .methodref 12 13), (0, .class_ 14), (0, .nameAndType 15 16), (0, u "java/lang/StringUTF16"), (0, u "newBytesLength"), (0, u "(I)I"), (3, .integer 1073741823), (23, .fieldref 12 45), (0, .nameAndType 46 47), (0, u "$assertionsDisabled"), (0, u "Z"), (0, .methodref 12 49), (0, .nameAndType 50 51), (0, u "length"), (0, u "([B)I"), (7, .fieldref 12 60), (0, .nameAndType 61 62), (0, u "HI_BYTE_SHIFT"), (0, u "I"), (0, .fieldref 12 64), (0, .nameAndType 65 62), (0, u "LO_BYTE_SHIFT"), (1, .methodref 12 68), (0, .nameAndType 69 70), (0, u "checkIndex"), (0, u "(I[B)V"), (0, .methodref 12 72), (0, .nameAndType 73 74), (0, u "getChar"), (0, u "([BI)C"), (32, .methodref 12 108), (0, .nameAndType 109 110), (0, u "newBytesFor"), (0, u "(I)[B"), (0, .methodref 12 112), (0, .nameAndType 113 114), (0, u "putChar"), (0, u "([BII)V"), (0, .methodref 12 116), (0, .nameAndType 117 118), (0, u "compress"), (0, u "([CI[BII)I"), (0, .methodref 12 120), (0, .nameAndType 121 122), (0, u "toBytes"), (0, u "([CII)[B"), (138, u "coderFromArrayLen"), (0, u "([BI)B"), (106, .class_ 371), (1, u "java/lang/StringUTF16$LinesSpliterator"), (20, u "charAt"), (21, .methodref 3 415), (0, .nameAndType 69 416), (0, u "(II)V"), (13, u "MAX_LENGTH"), (196, .class_ 628), (0, u "java/lang/StringUTF16$CodePointsSpliterator"), (0, .class_ 630), (0, u "java/lang/StringUTF16$CharsSpliterator")] 4

def k9m0 : Method := { name := "<init>", desc := "()V", sig := { parameters := [], returnType := none }, accessFlags := 0, code := none }
def k9c1 : Code := { maxStack := 1, maxLocals := 1, code := jdk_52_method_2_code, exceptionTable := #[], attributes := #[] }
def k9m1 : Method := { name := "newBytesFor", desc := "(I)[B", sig := { parameters := [.int], returnType := some (.array .byte) }, accessFlags := 9, code := some k9c1 }
def k9c2 : Code := { maxStack := 4, maxLocals := 1, code := jdk_52_method_3_code, exceptionTable := #[], attributes := #[] }
def k9m2 : Method := { name := "newBytesLength", desc := "(I)I", sig := { parameters := [.int], returnType := some .int }, accessFlags := 9, code := some k9c2 }
def k9c3 : Code := { maxStack := 4, maxLocals := 3, code := jdk_52_method_4_code, exceptionTable := #[], attributes := #[] }
def k9m3 : Method := { name := "putChar", desc := "([BII)V", sig := { parameters := [(.array .byte), .int, .int], returnType := none }, accessFlags := 8, code := some k9c3 }
def k9c4 : Code := { maxStack := 3, maxLocals := 2, code := jdk_52_method_5_code, exceptionTable := #[], attributes := #[] }
def k9m4 : Method := { name := "getChar", desc := "([BI)C", sig := { parameters := [(.array .byte), .int], returnType := some .char }, accessFlags := 8, code := some k9c4 }
def k9c5 : Code := { maxStack := 2, maxLocals := 1, code := jdk_52_method_6_code, exceptionTable := #[], attributes := #[] }
def k9m5 : Method := { name := "length", desc := "([B)I", sig := { parameters := [(.array .byte)], returnType := some .int }, accessFlags := 9, code := some k9c5 }
def k9c6 : Code := { maxStack := 4, maxLocals := 5, code := jdk_52_method_14_code, exceptionTable := #[], attributes := #[] }
def k9m6 : Method := { name := "toBytes", desc := "([CII)[B", sig := { parameters := [(.array .char), .int, .int], returnType := some (.array .byte) }, accessFlags := 9, code := some k9c6 }
def k9c7 : Code := { maxStack := 2, maxLocals := 2, code := jdk_52_method_15_code, exceptionTable := #[], attributes := #[] }
def k9m7 : Method := { name := "coderFromArrayLen", desc := "([BI)B", sig := { parameters := [(.array .byte), .int], returnType := some .byte }, accessFlags := 8, code := some k9c7 }
def k9c8 : Code := { maxStack := 5, maxLocals := 6, code := jdk_52_method_16_code, exceptionTable := #[], attributes := #[] }
def k9m8 : Method := { name := "compress", desc := "([CII)[B", sig := { parameters := [(.array .char), .int, .int], returnType := some (.array .byte) }, accessFlags := 9, code := some k9c8 }
def k9c9 : Code := { maxStack := 3, maxLocals := 7, code := jdk_52_method_21_code, exceptionTable := #[], attributes := #[] }
def k9m9 : Method := { name := "compress", desc := "([CI[BII)I", sig := { parameters := [(.array .char), .int, (.array .byte), .int, .int], returnType := some .int }, accessFlags := 9, code := some k9c9 }
def k9c10 : Code := { maxStack := 2, maxLocals := 2, code := jdk_52_method_83_code, exceptionTable := #[], attributes := #[] }
def k9m10 : Method := { name := "charAt", desc := "([BI)C", sig := { parameters := [(.array .byte), .int], returnType := some .char }, accessFlags := 9, code := some k9c10 }
def k9c11 : Code := { maxStack := 2, maxLocals := 2, code := jdk_52_method_91_code, exceptionTable := #[], attributes := #[] }
def k9m11 : Method := { name := "checkIndex", desc := "(I[B)V", sig := { parameters := [.int, (.array .byte)], returnType := none }, accessFlags := 9, code := some k9c11 }
/-- java/lang/StringUTF16 -/
def k9 : Class := { plain "java/lang/StringUTF16" (some 0) with
  accessFlags := 48
  interfaces := #[]
  cf := some (fileOf pool9 12 #[.nestMembers #[627, 629, 369]] #[{ accessFlags := 0, nameIndex := 9, descriptorIndex := 10, attributes := #[] }, { accessFlags := 9, nameIndex := 109, descriptorIndex := 110, attributes := #[] }, { accessFlags := 9, nameIndex := 15, descriptorIndex := 16, attributes := #[] }, { accessFlags := 8, nameIndex := 113, descriptorIndex := 114, attributes := #[] }, { accessFlags := 8, nameIndex := 73, descriptorIndex := 74, attributes := #[] }, { accessFlags := 9, nameIndex := 50, descriptorIndex := 51, attributes := #[] }, { accessFlags := 9, nameIndex := 121, descriptorIndex := 122, attributes := #[] }, { accessFlags := 8, nameIndex := 261, descriptorIndex := 262, attributes := #[] }, { accessFlags := 9, nameIndex := 117, descriptorIndex := 122, attributes := #[] }, { accessFlags := 9, nameIndex := 117, descriptorIndex := 118, attributes := #[] }, { accessFlags := 9, nameIndex := 392, descriptorIndex := 74, attributes := #[] }, { accessFlags := 9, nameIndex := 69, descriptorIndex := 70, attributes := #[] }] 48 6 #[] #[{ accessFlags := 26, nameIndex := 61, descriptorIndex := 62, attributes := #[] }, { accessFlags := 26, nameIndex := 65, descriptorIndex := 62, attributes := #[] }, { accessFlags := 24, nameIndex := 430, descriptorIndex := 62, attributes := #[] }, { accessFlags := 4120, nameIndex := 46, descriptorIndex := 47, attributes := #[] }])
  fields := #[{ name := "HI_BYTE_SHIFT", type := .int, accessFlags := 26, slot := 0, constantValue := 0 }, { name := "LO_BYTE_SHIFT", type := .int, accessFlags := 26, slot := 1, constantValue := 0 }, { name := "MAX_LENGTH", type := .int, accessFlags := 24, slot := 2, constantValue := 0 }, { name := "$assertionsDisabled", type := .boolean, accessFlags := 4120, slot := 3, constantValue := 0 }]
  methods := #[k9m0, k9m1, k9m2, k9m3, k9m4, k9m5, k9m6, k9m7, k9m8, k9m9, k9m10, k9m11]
  instanceTypes := #[]
  staticTypes := #[.int, .int, .int, .boolean]
  resolved := Array.replicate 635 none
  statics := some 1 }

def pool10 : Array CpInfo := pool [(9, u "<init>"), (6, .class_ 18), (1, u "java/lang/Object"), (0, u "()V"), (1, .class_ 23), (1, u "jdk/internal/util/ArraysSupport"), (0, u "LOG2_ARRAY_LONG_INDEX_SCALE"), (0, u "I"), (2, u "U"), (0, u "Ljdk/internal/misc/Unsafe;"), (8, u "BIG_ENDIAN"), (0, u "Z"), (8, u "LOG2_BYTE_BIT_SIZE"), (4, u "LOG2_ARRAY_INT_INDEX_SCALE"), (54, u "JLA"), (0, u "Ljdk/internal/access/JavaLangAccess;"), (11, u "LOG2_ARRAY_BOOLEAN_INDEX_SCALE"), (9, u "LOG2_ARRAY_BYTE_INDEX_SCALE"), (5, u "LOG2_ARRAY_CHAR_INDEX_SCALE"), (5, u "LOG2_ARRAY_SHORT_INDEX_SCALE"), (5, u "mismatch"), (12, u "LOG2_ARRAY_FLOAT_INDEX_SCALE"), (24, u "LOG2_ARRAY_DOUBLE_INDEX_SCALE"), (89, u "T_BOOLEAN"), (2, u "T_CHAR"), (1, u "T_FLOAT"), (1, u "T_DOUBLE"), (1, u "T_BYTE"), (1, u "T_SHORT"), (1, u "T_INT"), (1, u "T_LONG"), (1, u "SOFT_MAX_ARRAY_LENGTH"), (42, u "([BI[BII)I")] 40

def k10m0 : Method := { name := "<init>", desc := "()V", sig := { parameters := [], returnType := none }, accessFlags := 2, code := none }
def k10c1 : Code := { maxStack := 8, maxLocals := 8, code := jdk_48_method_14_code, exceptionTable := #[], attributes := #[] }
def k10m1 : Method := { name := "mismatch", desc := "([BI[BII)I", sig := { parameters := [(.array .byte), .int, (.array .byte), .int, .int], returnType := some .int }, accessFlags := 9, code := some k10c1 }
/-- jdk/internal/util/ArraysSupport -/
def k10 : Class := { plain "jdk/internal/util/ArraysSupport" (some 0) with
  accessFlags := 33
  interfaces := #[]
  cf := some (fileOf pool10 21 #[] #[{ accessFlags := 2, nameIndex := 9, descriptorIndex := 19, attributes := #[] }, { accessFlags := 9, nameIndex := 149, descriptorIndex := 337, attributes := #[] }] 33 16 #[] #[{ accessFlags := 24, nameIndex := 28, descriptorIndex := 29, attributes := #[] }, { accessFlags := 26, nameIndex := 38, descriptorIndex := 39, attributes := #[] }, { accessFlags := 25, nameIndex := 121, descriptorIndex := 25, attributes := #[] }, { accessFlags := 25, nameIndex := 131, descriptorIndex := 25, attributes := #[] }, { accessFlags := 25, nameIndex := 137, descriptorIndex := 25, attributes := #[] }, { accessFlags := 25, nameIndex := 143, descriptorIndex := 25, attributes := #[] }, { accessFlags := 25, nameIndex := 53, descriptorIndex := 25, attributes := #[] }, { accessFlags := 25, nameIndex := 24, descriptorIndex := 25, attributes := #[] }, { accessFlags := 25, nameIndex := 162, descriptorIndex := 25, attributes := #[] }, { accessFlags := 25, nameIndex := 187, descriptorIndex := 25, attributes := #[] }, { accessFlags := 26, nameIndex := 48, descriptorIndex := 25, attributes := #[] }, { accessFlags := 25, nameIndex := 277, descriptorIndex := 25, attributes := #[] }, { accessFlags := 25, nameIndex := 280, descriptorIndex := 25, attributes := #[] }, { accessFlags := 25, nameIndex := 282, descriptorIndex := 25, attributes := #[] }, { accessFlags := 25, nameIndex := 284, descriptorIndex := 25, attributes := #[] }, { accessFlags := 25, nameIndex := 286, descriptorIndex := 25, attributes := #[] }, { accessFlags := 25, nameIndex := 288, descriptorIndex := 25, attributes := #[] }, { accessFlags := 25, nameIndex := 290, descriptorIndex := 25, attributes := #[] }, { accessFlags := 25, nameIndex := 292, descriptorIndex := 25, attributes := #[] }, { accessFlags := 26, nameIndex := 108, descriptorIndex := 109, attributes := #[] }, { accessFlags := 25, nameIndex := 294, descriptorIndex := 25, attributes := #[] }])
  fields := #[{ name := "U", type := (.object "jdk/internal/misc/Unsafe"), accessFlags := 24, slot := 0, constantValue := 0 }, { name := "BIG_ENDIAN", type := .boolean, accessFlags := 26, slot := 1, constantValue := 0 }, { name := "LOG2_ARRAY_BOOLEAN_INDEX_SCALE", type := .int, accessFlags := 25, slot := 2, constantValue := 0 }, { name := "LOG2_ARRAY_BYTE_INDEX_SCALE", type := .int, accessFlags := 25, slot := 3, constantValue := 0 }, { name := "LOG2_ARRAY_CHAR_INDEX_SCALE", type := .int, accessFlags := 25, slot := 4, constantValue := 0 }, { name := "LOG2_ARRAY_SHORT_INDEX_SCALE", type := .int, accessFlags := 25, slot := 5, constantValue := 0 }, { name := "LOG2_ARRAY_INT_INDEX_SCALE", type := .int, accessFlags := 25, slot := 6, constantValue := 0 }, { name := "LOG2_ARRAY_LONG_INDEX_SCALE", type := .int, accessFlags := 25, slot := 7, constantValue := 0 }, { name := "LOG2_ARRAY_FLOAT_INDEX_SCALE", type := .int, accessFlags := 25, slot := 8, constantValue := 0 }, { name := "LOG2_ARRAY_DOUBLE_INDEX_SCALE", type := .int, accessFlags := 25, slot := 9, constantValue := 0 }, { name := "LOG2_BYTE_BIT_SIZE", type := .int, accessFlags := 26, slot := 10, constantValue := 0 }, { name := "T_BOOLEAN", type := .int, accessFlags := 25, slot := 11, constantValue := 0 }, { name := "T_CHAR", type := .int, accessFlags := 25, slot := 12, constantValue := 0 }, { name := "T_FLOAT", type := .int, accessFlags := 25, slot := 13, constantValue := 0 }, { name := "T_DOUBLE", type := .int, accessFlags := 25, slot := 14, constantValue := 0 }, { name := "T_BYTE", type := .int, accessFlags := 25, slot := 15, constantValue := 0 }, { name := "T_SHORT", type := .int, accessFlags := 25, slot := 16, constantValue := 0 }, { name := "T_INT", type := .int, accessFlags := 25, slot := 17, constantValue := 0 }, { name := "T_LONG", type := .int, accessFlags := 25, slot := 18, constantValue := 0 }, { name := "JLA", type := (.object "jdk/internal/access/JavaLangAccess"), accessFlags := 26, slot := 19, constantValue := 0 }, { name := "SOFT_MAX_ARRAY_LENGTH", type := .int, accessFlags := 25, slot := 20, constantValue := 0 }]
  methods := #[k10m0, k10m1]
  instanceTypes := #[]
  staticTypes := #[(.object "jdk/internal/misc/Unsafe"), .boolean, .int, .int, .int, .int, .int, .int, .int, .int, .int, .int, .int, .int, .int, .int, .int, .int, .int, (.object "jdk/internal/access/JavaLangAccess"), .int]
  resolved := Array.replicate 378 none
  statics := none }

def pool11 : Array CpInfo := pool [(1, .class_ 2), (0, u "java/lang/String"), (1, .class_ 6), (1, u "java/lang/Object"), (0, u "<init>"), (0, u "()V"), (0, .methodref 1 10), (0, .nameAndType 11 12), (0, u "checkIndex"), (0, u "(II)V"), (1, .class_ 16), (1, u "java/lang/StringLatin1"), (36, u "([BI)C"), (67, u "$assertionsDisabled"), (0, u "Z"), (98, .class_ 223), (1, u "java/lang/StringLatin1$LinesSpliterator"), (28, u "charAt"), (137, .class_ 391), (0, u "java/lang/StringLatin1$CharsSpliterator")] 3

def k11m0 : Method := { name := "<init>", desc := "()V", sig := { parameters := [], returnType := none }, accessFlags := 0, code := none }
def k11c1 : Code := { maxStack := 2, maxLocals := 2, code := jdk_43_method_2_code, exceptionTable := #[], attributes := #[] }
def k11m1 : Method := { name := "charAt", desc := "([BI)C", sig := { parameters := [(.array .byte), .int], returnType := some .char }, accessFlags := 9, code := some k11c1 }
/-- java/lang/StringLatin1 -/
def k11 : Class := { plain "java/lang/StringLatin1" (some 0) with
  accessFlags := 48
  interfaces := #[]
  cf := some (fileOf pool11 14 #[.nestMembers #[390, 221]] #[{ accessFlags := 0, nameIndex := 7, descriptorIndex := 8, attributes := #[] }, { accessFlags := 9, nameIndex := 252, descriptorIndex := 53, attributes := #[] }] 48 4 #[] #[{ accessFlags := 4120, nameIndex := 121, descriptorIndex := 122, attributes := #[] }])
  fields := #[{ name := "$assertionsDisabled", type := .boolean, accessFlags := 4120, slot := 0, constantValue := 0 }]
  methods := #[k11m0, k11m1]
  instanceTypes := #[]
  staticTypes := #[.boolean]
  resolved := Array.replicate 395 none
  statics := none }

def pool12 : Array CpInfo := pool [(2, .class_ 4), (1, u "java/lang/Object"), (0, u "<init>"), (0, u "()V"), (17, .class_ 26), (1, u "jdk/internal/util/Preconditions"), (6, u "checkIndex"), (21, .class_ 56), (0, u "jdk/internal/util/Preconditions$4"), (57, .class_ 115), (0, u "jdk/internal/util/Preconditions$1"), (7, u "SIOOBE_FORMATTER"), (0, u "Ljava/util/function/BiFunction;"), (0, .class_ 126), (0, u "jdk/internal/util/Preconditions$2"), (3, u "AIOOBE_FORMATTER"), (0, .class_ 132), (0, u "jdk/internal/util/Preconditions$3"), (3, u "IOOBE_FORMATTER"), (41, u "(IILjava/util/function/BiFunction;)I")] 15

def k12m0 : Method := { name := "<init>", desc := "()V", sig := { parameters := [], returnType := none }, accessFlags := 1, code := none }
def k12c1 : Code := { maxStack := 3, maxLocals := 3, code := jdk_41_method_11_code, exceptionTable := #[], attributes := #[] }
def k12m1 : Method := { name := "checkIndex", desc := "(IILjava/util/function/BiFunction;)I", sig := { parameters := [.int, .int, (.object "java/util/function/BiFunction")], returnType := some .int }, accessFlags := 9, code := some k12c1 }
/-- jdk/internal/util/Preconditions -/
def k12 : Class := { plain "jdk/internal/util/Preconditions" (some 0) with
  accessFlags := 33
  interfaces := #[]
  cf := some (fileOf pool12 24 #[.nestMembers #[55, 131, 125, 114]] #[{ accessFlags := 1, nameIndex := 5, descriptorIndex := 6, attributes := #[] }, { accessFlags := 9, nameIndex := 33, descriptorIndex := 178, attributes := #[] }] 33 2 #[] #[{ accessFlags := 25, nameIndex := 123, descriptorIndex := 124, attributes := #[] }, { accessFlags := 25, nameIndex := 130, descriptorIndex := 124, attributes := #[] }, { accessFlags := 25, nameIndex := 136, descriptorIndex := 124, attributes := #[] }])
  fields := #[{ name := "SIOOBE_FORMATTER", type := (.object "java/util/function/BiFunction"), accessFlags := 25, slot := 0, constantValue := 0 }, { name := "AIOOBE_FORMATTER", type := (.object "java/util/function/BiFunction"), accessFlags := 25, slot := 1, constantValue := 0 }, { name := "IOOBE_FORMATTER", type := (.object "java/util/function/BiFunction"), accessFlags := 25, slot := 2, constantValue := 0 }]
  methods := #[k12m0, k12m1]
  instanceTypes := #[]
  staticTypes := #[(.object "java/util/function/BiFunction"), (.object "java/util/function/BiFunction"), (.object "java/util/function/BiFunction")]
  resolved := Array.replicate 194 none
  statics := some 2 }

def pool13 : Array CpInfo := pool [(1, u "java/lang/Cloneable"), (0, .class_ 1), (0, u "java/lang/Object"), (0, .class_ 3)] 3

/-- java/lang/Cloneable -/
def k13 : Class := { plain "java/lang/Cloneable" (some 0) with
  accessFlags := 1537
  interfaces := #[]
  cf := some (fileOf pool13 2 #[] #[] 1537 4 #[] #[])
  fields := #[]
  methods := #[]
  instanceTypes := #[]
  staticTypes := #[]
  resolved := Array.replicate 8 none
  statics := none }

/-- the primitive byte -/
def k14 : Class := { plain "byte" none with kind := .primitive 'B', accessFlags := 0x411 }
/-- [B -/
def k15 : Class := { plain "[B" (some 0) with kind := .array 14 .byte, interfaces := #[13, 2], accessFlags := 1041 }

/-- the primitive char -/
def k16 : Class := { plain "char" none with kind := .primitive 'C', accessFlags := 0x411 }
/-- [C -/
def k17 : Class := { plain "[C" (some 0) with kind := .array 16 .char, interfaces := #[13, 2], accessFlags := 1041 }

/-- the primitive int -/
def k18 : Class := { plain "int" none with kind := .primitive 'I', accessFlags := 0x411 }
/-- [I -/
def k19 : Class := { plain "[I" (some 0) with kind := .array 18 .int, interfaces := #[13, 2], accessFlags := 1041 }

def heap : Heap := #[{ cls := 7, slots := #[.long 0, .int 1, .null, .int 0, .null, .int 0, .int 0], vm := .statics 7 },
  { cls := 9, slots := #[.int 0, .int 8, .int 0, .int 1], vm := .statics 9 },
  { cls := 12, slots := #[.null, .null, .null], vm := .statics 12 }]
def classes : Array Class := #[k0, k1, k2, k3, k4, k5, k6, k7, k8, k9, k10, k11, k12, k13, k14, k15, k16, k17, k18, k19]
def interned : List (Array UInt16 × Addr) := []
def slotsUsed : Nat := 14
def theMethod : MethodId := ⟨1, 1⟩
def args0 : Array Value := #[.int 5, .int 5, .int 5, .int 5]
def aboutOver (below : List Frame) : State where
  vm := { classes := classes, interned := interned.toArray }
  heap := heap
  slotsUsed := slotsUsed
  threads := #[{ frames := .invoking theMethod args0 :: below }]
def below0 : List Frame := [.native { method := ⟨0, 0⟩, args := #[] }]
def about1 : State := aboutOver below0
def p0 : Program := .bare "" "" ""
def e0 : Env := launch0.env 0 0 0
theorem w_frames : about1.frames = Frame.invoking theMethod args0 :: below0 := rfl
set_option maxRecDepth 65536 in
theorem w_args : argsFit about1.vm theMethod args0 = true := by decide +kernel
set_option maxRecDepth 65536 in
theorem w_heap : heapFits about1 = true := by decide +kernel
set_option maxRecDepth 65536 in
theorem w_runnable : about1.curStatus? = some .runnable := by decide +kernel
set_option maxRecDepth 65536 in
theorem w_alone : about1.alone = true := by decide +kernel
set_option maxRecDepth 65536 in
theorem w_named : about1.methodNamed? x = some theMethod := by decide +kernel
set_option maxRecDepth 65536 in
theorem w_hears : about1.hears theMethod below0 = true := by decide +kernel
set_option maxRecDepth 65536 in
theorem w_ripe : about1.ripe theMethod args0 below0 = true := by decide +kernel
theorem w_running : about1.status = .running := rfl
set_option maxRecDepth 65536 in
theorem w_room : about1.hasRoom e0.platform room_1 = true :=
  launch0.hasRoom_least _ room_1 (by decide +kernel) (by decide +kernel) (by decide +kernel) (by decide +kernel) (by decide +kernel) (by decide +kernel)
theorem allAtoms_all (ts : List Jvm.Cond) (a : Array Jvm.Value) (st : Jvm.State) : (allAtoms ts).before a st = ts.all (fun c => c.before a st) := by
  induction ts with
  | nil => rfl
  | cons c t ih =>
    show (Jvm.Cond.and c (allAtoms t)).before a st = _
    rw [Jvm.Cond.before_and, ih, List.all_cons]
def words1 : List Jvm.Cond := Jvm.Cond.code x code maxLocals ret :: tables_1
/-- a 'code' word, met by the world's own term for the bytes: nothing is compared byte by byte -/
theorem code_word {y : MethodName} {bytes : ByteArray} {mx : Nat} {rt : Option FieldType} {a : Array Value} {s : State} {m : MethodId} {meth : Method} {c : Code} (h1 : s.methodNamed? y = some m) (h2 : s.vm.method? m = some meth) (h3 : meth.code = some c) (h4 : c.code = bytes)
    (h5 : (c.maxLocals == mx && c.exceptionTable.isEmpty && decide (c.maxStack ≤ mostOperands) && decide (meth.sig.returnType = rt) && !meth.locks && decide (parseMethodDescriptor y.desc = some meth.sig)) = true) : (Jvm.Cond.code y bytes mx rt).before a s = true := by
  simp only [Bool.and_eq_true, beq_iff_eq, Bool.not_eq_true', decide_eq_true_eq] at h5
  obtain ⟨⟨⟨⟨⟨g1, g2⟩, g3⟩, g4⟩, g5⟩, g6⟩ := h5
  simp [Cond.before, Cond.holds, Cond.value, h1, h2, h3, h4, g1, g2, g3, g4, g5, g6]
def isCode : Jvm.Cond → Bool
  | .code _ _ _ _ => true
  | _ => false
theorem all_split {L : List Jvm.Cond} {P : Jvm.Cond → Bool} (h1 : L.all (fun c => isCode c || P c) = true) (h2 : ∀ c ∈ L.filter isCode, P c = true) : L.all P = true := by
  refine List.all_eq_true.mpr fun c hc => ?_
  have h := List.all_eq_true.mp h1 c hc
  rcases Bool.eq_false_or_eq_true (isCode c) with hi | hi
  · exact h2 c (List.mem_filter.mpr ⟨hc, hi⟩)
  · simpa [hi] using h
set_option maxRecDepth 65536 in
theorem w_c0 : (Jvm.Cond.code x code maxLocals ret).before args0 about1 = true := code_word (m := ⟨1, 1⟩) (meth := k1m1) (c := k1c1) (by decide +kernel) rfl rfl rfl (by decide +kernel)
set_option maxRecDepth 65536 in
theorem w_c1 : (Jvm.Cond.code ({ cls := "java/lang/String", name := "<init>", desc := "([C)V" } : Jvm.MethodName) jdk_42_method_3_code (2 : Nat) (Option.none : Option Jvm.ClassFile.FieldType)).before args0 about1 = true := code_word (m := ⟨7, 1⟩) (meth := k7m1) (c := k7c1) (by decide +kernel) rfl rfl rfl (by decide +kernel)
set_option maxRecDepth 65536 in
theorem w_c2 : (Jvm.Cond.code ({ cls := "java/lang/String", name := "<init>", desc := "([CIILjava/lang/Void;)V" } : Jvm.MethodName) jdk_42_method_149_code (6 : Nat) (Option.none : Option Jvm.ClassFile.FieldType)).before args0 about1 = true := code_word (m := ⟨7, 6⟩) (meth := k7m6) (c := k7c6) (by decide +kernel) rfl rfl rfl (by decide +kernel)
set_option maxRecDepth 65536 in
theorem w_c3 : (Jvm.Cond.code ({ cls := "java/lang/Object", name := "<init>", desc := "()V" } : Jvm.MethodName) object_method_1_code (1 : Nat) (Option.none : Option Jvm.ClassFile.FieldType)).before args0 about1 = true := code_word (m := ⟨0, 0⟩) (meth := k0m0) (c := k0c0) (by decide +kernel) rfl rfl rfl (by decide +kernel)
set_option maxRecDepth 65536 in
theorem w_c4 : (Jvm.Cond.code ({ cls := "com/example/compendio/compendio/io/TermFile", name := "isDecimal", desc := "(Ljava/lang/String;)Z" } : Jvm.MethodName) prog_55_method_34_code (5 : Nat) (Option.some Jvm.ClassFile.FieldType.boolean)).before args0 about1 = true := code_word (m := ⟨8, 0⟩) (meth := k8m0) (c := k8c0) (by decide +kernel) rfl rfl rfl (by decide +kernel)
set_option maxRecDepth 65536 in
theorem w_c5 : (Jvm.Cond.code ({ cls := "java/lang/String", name := "startsWith", desc := "(Ljava/lang/String;)Z" } : Jvm.MethodName) jdk_42_method_76_code (2 : Nat) (Option.some Jvm.ClassFile.FieldType.boolean)).before args0 about1 = true := code_word (m := ⟨7, 5⟩) (meth := k7m5) (c := k7c5) (by decide +kernel) rfl rfl rfl (by decide +kernel)
set_option maxRecDepth 65536 in
theorem w_c6 : (Jvm.Cond.code ({ cls := "java/lang/String", name := "startsWith", desc := "(Ljava/lang/String;I)Z" } : Jvm.MethodName) jdk_42_method_75_code (8 : Nat) (Option.some Jvm.ClassFile.FieldType.boolean)).before args0 about1 = true := code_word (m := ⟨7, 4⟩) (meth := k7m4) (c := k7c4) (by decide +kernel) rfl rfl rfl (by decide +kernel)
set_option maxRecDepth 65536 in
theorem w_c7 : (Jvm.Cond.code ({ cls := "java/lang/String", name := "length", desc := "()I" } : Jvm.MethodName) jdk_42_method_54_code (1 : Nat) (Option.some Jvm.ClassFile.FieldType.int)).before args0 about1 = true := code_word (m := ⟨7, 2⟩) (meth := k7m2) (c := k7c2) (by decide +kernel) rfl rfl rfl (by decide +kernel)
set_option maxRecDepth 65536 in
theorem w_c8 : (Jvm.Cond.code ({ cls := "java/lang/String", name := "coder", desc := "()B" } : Jvm.MethodName) jdk_42_method_152_code (1 : Nat) (Option.some Jvm.ClassFile.FieldType.byte)).before args0 about1 = true := code_word (m := ⟨7, 7⟩) (meth := k7m7) (c := k7c7) (by decide +kernel) rfl rfl rfl (by decide +kernel)
set_option maxRecDepth 65536 in
theorem w_c9 : (Jvm.Cond.code ({ cls := "com/example/compendio/compendio/io/TermFileIsDecimalPinLaw", name := "expected", desc := "([CI)Z" } : Jvm.MethodName) method_6_code (5 : Nat) (Option.some Jvm.ClassFile.FieldType.boolean)).before args0 about1 = true := code_word (m := ⟨1, 5⟩) (meth := k1m5) (c := k1c5) (by decide +kernel) rfl rfl rfl (by decide +kernel)
set_option maxRecDepth 65536 in
theorem w_c10 : (Jvm.Cond.code ({ cls := "java/lang/StringUTF16", name := "compress", desc := "([CII)[B" } : Jvm.MethodName) jdk_52_method_16_code (6 : Nat) (Option.some (Jvm.ClassFile.FieldType.array Jvm.ClassFile.FieldType.byte))).before args0 about1 = true := code_word (m := ⟨9, 8⟩) (meth := k9m8) (c := k9c8) (by decide +kernel) rfl rfl rfl (by decide +kernel)
set_option maxRecDepth 65536 in
theorem w_c11 : (Jvm.Cond.code ({ cls := "java/lang/StringUTF16", name := "compress", desc := "([CI[BII)I" } : Jvm.MethodName) jdk_52_method_21_code (7 : Nat) (Option.some Jvm.ClassFile.FieldType.int)).before args0 about1 = true := code_word (m := ⟨9, 9⟩) (meth := k9m9) (c := k9c9) (by decide +kernel) rfl rfl rfl (by decide +kernel)
set_option maxRecDepth 65536 in
theorem w_c12 : (Jvm.Cond.code ({ cls := "java/lang/StringUTF16", name := "coderFromArrayLen", desc := "([BI)B" } : Jvm.MethodName) jdk_52_method_15_code (2 : Nat) (Option.some Jvm.ClassFile.FieldType.byte)).before args0 about1 = true := code_word (m := ⟨9, 7⟩) (meth := k9m7) (c := k9c7) (by decide +kernel) rfl rfl rfl (by decide +kernel)
set_option maxRecDepth 65536 in
theorem w_c13 : (Jvm.Cond.code ({ cls := "jdk/internal/util/ArraysSupport", name := "mismatch", desc := "([BI[BII)I" } : Jvm.MethodName) jdk_48_method_14_code (8 : Nat) (Option.some Jvm.ClassFile.FieldType.int)).before args0 about1 = true := code_word (m := ⟨10, 1⟩) (meth := k10m1) (c := k10c1) (by decide +kernel) rfl rfl rfl (by decide +kernel)
set_option maxRecDepth 65536 in
theorem w_c14 : (Jvm.Cond.code ({ cls := "java/lang/String", name := "charAt", desc := "(I)C" } : Jvm.MethodName) jdk_42_method_56_code (2 : Nat) (Option.some Jvm.ClassFile.FieldType.char)).before args0 about1 = true := code_word (m := ⟨7, 3⟩) (meth := k7m3) (c := k7c3) (by decide +kernel) rfl rfl rfl (by decide +kernel)
set_option maxRecDepth 65536 in
theorem w_c15 : (Jvm.Cond.code ({ cls := "java/lang/String", name := "isLatin1", desc := "()Z" } : Jvm.MethodName) jdk_42_method_154_code (1 : Nat) (Option.some Jvm.ClassFile.FieldType.boolean)).before args0 about1 = true := code_word (m := ⟨7, 8⟩) (meth := k7m8) (c := k7c8) (by decide +kernel) rfl rfl rfl (by decide +kernel)
set_option maxRecDepth 65536 in
theorem w_c16 : (Jvm.Cond.code ({ cls := "java/lang/StringLatin1", name := "charAt", desc := "([BI)C" } : Jvm.MethodName) jdk_43_method_2_code (2 : Nat) (Option.some Jvm.ClassFile.FieldType.char)).before args0 about1 = true := code_word (m := ⟨11, 1⟩) (meth := k11m1) (c := k11c1) (by decide +kernel) rfl rfl rfl (by decide +kernel)
set_option maxRecDepth 65536 in
theorem w_c17 : (Jvm.Cond.code ({ cls := "java/lang/String", name := "checkIndex", desc := "(II)V" } : Jvm.MethodName) jdk_42_method_155_code (2 : Nat) (Option.none : Option Jvm.ClassFile.FieldType)).before args0 about1 = true := code_word (m := ⟨7, 9⟩) (meth := k7m9) (c := k7c9) (by decide +kernel) rfl rfl rfl (by decide +kernel)
set_option maxRecDepth 65536 in
theorem w_c18 : (Jvm.Cond.code ({ cls := "jdk/internal/util/Preconditions", name := "checkIndex", desc := "(IILjava/util/function/BiFunction;)I" } : Jvm.MethodName) jdk_41_method_11_code (3 : Nat) (Option.some Jvm.ClassFile.FieldType.int)).before args0 about1 = true := code_word (m := ⟨12, 1⟩) (meth := k12m1) (c := k12c1) (by decide +kernel) rfl rfl rfl (by decide +kernel)
set_option maxRecDepth 65536 in
theorem w_c19 : (Jvm.Cond.code ({ cls := "com/example/compendio/compendio/io/TermFileIsDecimalPinLaw", name := "allowed", desc := "([CIII)Z" } : Jvm.MethodName) method_4_code (4 : Nat) (Option.some Jvm.ClassFile.FieldType.boolean)).before args0 about1 = true := code_word (m := ⟨1, 3⟩) (meth := k1m3) (c := k1c3) (by decide +kernel) rfl rfl rfl (by decide +kernel)
set_option maxRecDepth 65536 in
theorem w_c20 : (Jvm.Cond.code ({ cls := "com/example/compendio/compendio/io/TermFileIsDecimalPinLaw", name := "isD", desc := "(C)Z" } : Jvm.MethodName) method_3_code (1 : Nat) (Option.some Jvm.ClassFile.FieldType.boolean)).before args0 about1 = true := code_word (m := ⟨1, 2⟩) (meth := k1m2) (c := k1c2) (by decide +kernel) rfl rfl rfl (by decide +kernel)
set_option maxRecDepth 65536 in
theorem w_c21 : (Jvm.Cond.code ({ cls := "com/example/compendio/compendio/io/TermFileIsDecimalPinLaw", name := "pt", desc := "([CIII)I" } : Jvm.MethodName) method_5_code (4 : Nat) (Option.some Jvm.ClassFile.FieldType.int)).before args0 about1 = true := code_word (m := ⟨1, 4⟩) (meth := k1m4) (c := k1c4) (by decide +kernel) rfl rfl rfl (by decide +kernel)
set_option maxRecDepth 65536 in
theorem w_c22 : (Jvm.Cond.code ({ cls := "java/lang/StringUTF16", name := "toBytes", desc := "([CII)[B" } : Jvm.MethodName) jdk_52_method_14_code (5 : Nat) (Option.some (Jvm.ClassFile.FieldType.array Jvm.ClassFile.FieldType.byte))).before args0 about1 = true := code_word (m := ⟨9, 6⟩) (meth := k9m6) (c := k9c6) (by decide +kernel) rfl rfl rfl (by decide +kernel)
set_option maxRecDepth 65536 in
theorem w_c23 : (Jvm.Cond.code ({ cls := "java/lang/StringUTF16", name := "newBytesFor", desc := "(I)[B" } : Jvm.MethodName) jdk_52_method_2_code (1 : Nat) (Option.some (Jvm.ClassFile.FieldType.array Jvm.ClassFile.FieldType.byte))).before args0 about1 = true := code_word (m := ⟨9, 1⟩) (meth := k9m1) (c := k9c1) (by decide +kernel) rfl rfl rfl (by decide +kernel)
set_option maxRecDepth 65536 in
theorem w_c24 : (Jvm.Cond.code ({ cls := "java/lang/StringUTF16", name := "newBytesLength", desc := "(I)I" } : Jvm.MethodName) jdk_52_method_3_code (1 : Nat) (Option.some Jvm.ClassFile.FieldType.int)).before args0 about1 = true := code_word (m := ⟨9, 2⟩) (meth := k9m2) (c := k9c2) (by decide +kernel) rfl rfl rfl (by decide +kernel)
set_option maxRecDepth 65536 in
theorem w_c25 : (Jvm.Cond.code ({ cls := "java/lang/StringUTF16", name := "putChar", desc := "([BII)V" } : Jvm.MethodName) jdk_52_method_4_code (3 : Nat) (Option.none : Option Jvm.ClassFile.FieldType)).before args0 about1 = true := code_word (m := ⟨9, 3⟩) (meth := k9m3) (c := k9c3) (by decide +kernel) rfl rfl rfl (by decide +kernel)
set_option maxRecDepth 65536 in
theorem w_c26 : (Jvm.Cond.code ({ cls := "java/lang/StringUTF16", name := "getChar", desc := "([BI)C" } : Jvm.MethodName) jdk_52_method_5_code (2 : Nat) (Option.some Jvm.ClassFile.FieldType.char)).before args0 about1 = true := code_word (m := ⟨9, 4⟩) (meth := k9m4) (c := k9c4) (by decide +kernel) rfl rfl rfl (by decide +kernel)
set_option maxRecDepth 65536 in
theorem w_c27 : (Jvm.Cond.code ({ cls := "java/lang/StringUTF16", name := "charAt", desc := "([BI)C" } : Jvm.MethodName) jdk_52_method_83_code (2 : Nat) (Option.some Jvm.ClassFile.FieldType.char)).before args0 about1 = true := code_word (m := ⟨9, 10⟩) (meth := k9m10) (c := k9c10) (by decide +kernel) rfl rfl rfl (by decide +kernel)
set_option maxRecDepth 65536 in
theorem w_c28 : (Jvm.Cond.code ({ cls := "java/lang/StringUTF16", name := "checkIndex", desc := "(I[B)V" } : Jvm.MethodName) jdk_52_method_91_code (2 : Nat) (Option.none : Option Jvm.ClassFile.FieldType)).before args0 about1 = true := code_word (m := ⟨9, 11⟩) (meth := k9m11) (c := k9c11) (by decide +kernel) rfl rfl rfl (by decide +kernel)
set_option maxRecDepth 65536 in
theorem w_c29 : (Jvm.Cond.code ({ cls := "java/lang/StringUTF16", name := "length", desc := "([B)I" } : Jvm.MethodName) jdk_52_method_6_code (1 : Nat) (Option.some Jvm.ClassFile.FieldType.int)).before args0 about1 = true := code_word (m := ⟨9, 5⟩) (meth := k9m5) (c := k9c5) (by decide +kernel) rfl rfl rfl (by decide +kernel)
def codes1 : List Jvm.Cond := [Jvm.Cond.code x code maxLocals ret, Jvm.Cond.code ({ cls := "java/lang/String", name := "<init>", desc := "([C)V" } : Jvm.MethodName) jdk_42_method_3_code (2 : Nat) (Option.none : Option Jvm.ClassFile.FieldType), Jvm.Cond.code ({ cls := "java/lang/String", name := "<init>", desc := "([CIILjava/lang/Void;)V" } : Jvm.MethodName) jdk_42_method_149_code (6 : Nat) (Option.none : Option Jvm.ClassFile.FieldType), Jvm.Cond.code ({ cls := "java/lang/Object", name := "<init>", desc := "()V" } : Jvm.MethodName) object_method_1_code (1 : Nat) (Option.none : Option Jvm.ClassFile.FieldType), Jvm.Cond.code ({ cls := "com/example/compendio/compendio/io/TermFile", name := "isDecimal", desc := "(Ljava/lang/String;)Z" } : Jvm.MethodName) prog_55_method_34_code (5 : Nat) (Option.some Jvm.ClassFile.FieldType.boolean), Jvm.Cond.code ({ cls := "java/lang/String", name := "startsWith", desc := "(Ljava/lang/String;)Z" } : Jvm.MethodName) jdk_42_method_76_code (2 : Nat) (Option.some Jvm.ClassFile.FieldType.boolean), Jvm.Cond.code ({ cls := "java/lang/String", name := "startsWith", desc := "(Ljava/lang/String;I)Z" } : Jvm.MethodName) jdk_42_method_75_code (8 : Nat) (Option.some Jvm.ClassFile.FieldType.boolean), Jvm.Cond.code ({ cls := "java/lang/String", name := "length", desc := "()I" } : Jvm.MethodName) jdk_42_method_54_code (1 : Nat) (Option.some Jvm.ClassFile.FieldType.int), Jvm.Cond.code ({ cls := "java/lang/String", name := "coder", desc := "()B" } : Jvm.MethodName) jdk_42_method_152_code (1 : Nat) (Option.some Jvm.ClassFile.FieldType.byte), Jvm.Cond.code ({ cls := "com/example/compendio/compendio/io/TermFileIsDecimalPinLaw", name := "expected", desc := "([CI)Z" } : Jvm.MethodName) method_6_code (5 : Nat) (Option.some Jvm.ClassFile.FieldType.boolean), Jvm.Cond.code ({ cls := "java/lang/StringUTF16", name := "compress", desc := "([CII)[B" } : Jvm.MethodName) jdk_52_method_16_code (6 : Nat) (Option.some (Jvm.ClassFile.FieldType.array Jvm.ClassFile.FieldType.byte)), Jvm.Cond.code ({ cls := "java/lang/StringUTF16", name := "compress", desc := "([CI[BII)I" } : Jvm.MethodName) jdk_52_method_21_code (7 : Nat) (Option.some Jvm.ClassFile.FieldType.int), Jvm.Cond.code ({ cls := "java/lang/StringUTF16", name := "coderFromArrayLen", desc := "([BI)B" } : Jvm.MethodName) jdk_52_method_15_code (2 : Nat) (Option.some Jvm.ClassFile.FieldType.byte), Jvm.Cond.code ({ cls := "jdk/internal/util/ArraysSupport", name := "mismatch", desc := "([BI[BII)I" } : Jvm.MethodName) jdk_48_method_14_code (8 : Nat) (Option.some Jvm.ClassFile.FieldType.int), Jvm.Cond.code ({ cls := "java/lang/String", name := "charAt", desc := "(I)C" } : Jvm.MethodName) jdk_42_method_56_code (2 : Nat) (Option.some Jvm.ClassFile.FieldType.char), Jvm.Cond.code ({ cls := "java/lang/String", name := "isLatin1", desc := "()Z" } : Jvm.MethodName) jdk_42_method_154_code (1 : Nat) (Option.some Jvm.ClassFile.FieldType.boolean), Jvm.Cond.code ({ cls := "java/lang/StringLatin1", name := "charAt", desc := "([BI)C" } : Jvm.MethodName) jdk_43_method_2_code (2 : Nat) (Option.some Jvm.ClassFile.FieldType.char), Jvm.Cond.code ({ cls := "java/lang/String", name := "checkIndex", desc := "(II)V" } : Jvm.MethodName) jdk_42_method_155_code (2 : Nat) (Option.none : Option Jvm.ClassFile.FieldType), Jvm.Cond.code ({ cls := "jdk/internal/util/Preconditions", name := "checkIndex", desc := "(IILjava/util/function/BiFunction;)I" } : Jvm.MethodName) jdk_41_method_11_code (3 : Nat) (Option.some Jvm.ClassFile.FieldType.int), Jvm.Cond.code ({ cls := "com/example/compendio/compendio/io/TermFileIsDecimalPinLaw", name := "allowed", desc := "([CIII)Z" } : Jvm.MethodName) method_4_code (4 : Nat) (Option.some Jvm.ClassFile.FieldType.boolean), Jvm.Cond.code ({ cls := "com/example/compendio/compendio/io/TermFileIsDecimalPinLaw", name := "isD", desc := "(C)Z" } : Jvm.MethodName) method_3_code (1 : Nat) (Option.some Jvm.ClassFile.FieldType.boolean), Jvm.Cond.code ({ cls := "com/example/compendio/compendio/io/TermFileIsDecimalPinLaw", name := "pt", desc := "([CIII)I" } : Jvm.MethodName) method_5_code (4 : Nat) (Option.some Jvm.ClassFile.FieldType.int), Jvm.Cond.code ({ cls := "java/lang/StringUTF16", name := "toBytes", desc := "([CII)[B" } : Jvm.MethodName) jdk_52_method_14_code (5 : Nat) (Option.some (Jvm.ClassFile.FieldType.array Jvm.ClassFile.FieldType.byte)), Jvm.Cond.code ({ cls := "java/lang/StringUTF16", name := "newBytesFor", desc := "(I)[B" } : Jvm.MethodName) jdk_52_method_2_code (1 : Nat) (Option.some (Jvm.ClassFile.FieldType.array Jvm.ClassFile.FieldType.byte)), Jvm.Cond.code ({ cls := "java/lang/StringUTF16", name := "newBytesLength", desc := "(I)I" } : Jvm.MethodName) jdk_52_method_3_code (1 : Nat) (Option.some Jvm.ClassFile.FieldType.int), Jvm.Cond.code ({ cls := "java/lang/StringUTF16", name := "putChar", desc := "([BII)V" } : Jvm.MethodName) jdk_52_method_4_code (3 : Nat) (Option.none : Option Jvm.ClassFile.FieldType), Jvm.Cond.code ({ cls := "java/lang/StringUTF16", name := "getChar", desc := "([BI)C" } : Jvm.MethodName) jdk_52_method_5_code (2 : Nat) (Option.some Jvm.ClassFile.FieldType.char), Jvm.Cond.code ({ cls := "java/lang/StringUTF16", name := "charAt", desc := "([BI)C" } : Jvm.MethodName) jdk_52_method_83_code (2 : Nat) (Option.some Jvm.ClassFile.FieldType.char), Jvm.Cond.code ({ cls := "java/lang/StringUTF16", name := "checkIndex", desc := "(I[B)V" } : Jvm.MethodName) jdk_52_method_91_code (2 : Nat) (Option.none : Option Jvm.ClassFile.FieldType), Jvm.Cond.code ({ cls := "java/lang/StringUTF16", name := "length", desc := "([B)I" } : Jvm.MethodName) jdk_52_method_6_code (1 : Nat) (Option.some Jvm.ClassFile.FieldType.int)]
set_option maxRecDepth 65536 in
theorem codes_eq : words1.filter isCode = codes1 := rfl
theorem w_codes : ∀ c ∈ words1.filter isCode, c.before args0 about1 = true := by
  rw [codes_eq]
  intro c hc
  simp only [codes1, List.mem_cons, List.not_mem_nil, or_false] at hc
  rcases hc with rfl | rfl | rfl | rfl | rfl | rfl | rfl | rfl | rfl | rfl | rfl | rfl | rfl | rfl | rfl | rfl | rfl | rfl | rfl | rfl | rfl | rfl | rfl | rfl | rfl | rfl | rfl | rfl | rfl | rfl
  · exact w_c0
  · exact w_c1
  · exact w_c2
  · exact w_c3
  · exact w_c4
  · exact w_c5
  · exact w_c6
  · exact w_c7
  · exact w_c8
  · exact w_c9
  · exact w_c10
  · exact w_c11
  · exact w_c12
  · exact w_c13
  · exact w_c14
  · exact w_c15
  · exact w_c16
  · exact w_c17
  · exact w_c18
  · exact w_c19
  · exact w_c20
  · exact w_c21
  · exact w_c22
  · exact w_c23
  · exact w_c24
  · exact w_c25
  · exact w_c26
  · exact w_c27
  · exact w_c28
  · exact w_c29
set_option maxRecDepth 65536 in
theorem w_t1 : (words1.take 24).all (fun c => isCode c || c.before args0 about1) = true := by decide +kernel
set_option maxRecDepth 65536 in
theorem w_t2 : ((words1.drop 24).take 24).all (fun c => isCode c || c.before args0 about1) = true := by decide +kernel
set_option maxRecDepth 65536 in
theorem w_t3 : (((words1.drop 24).drop 24).take 24).all (fun c => isCode c || c.before args0 about1) = true := by decide +kernel
set_option maxRecDepth 65536 in
theorem w_t4 : ((((words1.drop 24).drop 24).drop 24).take 24).all (fun c => isCode c || c.before args0 about1) = true := by decide +kernel
set_option maxRecDepth 65536 in
theorem w_t5 : (((((words1.drop 24).drop 24).drop 24).drop 24).take 24).all (fun c => isCode c || c.before args0 about1) = true := by decide +kernel
set_option maxRecDepth 65536 in
theorem w_t6 : (((((words1.drop 24).drop 24).drop 24).drop 24).drop 24).all (fun c => isCode c || c.before args0 about1) = true := by decide +kernel
theorem w_tables : (allAtoms (Jvm.Cond.code x code maxLocals ret :: tables_1)).before args0 about1 = true := by
  rw [allAtoms_all]
  show words1.all (fun c => c.before args0 about1) = true
  refine all_split ?_ w_codes
  rw [← List.take_append_drop 24 words1, List.all_append, w_t1, ← List.take_append_drop 24 (words1.drop 24), List.all_append, w_t2, ← List.take_append_drop 24 ((words1.drop 24).drop 24), List.all_append, w_t3, ← List.take_append_drop 24 (((words1.drop 24).drop 24).drop 24), List.all_append, w_t4, ← List.take_append_drop 24 ((((words1.drop 24).drop 24).drop 24).drop 24), List.all_append, w_t5, w_t6]
  rfl
set_option maxRecDepth 65536 in
theorem w_rest : rest_1_c.before args0 about1 = true := by decide +kernel
set_option maxRecDepth 65536 in
theorem w_case : (Jvm.Cond.and given_1 narrow_1).before args0 about1 = true := by decide +kernel
set_option maxRecDepth 65536 in
theorem w_consts : constsHeld consts_1 about1 := Jvm.Lit.constsHeldB_iff.mp (by decide +kernel)
theorem w_applies : (headSpec (Jvm.Cond.code x code maxLocals ret :: tables_1) room_1).applies x e0.platform about1 = true :=
  (Spec.applies_iff w_frames).mpr ⟨w_running, w_runnable, w_alone, w_named, w_hears, w_ripe, w_room, w_tables⟩
theorem atStart : AtStart classFile x code maxLocals ret World_1 tables_1 room_1 Calls_1 rest_1 Pre_1 launch0 p0 e0 about1 theMethod args0 below0 :=
  ⟨lists_1, trivial, launch0.admits_env _ _ _, launch0.least_env, fairChoices_fair.cas, fairChoices_fair.clock, w_frames, w_args, w_heap, w_applies, ⟨w_consts, trivial⟩, w_rest, w_case⟩
end start1
theorem witness_1 : WitnessClaimed_1 := ⟨start1.p0, start1.e0, start1.about1, start1.theMethod, start1.args0, start1.below0, start1.atStart⟩
end Jvm.Pilot.@@N@@
